import PyProof.Rows.All
import Wide.All
import OpenK.AllK
import Wide.FinOn
import PySem.Challenge.RW_mq0099_01
open PySem PySem.W PyProof.Rows
set_option Elab.async false
set_option maxRecDepth 100000
set_option maxHeartbeats 8000000

section
open PySem PySem.W PyProof.Rows
set_option Elab.async false
set_option maxRecDepth 100000
set_option maxHeartbeats 8000000
namespace Mine
open_top hd for PySem.Challenge.rw_mq0099_01
end Mine

end
section
open PySem PySem.W PyProof.Rows
set_option Elab.async false
set_option maxRecDepth 100000
set_option autoImplicit false
set_option maxHeartbeats 4000000
namespace Mine

abbrev Md (w : World) : Model := model Challenge.rw_mq0099_01.row.prog w

/-- h' bears all that h bears -/
def Ext (h h' : Heap) : Prop := ∀ b o, h.get? b = some o → h'.get? b = some o
theorem Ext.refl (h : Heap) : Ext h h := fun _ _ e => e
theorem Ext.trans {a b c : Heap} (x : Ext a b) (y : Ext b c) : Ext a c := fun p o e => y p o (x p o e)

/-- the state but for heap and tokens -/
def Same (s₀ s : Shared) : Prop := ∃ h tk, s = { s₀ with heap := h, toks := tk }
theorem Same.refl (s : Shared) : Same s s := ⟨s.heap, s.toks, rfl⟩
theorem Same.trans {a b c : Shared} (x : Same a b) (y : Same b c) : Same a c := by
  obtain ⟨h, t, rfl⟩ := x; obtain ⟨h', t', rfl⟩ := y; exact ⟨h', t', rfl⟩
theorem Same.mk' {s₀ s : Shared} (x : Same s₀ s) (h : Heap) (t : Nat) : Same s₀ { s with heap := h, toks := t } := by
  obtain ⟨_, _, rfl⟩ := x; exact ⟨h, t, rfl⟩

abbrev Base := Addr → Option Obj
abbrev Own := List (Addr × (Obj → Prop))

def IsL (vs : List Value) (o : Obj) : Prop := ∃ n, o = { cls := .type "list", data := .seq vs.toArray n }
def IsC (v : Option Value) (o : Obj) : Prop := o.data = .cell v
def IsD (w : World) (kvs : List (Int × Value)) (o : Obj) : Prop := o.IsDictOf (intKind Challenge.rw_mq0099_01.row.prog w) kvs

/-- the heap bears at a an object that P is said of -/
def At (h : Heap) (a : Addr) (P : Obj → Prop) : Prop := ∃ o, h.get? a = some o ∧ P o
theorem At.ext {h h' : Heap} {a P} (x : At h a P) (e : Ext h h') : At h' a P := let ⟨o, q, r⟩ := x; ⟨o, e _ _ q, r⟩
theorem At.plain {h : Heap} {a vs} (x : At h a (IsL vs)) : h.PlainList a vs.toArray := let ⟨_, q, n, e⟩ := x; ⟨n, e ▸ q⟩
theorem At.list {h : Heap} {a vs} (x : At h a (IsL vs)) : h.IsList a vs.toArray := x.plain.isList
theorem At.ofPlain {h : Heap} {a vs} (x : h.PlainList a vs) : At h a (IsL vs.toList) := let ⟨n, q⟩ := x; ⟨_, q, n, rfl⟩
theorem At.cell {h : Heap} {a v} (x : At h a (IsC v)) : h.IsCell a v := x
theorem At.dict {h : Heap} {a w kvs} (x : At h a (IsD w kvs)) : h.DictOf (intKind Challenge.rw_mq0099_01.row.prog w) a kvs := Heap.dictOf_iff.mpr x

structure FS (s₀ : Shared) (B : Base) (L : Addr) (m : Str → Option Value) (own : Own) (s : Shared) : Prop where
  same : Same s₀ s
  ns : s.heap.Ns L m
  keep : ∀ b o, B b = some o → s.heap.get? b = some o
  hL : B L = none
  own' : ∀ p ∈ own, p.1 ≠ L ∧ B p.1 = none ∧ At s.heap p.1 p.2
  nd : (own.map (·.1)).Nodup

namespace FS
variable {s₀ s : Shared} {B : Base} {L : Addr} {m : Str → Option Value} {own : Own}

theorem tok (X : FS s₀ B L m own s) (t : Nat) : FS s₀ B L m own { s with toks := t } :=
  ⟨X.same.mk' s.heap t, X.ns, X.keep, X.hL, X.own', X.nd⟩

theorem ext (X : FS s₀ B L m own s) {s' : Shared} (hs : Same s s') (e : Ext s.heap s'.heap) : FS s₀ B L m own s' :=
  ⟨X.same.trans hs, X.ns.keeps e, fun b o q => e b o (X.keep b o q), X.hL, fun p hp => ⟨(X.own' p hp).1, (X.own' p hp).2.1, (X.own' p hp).2.2.ext e⟩, X.nd⟩

theorem at' (X : FS s₀ B L m own s) {a : Addr} {P : Obj → Prop} (hp : (a, P) ∈ own) : At s.heap a P := (X.own' _ hp).2.2

/-- fewer things are known -/
theorem sub (X : FS s₀ B L m own s) {own' : Own} (h : ∀ p ∈ own', p ∈ own) (hn : (own'.map (·.1)).Nodup) : FS s₀ B L m own' s :=
  ⟨X.same, X.ns, X.keep, X.hL, fun p hp => X.own' p (h p hp), hn⟩
theorem tail (X : FS s₀ B L m own s) {p} {r : Own} (h : own = p :: r) : FS s₀ B L m r s := by
  subst h; exact X.sub (fun q hq => List.mem_cons_of_mem _ hq) (List.nodup_cons.mp X.nd).2

theorem congr (X : FS s₀ B L m own s) {m' : Str → Option Value} (h : ∀ y, m y = m' y) : FS s₀ B L m' own s := by
  have : m = m' := funext h
  rw [← this]; exact X

/-- the order of what is owned plays no part -/
theorem perm (X : FS s₀ B L m own s) {own' : Own} (h : own.Perm own') : FS s₀ B L m own' s :=
  ⟨X.same, X.ns, X.keep, X.hL, fun p hp => X.own' p (h.mem_iff.mpr hp), (h.map _).nodup_iff.mp X.nd⟩

/-- a new object, met behind a step that keeps all -/
theorem add (X : FS s₀ B L m own s) {s' : Shared} {a : Addr} {P : Obj → Prop} (hs : Same s s') (e : Ext s.heap s'.heap) (hn : s.heap.get? a = none) (ha : At s'.heap a P) :
    FS s₀ B L m ((a, P) :: own) s' := by
  have Y := X.ext hs e
  refine ⟨Y.same, Y.ns, Y.keep, Y.hL, fun p hp => ?_, ?_⟩
  · rcases List.mem_cons.mp hp with rfl | hp
    · refine ⟨fun q => ?_, ?_, ha⟩
      · obtain ⟨o, _, _, ho, _⟩ := X.ns
        have q' : a = L := q
        rw [← q', hn] at ho; cases ho
      · cases hb : B a with
        | none => rfl
        | some o => have := X.keep a o hb; rw [hn] at this; cases this
    · exact Y.own' p hp
  · rw [List.map_cons, List.nodup_cons]
    refine ⟨fun q => ?_, X.nd⟩
    obtain ⟨p, hp, hq⟩ := List.mem_map.mp q
    obtain ⟨o, ho, _⟩ := (X.own' p hp).2.2
    rw [hq, hn] at ho; cases ho

theorem push (X : FS s₀ B L m own s) {o : Obj} {P : Obj → Prop} (hf : o.isFreed = false) (hP : P o) :
    FS s₀ B L m ((s.heap.objs.size, P) :: own) { s with heap := s.heap.push o } := by
  refine X.add (s' := { s with heap := s.heap.push o }) ⟨_, s.toks, rfl⟩ (fun b o' e => Heap.get?_push_of_some _ e) ?_ ⟨o, Heap.get?_push_size _ hf, hP⟩
  cases e : s.heap.get? s.heap.objs.size with
  | none => rfl
  | some o => exact absurd (Heap.lt_size e) (Nat.lt_irrefl _)

/-- one owned object is turned -/
theorem upd {a : Addr} {P P' : Obj → Prop} {r : Own} (X : FS s₀ B L m ((a, P) :: r) s) {h' : Heap} {t : Nat} (hs : Heap.SameBut a s.heap h') (ha : At h' a P') :
    FS s₀ B L m ((a, P') :: r) { s with heap := h', toks := t } := by
  have Z := X.own' (a, P) (by simp)
  refine ⟨X.same.mk' h' t, X.ns.sameBut hs (Ne.symm Z.1), fun b o q => ?_, X.hL, fun p hp => ?_, X.nd⟩
  · refine (hs.2 b fun e => ?_).trans (X.keep b o q)
    rw [e, Z.2.1] at q; cases q
  · rcases List.mem_cons.mp hp with rfl | hp
    · exact ⟨Z.1, Z.2.1, ha⟩
    · have Y := X.own' p (List.mem_cons_of_mem _ hp)
      refine ⟨Y.1, Y.2.1, ?_⟩
      obtain ⟨o, ho, hP⟩ := Y.2.2
      refine ⟨o, (hs.2 p.1 fun e => ?_).trans ho, hP⟩
      exact (List.nodup_cons.mp X.nd).1 (List.mem_map.mpr ⟨p, hp, e⟩)

theorem store (X : FS s₀ B L m own s) {m' : Str → Option Value} {h' : Heap} {t : Nat} (hn : h'.Ns L m') (hs : Heap.SameBut L s.heap h') : FS s₀ B L m' own { s with heap := h', toks := t } := by
  refine ⟨X.same.mk' h' t, hn, fun b o q => (hs.2 b fun e => ?_).trans (X.keep b o q), X.hL, fun p hp => ?_, X.nd⟩
  · rw [e, X.hL] at q; cases q
  · have Y := X.own' p hp
    obtain ⟨o, ho, hP⟩ := Y.2.2
    exact ⟨Y.1, Y.2.1, o, (hs.2 p.1 Y.1).trans ho, hP⟩

/-- what is owned is laid among what is kept -/
def addB (B : Base) (a : Addr) (o : Obj) : Base := fun b => if b = a then some o else B b
theorem addB_sub {B : Base} {a : Addr} {o : Obj} (h : B a = none) : ∀ b x, B b = some x → addB B a o b = some x := fun b x e => by
  unfold addB; rw [if_neg]; exact e; intro q; rw [q, h] at e; cases e
theorem freeze {a : Addr} {P : Obj → Prop} {r : Own} (X : FS s₀ B L m ((a, P) :: r) s) : ∃ o, P o ∧ B a = none ∧ s.heap.get? a = some o ∧ FS s₀ (addB B a o) L m r s := by
  have Z := X.own' (a, P) (by simp)
  obtain ⟨o, ho, hP⟩ := Z.2.2
  refine ⟨o, hP, Z.2.1, ho, X.same, X.ns, fun b x q => ?_, ?_, fun p hp => ?_, (List.nodup_cons.mp X.nd).2⟩
  · unfold addB at q; split at q
    · rename_i e; subst e; cases q; exact ho
    · exact X.keep b x q
  · unfold addB; rw [if_neg (Ne.symm Z.1)]; exact X.hL
  · have Y := X.own' p (List.mem_cons_of_mem _ hp)
    refine ⟨Y.1, ?_, Y.2.2⟩
    unfold addB; rw [if_neg]; exact Y.2.1
    intro e; exact (List.nodup_cons.mp X.nd).1 (List.mem_map.mpr ⟨p, hp, e⟩)
theorem thaw {a : Addr} {P : Obj → Prop} {o : Obj} {r : Own} (X : FS s₀ (addB B a o) L m r s) (hP : P o) (ha : B a = none) : FS s₀ B L m ((a, P) :: r) s := by
  have hB : ∀ b, addB B a o b = none → b ≠ a ∧ B b = none := fun b q => by
    unfold addB at q; split at q
    · cases q
    · rename_i e; exact ⟨e, q⟩
  refine ⟨X.same, X.ns, fun b x q => X.keep b x (addB_sub ha b x q), (hB L X.hL).2, fun p hp => ?_, ?_⟩
  · rcases List.mem_cons.mp hp with rfl | hp
    · exact ⟨Ne.symm (hB L X.hL).1, ha, o, X.keep a o (by unfold addB; rw [if_pos rfl]), hP⟩
    · have Y := X.own' p hp
      exact ⟨Y.1, (hB _ Y.2.1).2, Y.2.2⟩
  · rw [List.map_cons, List.nodup_cons]
    refine ⟨fun q => ?_, X.nd⟩
    obtain ⟨p, hp, hq⟩ := List.mem_map.mp q
    exact (hB _ (X.own' p hp).2.1).1 hq
/-- a base that is less -/
theorem base (X : FS s₀ B L m own s) {B' : Base} (h : ∀ b o, B' b = some o → B b = some o) : FS s₀ B' L m own s := by
  have hn : ∀ b, B b = none → B' b = none := fun b e => by
    cases q : B' b with
    | none => rfl
    | some o => rw [h b o q] at e; cases e
  exact ⟨X.same, X.ns, fun b o q => X.keep b o (h b o q), hn _ X.hL, fun p hp => ⟨(X.own' p hp).1, hn _ (X.own' p hp).2.1, (X.own' p hp).2.2⟩, X.nd⟩
end FS

/-- the ground: the text's own objects and the built-ins -/
structure GdH (w : World) (h : Heap) : Prop where
  X : (hd.heap_39 w.params).In h
  T : ∃ p loose mean mg mb, Top p loose mean mg mb h
theorem GdH.ext {w : World} {h h' : Heap} (g : GdH w h) (e : Ext h h') : GdH w h' :=
  ⟨g.X.keeps e, let ⟨p, l, me, mg, mb, T⟩ := g.T; ⟨p, l, me, mg, mb, T.keeps e⟩⟩
def GdB (w : World) (B : Base) : Prop := ∀ h : Heap, (∀ b o, B b = some o → h.get? b = some o) → GdH w h
theorem GdB.of {w : World} {h : Heap} (g : GdH w h) : GdB w h.get? := fun _ e => g.ext e
theorem GdB.sub {w : World} {B B' : Base} (g : GdB w B) (h : ∀ b o, B b = some o → B' b = some o) : GdB w B' := fun h' e => g h' fun b o q => e b o (h b o q)
theorem FS.gd {w : World} {s₀ s : Shared} {B : Base} {L : Addr} {m : Str → Option Value} {own : Own} (X : FS s₀ B L m own s) (g : GdB w B) : GdH w s.heap := g _ X.keep

section
variable {w : World} {A : Around} {E : Value → Shared → Prop} {s₀ s : Shared} {B : Base} {L : Addr} {m : Str → Option Value} {own : Own} {env : Env}

theorem nmL {x : Str} {pos : Pos} {v : Value} {Q : Value → Shared → Prop} (X : FS s₀ B env.locals m own s) (hv : m x = some v) (h : Q v s)
    (hk : env.scope.kind = .function := by rfl) (hl : env.kindOf x = some .local := by rfl) (hd : (x == ("__debug__" : Str)) = false := by decide) :
    wpAny (Md w) A (eval (.Name x pos) env) Q E s := wpAny_Name (wpAny_loadName_local hk hl X.ns hv h) hd
theorem nmC {x : Str} {pos : Pos} {c : Addr} {v : Value} {Q : Value → Shared → Prop} (hv : At s.heap c (IsC (some v))) (h : Q v s)
    (hk : env.scope.kind = .function := by rfl) (hl : env.kindOf x = some .cell := by rfl) (hc : env.cells.lookup x = some c := by rfl) (hd : (x == ("__debug__" : Str)) = false := by decide) :
    wpAny (Md w) A (eval (.Name x pos) env) Q E s := wpAny_Name (wpAny_loadName_cell hk hl hc hv.cell h) hd
theorem nmF {x : Str} {pos : Pos} {c : Addr} {v : Value} {Q : Value → Shared → Prop} (hv : At s.heap c (IsC (some v))) (h : Q v s)
    (hk : env.scope.kind = .function := by rfl) (hl : env.kindOf x = some .free := by rfl) (hc : env.cells.lookup x = some c := by rfl) (hd : (x == ("__debug__" : Str)) = false := by decide)
    (hn : (x == ("__classdict__" : Str)) = false := by decide) :
    wpAny (Md w) A (eval (.Name x pos) env) Q E s := wpAny_Name (wpAny_loadName_free hk hl hc hv.cell h hn) hd
theorem nmG {x : Str} {pos : Pos} {v : Value} {Q : Value → Shared → Prop} (g : GdH w s.heap) (e : nsIn (hd.heap_39 w.params) mainGlobals x = some (some v)) (h : Q v s)
    (hk : env.scope.kind = .function := by rfl) (hl : env.kindOf x = some .globalImplicit := by rfl) (hg : env.globals = mainGlobals := by rfl) (hd : (x == ("__debug__" : Str)) = false := by decide) :
    wpAny (Md w) A (eval (.Name x pos) env) Q E s := by
  obtain ⟨p, l, me, mg, mb, T⟩ := g.T
  exact Calls.Name_function_global hk hl (Calls.loadGlobal_global (hg ▸ T.g) (mg_of g.X T.g e) h) hd
theorem nmB {x : Str} {pos : Pos} {v : Value} {Q : Value → Shared → Prop} (g : GdH w s.heap) (e : nsIn (hd.heap_39 w.params) mainGlobals x = some none) (hv : bootBuiltins x = some v) (h : Q v s)
    (hn : x ≠ "__name__" := by decide) (hk : env.scope.kind = .function := by rfl) (hl : env.kindOf x = some .globalImplicit := by rfl) (hg : env.globals = mainGlobals := by rfl) (hb : env.builtins = builtinsNs := by rfl) (hd : (x == ("__debug__" : Str)) = false := by decide) :
    wpAny (Md w) A (eval (.Name x pos) env) Q E s := by
  obtain ⟨p, l, me, mg, mb, T⟩ := g.T
  exact Calls.Name_function_global hk hl (Calls.loadGlobal_builtin (hg ▸ T.g) (mg_none_of g.X T.g e) (hb ▸ T.b) ((T.builtins x hn).trans hv) h) hd

theorem stL {x : Str} {v : Value} {Q : Unit → Shared → Prop} (X : FS s₀ B env.locals m own s)
    (h : ∀ s', FS s₀ B env.locals (fun y => if y = x then some v else m y) own s' → Q () s')
    (hk : env.scope.kind = .function := by rfl) (hl : env.kindOf x = some .local := by rfl) : wpAny (Md w) A (storeName env x v) Q E s :=
  wpAny_storeName_local hl X.ns (fun _ hn hs => h _ (X.store hn hs)) (by rw [hk]; rfl)
theorem stC {x : Str} {v : Value} {v₀ : Option Value} {c : Addr} {r : Own} {Q : Unit → Shared → Prop} (X : FS s₀ B L m ((c, IsC v₀) :: r) s)
    (h : ∀ s', FS s₀ B L m ((c, IsC (some v)) :: r) s' → Q () s')
    (hk : env.scope.kind = .function := by rfl) (hl : env.kindOf x = some .cell := by rfl) (hc : env.cells.lookup x = some c := by rfl) : wpAny (Md w) A (storeName env x v) Q E s :=
  wpAny_storeName_cell hk hl hc (X.at' (P := IsC v₀) (.head _)).cell fun h' hv hs => h _ (X.upd (t := s.toks) hs hv)
end
end Mine

end
section
open PySem PySem.W PyProof.Rows
set_option Elab.async false
set_option maxRecDepth 100000
set_option autoImplicit false
set_option linter.unusedVariables false
set_option maxHeartbeats 4000000
namespace Mine

/-- room: d frames, u units of the C stack -/
structure Rm (A : Around) (d u : Nat) : Prop where
  hh : A.handled = none
  dp : A.depth + d < recursionLimit
  un : A.units + u < cLine
theorem Rm.deeper {A : Around} {d u : Nat} (r : Rm A (d + 1) (u + 3)) (env : Env) : Rm (A.deeper env) d u := by
  obtain ⟨a, b, c⟩ := r
  refine ⟨a, ?_, ?_⟩
  · show A.depth + 1 + d < _; omega
  · show A.units + 3 + u < _; omega
theorem Rm.le {A : Around} {d u d' u' : Nat} (r : Rm A d u) (h1 : d' ≤ d) (h2 : u' ≤ u) : Rm A d' u' := by
  obtain ⟨a, b, c⟩ := r
  exact ⟨a, by omega, by omega⟩
theorem Rm.in1 {A : Around} {d u : Nat} (r : Rm A d (u + 1)) : Rm A.in1 d u := by
  obtain ⟨a, b, c⟩ := r
  refine ⟨a, b, ?_⟩
  show A.units + 1 + u < _; omega

def retv (f : Flow) : Value := match f with | .ret v => v | _ => .none

def AtB (B : Base) (a : Addr) (P : Obj → Prop) : Prop := ∃ o, B a = some o ∧ P o
theorem AtB.at {B : Base} {a P} (x : AtB B a P) {h : Heap} (k : ∀ b o, B b = some o → h.get? b = some o) : At h a P := let ⟨o, e, r⟩ := x; ⟨o, k _ _ e, r⟩
theorem AtB.sub {B B' : Base} {a P} (x : AtB B a P) (k : ∀ b o, B b = some o → B' b = some o) : AtB B' a P := let ⟨o, e, r⟩ := x; ⟨o, k _ _ e, r⟩

theorem FS.rebase {s s' : Shared} {L : Addr} {m : Str → Option Value} (X : FS s s.heap.get? L m [] s') {B : Base} {own : Own} (hB : ∀ b o, B b = some o → s.heap.get? b = some o)
    (ho : ∀ p ∈ own, B p.1 = none ∧ At s.heap p.1 p.2) (hn : (own.map (·.1)).Nodup) : FS s B L m own s' := by
  have Y := X.base hB
  refine ⟨Y.same, Y.ns, Y.keep, Y.hL, fun p hp => ⟨fun e => ?_, (ho p hp).1, (ho p hp).2.ext X.keep⟩, hn⟩
  obtain ⟨o, q, _⟩ := (ho p hp).2
  have := X.hL
  rw [← e, q] at this; cases this

section
variable {w : World} {A : Around} {E : Value → Shared → Prop} {s : Shared}

/-- a def of the text is entered; it raises nothing -/
theorem enter {a : Addr} {o : Obj} {fd : FuncData} {body : List Stmt} {vals : List Value} {binds : List (Str × Value)} {Q : Value → Shared → Prop} (hroom : A.depth < recursionLimit)
    (ho : s.heap.get? a = some o) (hdata : o.data = .func fd) (g : GdH w s.heap) (hcd : s.heap.CodeRec fd.code fd.qualname) (hbody : fd.body = .stmts body) (hbind : bindArgs fd ⟨vals, []⟩ = pure binds)
    (hcell : ∀ x ∈ fd.scope.names, x.2 ≠ .cell) (hloc : ∀ x ∈ binds, fd.scope.names.lookup x.1 = some .local)
    (h : ∀ L s', FS s s.heap.get? L (fun x => binds.reverse.lookup x) [] s' →
      wpAny (Md w) (A.deeper (callEnv fd L a)) (execs body (callEnv fd L a)) (fun f s' => Q (retv f) s') (fun _ _ => False) s')
    (hco : fd.scope.isCoroutine = false := by rfl) (hgen : fd.scope.isGenerator = false := by rfl) (hk : fd.scope.kind = .function := by rfl) : wpAny (Md w) A (call (.ref a) vals) Q E s := by
  refine wpAny_call (codeAny_call_def hroom ho hdata (let ⟨_, _, _, _, _, T⟩ := g.T; T.nolimit) hcd hbody (BindsTo.of_eq hbind) hcell hloc (fun h₀ hns hk₀ => ?_) hco hgen hk)
  have hn : s.heap.get? s.heap.objs.size = none := by
    cases e : s.heap.get? s.heap.objs.size with
    | none => rfl
    | some o => exact absurd (Heap.lt_size e) (Nat.lt_irrefl _)
  exact wpAny_mono (h s.heap.objs.size _ ⟨⟨h₀, _, rfl⟩, hns, hk₀, hn, (fun _ hp => by cases hp), List.Pairwise.nil⟩) (fun f s' q => by cases f <;> exact q) fun _ _ q => q.elim

/-- the same, some names being cells -/
theorem enterC {a : Addr} {o : Obj} {fd : FuncData} {body : List Stmt} {vals : List Value} {binds : List (Str × Value)} {Q : Value → Shared → Prop} (hroom : A.depth < recursionLimit)
    (ho : s.heap.get? a = some o) (hdata : o.data = .func fd) (g : GdH w s.heap) (hcd : s.heap.CodeRec fd.code fd.qualname) (hbody : fd.body = .stmts body) (hbind : BindsTo s fd ⟨vals, []⟩ binds)
    (hclo : fd.closure = []) (hkind : (binds.all fun y => fd.scope.names.lookup y.1 == some .local || fd.scope.names.lookup y.1 == some .cell) = true)
    (hnd : ((cellsFrom 0 fd.scope.names []).map (·.1)).Nodup)
    (h : ∀ L s', FS s s.heap.get? L (bindL (callEnvC fd L a).kindOf binds fun _ => none)
        ((cellsFrom (L + 1) fd.scope.names []).map fun nc => (nc.2, IsC (bindC (callEnvC fd L a).kindOf binds (fun _ => none) nc.1))) s' →
      wpAny (Md w) (A.deeper (callEnvC fd L a)) (execs body (callEnvC fd L a)) (fun f s' => Q (retv f) s') (fun _ _ => False) s')
    (hco : fd.scope.isCoroutine = false := by rfl) (hgen : fd.scope.isGenerator = false := by rfl) (hk : fd.scope.kind = .function := by rfl) : wpAny (Md w) A (call (.ref a) vals) Q E s := by
  have hlim : s.heap.NoLimit := let ⟨_, _, _, _, _, T⟩ := g.T; T.nolimit
  refine wpAny_call (codeAny_call_function hroom ho hdata hco hgen hbody hcd (hbind _ _ _ _ ?_))
  rw [hclo]
  refine wpAny_newFunctionEnv_cells hk (kindsX hkind _) fun env' he s' x => ?_
  subst he
  refine ⟨hlim.keeps x.toInCall.keep, codeAny_func ?_⟩
  have hn : s.heap.get? s.heap.objs.size = none := by
    cases e : s.heap.get? s.heap.objs.size with
    | none => rfl
    | some o => exact absurd (Heap.lt_size e) (Nat.lt_irrefl _)
  have hnew : ∀ c, s.heap.objs.size ≤ c → s.heap.get? c = none := fun c hc => by
    cases e : s.heap.get? c with
    | none => rfl
    | some o => exact absurd (Heap.lt_size e) (Nat.not_lt.mpr hc)
  refine wpAny_mono (h s.heap.objs.size s' ⟨x.toInCall.same, x.toInCall.ns, x.toInCall.keep, hn, fun p hp => ?_, ?_⟩) (fun f s' q => by cases f <;> exact q) fun _ _ q => q.elim
  · obtain ⟨⟨n, c⟩, hm, rfl⟩ := List.mem_map.mp hp
    have hab : s.heap.objs.size < c := x.above n c hm
    exact ⟨Nat.ne_of_gt hab, hnew _ (Nat.le_of_lt hab), x.cell n c (lookup_of_mem_nodup (cellsFrom_names fd.scope.names 0 (s.heap.objs.size + 1) [] [] rfl ▸ hnd) hm)⟩
  · have := x.apart
    rw [List.map_map]
    show (List.map (fun (nc : Str × Addr) => nc.2) _).Nodup
    rw [List.Nodup, List.pairwise_map]
    exact this
end

theorem FS.next {s₀ s : Shared} {B : Base} {L I : Addr} {m : Str → Option Value} {own : Own} {P : Obj → Prop} (X : FS s₀ B L m ((I, P) :: own) s) {h₁ : Heap} (t : Nat)
    (hk : ∀ b o, b ∉ [I] → s.heap.get? b = some o → h₁.get? b = some o) : FS s₀ B L m own { s with heap := h₁, toks := t } := by
  have hI := X.own' (I, P) (.head _)
  have hIown : ∀ p ∈ own, p.1 ≠ I := fun p hp e => (List.nodup_cons.mp X.nd).1 (List.mem_map.mpr ⟨p, hp, e⟩)
  have hk₂ : ∀ b o, b ≠ I → s.heap.get? b = some o → h₁.get? b = some o := fun b o hb e => hk b o (by simpa using hb) e
  refine ⟨X.same.mk' h₁ t, X.ns.at' fun o e => hk₂ _ o (Ne.symm hI.1) e, fun b o e => hk₂ b o (fun q => ?_) (X.keep b o e), X.hL, fun p hp => ?_, (List.nodup_cons.mp X.nd).2⟩
  · rw [q, hI.2.1] at e; cases e
  · have Y := X.own' p (.tail _ hp)
    obtain ⟨o, ho, hP⟩ := Y.2.2
    exact ⟨Y.1, Y.2.1, o, hk₂ _ _ (hIown p hp) ho, hP⟩
theorem FS.next' {s₀ s : Shared} {B : Base} {L I : Addr} {m : Str → Option Value} {own : Own} {P : Obj → Prop} (X : FS s₀ B L m ((I, P) :: own) s) {h₁ : Heap} {o : Obj} (t : Nat)
    (hk : ∀ b o, b ∉ [I] → s.heap.get? b = some o → h₁.get? b = some o) (ho : h₁.get? I = some o) : FS s₀ B L m ((I, fun x => x = o) :: own) { s with heap := h₁, toks := t } := by
  have Y := X.next t hk
  have hI := X.own' (I, P) (.head _)
  refine ⟨Y.same, Y.ns, Y.keep, Y.hL, fun p hp => ?_, X.nd⟩
  rcases List.mem_cons.mp hp with rfl | hp
  · exact ⟨hI.1, hI.2.1, o, ho, rfl⟩
  · exact Y.own' p hp

theorem FS.thawAt {s₀ s : Shared} {B : Base} {L a : Addr} {m : Str → Option Value} {P : Obj → Prop} {o : Obj} {p : Addr × (Obj → Prop)} {r : Own} (X : FS s₀ (FS.addB B a o) L m (p :: r) s) (ha : B a = none) (hP : P o) :
    FS s₀ B L m (p :: (a, P) :: r) s := (X.thaw hP ha).perm (List.Perm.swap _ _ _)

/-- what a loop goes over -/
structure Src (w : World) (A : Around) (B : Base) (I : Addr) (n : Nat) (P : Nat → Value → Prop) (St : Nat → Heap → Prop) : Prop where
  W : ∃ fp, Walks Challenge.rw_mq0099_01.row.prog w A I fp [I] n P St ∧ ∀ b ∈ fp, b = I ∨ ∃ o, B b = some o
  ex : ∀ i h, St i h → ∃ o, h.get? I = some o

section
variable {w : World} {A : Around} {E : Value → Shared → Prop} {s₀ s : Shared} {B : Base} {m : Str → Option Value} {own : Own} {env : Env} {I : Addr} {n : Nat} {P : Nat → Value → Prop} {St : Nat → Heap → Prop}

theorem for_src {x : Str} {px : Pos} {body orelse : List Stmt} {R : Result → Shared → Prop} {L : Addr} (S : Src w A B I n P St) (X : FS s₀ B L m ((I, fun _ => True) :: own) s) (hst : St 0 s.heap)
    (J : Nat → (Str → Option Value) → Own → Prop) (Kb : (Str → Option Value) → Own → Prop) (Kr : Value → (Str → Option Value) → Own → Prop) (h0 : J 0 m own)
    (turn : ∀ i v B' m own s, (∀ b o, B b = some o → B' b = some o) → i < n → P i v → J i m own → FS s₀ B' L m own s →
      wpAny (Md w) A (storeName env x v) (fun _ s => wpAny (Md w) A (execs body env)
        (fun f s' => ∃ m' own', FS s₀ B' L m' own' s' ∧ (match f with | .next => J (i + 1) m' own' | .cont => J (i + 1) m' own' | .brk => Kb m' own' | .ret v => Kr v m' own')) (fun _ _ => False) s) (fun _ _ => False) s)
    (done : ∀ m own s, J n m own → FS s₀ B L m own s → wpAny (Md w) A (execs orelse env) (fun f s' => R (.ok f) s') (fun _ _ => False) s)
    (brk : ∀ m own s, Kb m own → FS s₀ B L m own s → R (.ok .next) s)
    (ret : ∀ v m own s, Kr v m own → FS s₀ B L m own s → R (.ok (.ret v)) s) :
    codeAny (Md w) A (.forLoop (.Name x px) (.ref I) body orelse env) R s := by
  obtain ⟨⟨fp, W, hfp⟩, hex⟩ := S
  refine codeAny_forLoop (fun k s' => ∃ i m own, k = n + 1 - i ∧ i ≤ n ∧ St i s'.heap ∧ FS s₀ B L m ((I, fun _ => True) :: own) s' ∧ J i m own) ?_ (n + 1) ⟨0, m, own, rfl, Nat.zero_le _, hst, X, h0⟩
  rintro k s' ⟨i, m₁, own₁, rfl, hi, hst', X', hJ⟩
  have hI := X'.own' (I, fun _ => True) (.head _)
  by_cases hlt : i < n
  · refine W.item i s' _ _ hlt hst' fun v h₁ tk₁ hP hst₁ hk₁ => ?_
    obtain ⟨oI, hoI⟩ := hex _ _ hst₁
    have X₁ := X'.next tk₁ hk₁
    have X₁' := X'.next' tk₁ hk₁ hoI
    obtain ⟨o', rfl, hIn, hIs, X₃⟩ := X₁'.freeze
    have stay : ∀ h', (∀ b x, FS.addB B I o' b = some x → h'.get? b = some x) → St (i + 1) h' := fun h' hk' => by
      refine W.frame _ _ _ hst₁ fun b hb x e => ?_
      rcases hfp b hb with rfl | ⟨o, ho⟩
      · rw [hoI] at e; cases e
        exact hk' _ _ (by unfold FS.addB; rw [if_pos rfl])
      · have := X₁.keep b o ho
        rw [this] at e; cases e
        exact hk' _ _ (FS.addB_sub hIn b _ ho)
    refine wpAny_assign_Name (wpAny_mono (turn i v _ m₁ own₁ _ (FS.addB_sub hIn) hlt hP hJ X₃) (fun _ s₂ q => ?_) fun _ _ q => q.elim)
    refine wpAny_mono q (fun f s₃ q => ?_) fun _ _ q => q.elim
    obtain ⟨m', own', X₄, q⟩ := q
    have X₅ := X₄.thaw (P := fun _ => True) trivial hIn
    cases f with
    | next => exact ⟨n + 1 - (i + 1), by omega, i + 1, m', own', rfl, hlt, stay _ X₄.keep, X₅, q⟩
    | cont => exact ⟨n + 1 - (i + 1), by omega, i + 1, m', own', rfl, hlt, stay _ X₄.keep, X₅, q⟩
    | brk => exact brk m' own' s₃ q (X₅.tail rfl)
    | ret v => exact ret v m' own' s₃ q (X₅.tail rfl)
  · have hin : i = n := by omega
    subst hin
    refine W.done s' _ _ hst' fun h₁ tk₁ hk₁ => ?_
    exact wpAny_mono (done m₁ own₁ _ hJ (X'.next tk₁ hk₁)) (fun _ _ q => q) fun _ _ q => q.elim
end
end Mine

end
section
open PySem PySem.W PyProof.Rows
set_option Elab.async false
set_option maxRecDepth 100000
set_option autoImplicit false
set_option linter.unusedVariables false
set_option maxHeartbeats 4000000
namespace Mine

def IsT (vs : List Value) (o : Obj) : Prop := o.cls = .type "tuple" ∧ ∃ n, o.data = .seq vs.toArray n

theorem Src.sub {w : World} {A : Around} {B B' : Base} {I : Addr} {n : Nat} {P : Nat → Value → Prop} {St : Nat → Heap → Prop} (S : Src w A B I n P St) (h : ∀ b o, B b = some o → B' b = some o) : Src w A B' I n P St := by
  obtain ⟨⟨fp, W, hfp⟩, ex⟩ := S
  exact ⟨⟨fp, W, fun b hb => (hfp b hb).imp id fun ⟨o, e⟩ => ⟨o, h b o e⟩⟩, ex⟩

section
variable {w : World} {A : Around} {E : Value → Shared → Prop} {s₀ s : Shared} {B : Base} {L : Addr} {m : Str → Option Value} {own : Own}

theorem it_list {a : Addr} {vs : List Value} {Q : Value → Shared → Prop} (hh : A.handled = none) (X : FS s₀ B L m own s) (ha : AtB B a (IsL vs))
    (h : ∀ I s' St, FS s₀ B L m ((I, fun _ => True) :: own) s' → Ext s.heap s'.heap → s.heap.get? I = none → Same s s' → Src w A B I vs.length (fun i v => vs[i]? = some v) St → St 0 s'.heap → Q (.ref I) s') :
    wpAny (Md w) A (pyIter (.ref a)) Q E s := by
  have hl := (ha.at X.keep).list
  obtain ⟨o, ho, hP⟩ := ha
  have hn : s.heap.get? s.heap.objs.size = none := by
    cases e : s.heap.get? s.heap.objs.size with
    | none => rfl
    | some o => exact absurd (Heap.lt_size e) (Nat.lt_irrefl _)
  have hne : a ≠ s.heap.objs.size := fun e => by
    have := X.keep a o ho; rw [e, hn] at this; cases this
  refine wpAny_pyIter_list hl ?_
  have e : Ext s.heap (s.heap.push { cls := .type "list_iterator", data := .fields #[.ref a, .int 0 0] }) := fun b o e => Heap.get?_push_of_some _ e
  refine h _ _ (fun i h => h.IsListIter s.heap.objs.size a i ∧ h.IsList a vs.toArray) (X.push rfl trivial) e hn ⟨_, s.toks, rfl⟩ ⟨⟨[s.heap.objs.size, a], ?_, ?_⟩, ?_⟩ ⟨⟨_, Heap.get?_push_size _ rfl, rfl, rfl⟩, hl.at fun o q => e _ _ q⟩
  · have W := Walks.list (prog := Challenge.rw_mq0099_01.row.prog) (w := w) hh s.heap.objs.size a hne vs.toArray
    simpa using W
  · intro b hb
    rcases List.mem_cons.mp hb with rfl | hb
    · exact .inl rfl
    · rw [List.mem_singleton.mp hb]; exact .inr ⟨o, ho⟩
  · rintro i h ⟨⟨o, q, _⟩, _⟩; exact ⟨o, q⟩

theorem it_tuple {a : Addr} {vs : List Value} {Q : Value → Shared → Prop} (hh : A.handled = none) (X : FS s₀ B L m own s) (ha : AtB B a (IsT vs))
    (h : ∀ I s' St, FS s₀ B L m ((I, fun _ => True) :: own) s' → Ext s.heap s'.heap → s.heap.get? I = none → Same s s' → Src w A B I vs.length (fun i v => vs[i]? = some v) St → St 0 s'.heap → Q (.ref I) s') :
    wpAny (Md w) A (pyIter (.ref a)) Q E s := by
  have hl : s.heap.IsTuple a vs.toArray := by
    obtain ⟨o, ho, h1, h2⟩ := ha.at X.keep
    exact ⟨o, ho, h1, h2⟩
  obtain ⟨o, ho, hP⟩ := ha
  have hn : s.heap.get? s.heap.objs.size = none := by
    cases e : s.heap.get? s.heap.objs.size with
    | none => rfl
    | some o => exact absurd (Heap.lt_size e) (Nat.lt_irrefl _)
  have hne : a ≠ s.heap.objs.size := fun e => by
    have := X.keep a o ho; rw [e, hn] at this; cases this
  refine wpAny_pyIter_tuple hl ?_
  have e : Ext s.heap (s.heap.push { cls := .type "tuple_iterator", data := .fields #[.ref a, .int 0 0] }) := fun b o e => Heap.get?_push_of_some _ e
  refine h _ _ (fun i h => h.IsTupleIter s.heap.objs.size a i ∧ h.IsTuple a vs.toArray) (X.push rfl trivial) e hn ⟨_, s.toks, rfl⟩ ⟨⟨[s.heap.objs.size, a], ?_, ?_⟩, ?_⟩ ⟨⟨_, Heap.get?_push_size _ rfl, rfl, rfl⟩, hl.at fun o q => e _ _ q⟩
  · have W := Walks.tuple (prog := Challenge.rw_mq0099_01.row.prog) (w := w) hh s.heap.objs.size a hne vs.toArray
    simpa using W
  · intro b hb
    rcases List.mem_cons.mp hb with rfl | hb
    · exact .inl rfl
    · rw [List.mem_singleton.mp hb]; exact .inr ⟨o, ho⟩
  · rintro i h ⟨⟨o, q, _⟩, _⟩; exact ⟨o, q⟩

theorem it_dict {a : Addr} {kvs : List (Int × Value)} {Q : Value → Shared → Prop} (hh : A.handled = none) (X : FS s₀ B L m own s) (ha : AtB B a (IsD w kvs)) (hsys : (a == sysModules) = false)
    (h : ∀ I s' St, FS s₀ B L m ((I, fun _ => True) :: own) s' → Ext s.heap s'.heap → s.heap.get? I = none → Same s s' → Src w A B I kvs.length (fun i v => ∃ k x t, kvs[i]? = some (k, x) ∧ v = .int k t) St → St 0 s'.heap → Q (.ref I) s') :
    wpAny (Md w) A (pyIter (.ref a)) Q E s := by
  obtain ⟨ep, hl⟩ := (ha.at X.keep).dict.dictAt
  obtain ⟨o, ho, hP⟩ := ha
  have hn : s.heap.get? s.heap.objs.size = none := by
    cases e : s.heap.get? s.heap.objs.size with
    | none => rfl
    | some o => exact absurd (Heap.lt_size e) (Nat.lt_irrefl _)
  have hne : a ≠ s.heap.objs.size := fun e => by
    have := X.keep a o ho; rw [e, hn] at this; cases this
  refine wpAny_pyIter_dict hsys hl ?_
  have e : Ext s.heap (s.heap.push { cls := .type "dict_keyiterator", data := .fields #[.ref a, .int 0 0, .int kvs.length 0, .int ep 0] }) := fun b o e => Heap.get?_push_of_some _ e
  refine h _ _ (fun i h => h.IsKeyIter s.heap.objs.size a i kvs.length ep ∧ h.DictAt (intKind Challenge.rw_mq0099_01.row.prog w) a kvs ep) (X.push rfl trivial) e hn ⟨_, s.toks, rfl⟩ ⟨⟨[s.heap.objs.size, a], ?_, ?_⟩, ?_⟩
    ⟨⟨_, Heap.get?_push_size _ rfl, rfl, rfl⟩, hl.at' fun o q => e _ _ q⟩
  · have W := Walks.dictKeys (prog := Challenge.rw_mq0099_01.row.prog) (w := w) (knd := intKind Challenge.rw_mq0099_01.row.prog w) (A := A) hh s.heap.objs.size a hne kvs ep
    refine ⟨W.sub, W.frame, fun i s Q E hi st hQ => W.item i s Q E hi st fun v h' tk hP => ?_, W.done, W.self⟩
    obtain ⟨k, x, h1, h2⟩ := hP
    obtain ⟨t, rfl⟩ := Value.isInt_shape h2
    exact hQ _ h' tk ⟨k, x, t, h1, rfl⟩
  · intro b hb
    rcases List.mem_cons.mp hb with rfl | hb
    · exact .inl rfl
    · rw [List.mem_singleton.mp hb]; exact .inr ⟨o, ho⟩
  · rintro i h ⟨⟨o, q, _⟩, _⟩; exact ⟨o, q⟩
end
end Mine

end
section
open PySem PySem.W PyProof.Rows
set_option Elab.async false
set_option maxRecDepth 100000
set_option autoImplicit false
set_option linter.unusedVariables false
set_option maxHeartbeats 4000000
namespace Mine

theorem cellsFrom_acc : ∀ (names : List (Str × NameKind)) (n : Nat) (acc : List (Str × Addr)), cellsFrom n names acc = cellsFrom n names [] ++ acc
  | [], _, _ => rfl
  | (name, kind) :: r, n, acc => by
    unfold cellsFrom
    split
    · rw [cellsFrom_acc r (n + 1) ((name, n) :: acc), cellsFrom_acc r (n + 1) [(name, n)], List.append_assoc]; rfl
    · exact cellsFrom_acc r n acc

abbrev cellOwn (cs : List (Str × Addr)) (cm : Str → Option Value) : Own := cs.map fun nc => (nc.2, IsC (cm nc.1))

section
variable {w : World} {A : Around} {E : Value → Shared → Prop} {s₀ s : Shared} {B : Base} {m : Str → Option Value} {env : Env}

theorem bindFS (f : Str × Value → PUnit → Sem (ForInStep PUnit)) (hf : ∀ n v u, f (n, v) u = (do storeName env n v; pure (.yield ⟨⟩))) (hk : env.scope.kind = .function) (cs : List (Str × Addr))
    (hcs : ∀ n c, (n, c) ∈ cs → env.cells.lookup n = some c) (hnd : (cs.map (·.1)).Nodup) :
    ∀ (binds : List (Str × Value)) (m cm : Str → Option Value) (s : Shared) (Q : PUnit → Shared → Prop),
      (∀ x ∈ binds, env.kindOf x.1 = some .local ∨ (env.kindOf x.1 = some .cell ∧ ∃ c, (x.1, c) ∈ cs)) → FS s₀ B env.locals m (cellOwn cs cm) s →
      (∀ s', FS s₀ B env.locals (bindL env.kindOf binds m) (cellOwn cs (bindC env.kindOf binds cm)) s' → Q ⟨⟩ s') → wpAny (Md w) A (forIn binds ⟨⟩ f) Q E s
  | [], m, cm, s, Q, _, X, h => by rw [List.forIn_nil]; exact wpAny_pure (h s X)
  | (n, v) :: r, m, cm, s, Q, hkind, X, h => by
    rw [List.forIn_cons, hf]
    have hr : ∀ y ∈ r, env.kindOf y.1 = some .local ∨ (env.kindOf y.1 = some .cell ∧ ∃ c, (y.1, c) ∈ cs) := fun y hy => hkind y (List.mem_cons_of_mem _ hy)
    rcases hkind (n, v) List.mem_cons_self with hl | ⟨hl, c, hc⟩
    · refine wpAny_bind (wpAny_bind (stL X (fun s' X' => wpAny_pure (bindFS f hf hk cs hcs hnd r _ _ s' Q hr X' fun s'' X'' => h s'' ?_)) hk hl))
      unfold bindL bindC; rw [if_pos hl, if_pos hl]; exact X''
    · have hnl : ¬ env.kindOf n = some .local := by rw [hl]; decide
      have hmem : (c, IsC (cm n)) ∈ cellOwn cs cm := List.mem_map.mpr ⟨(n, c), hc, rfl⟩
      have Z := X.own' _ hmem
      refine wpAny_bind (wpAny_bind (wpAny_storeName_cell hk hl (hcs n c hc) Z.2.2.cell fun h' hv hs => wpAny_pure (bindFS f hf hk cs hcs hnd r m (fun y => if y = n then some v else cm y) _ Q hr ?_ fun s'' X'' => h s'' ?_)))
      · refine ⟨X.same.mk' h' s.toks, X.ns.sameBut hs (Ne.symm Z.1), fun b o q => (hs.2 b fun e => ?_).trans (X.keep b o q), X.hL, fun p hp => ?_, ?_⟩
        · rw [e] at q; have := Z.2.1; rw [q] at this; cases this
        · obtain ⟨⟨n', c'⟩, hm, rfl⟩ := List.mem_map.mp hp
          have Y := X.own' (c', IsC (cm n')) (List.mem_map.mpr ⟨(n', c'), hm, rfl⟩)
          refine ⟨Y.1, Y.2.1, ?_⟩
          dsimp only
          by_cases hnn : n' = n
          · subst hnn
            have : c' = c := by have h1 := hcs _ _ hm; rw [hcs _ _ hc] at h1; exact (Option.some.inj h1).symm
            subst this
            rw [if_pos rfl]; exact hv
          · rw [if_neg hnn]
            obtain ⟨o, ho, hP⟩ := Y.2.2
            refine ⟨o, (hs.2 c' fun e => ?_).trans ho, hP⟩
            have hndc : (cs.map (·.2)).Nodup := by
              have := X.nd
              unfold cellOwn at this
              rw [List.map_map] at this
              exact this
            exact hnn (by
              have hp2 : cs.Pairwise fun x y => x.2 ≠ y.2 := List.pairwise_map.mp hndc
              exact name_of_addr hp2 hm (by rw [e]; exact hc))
        · have := X.nd
          unfold cellOwn at this ⊢
          rw [List.map_map] at this ⊢
          exact this
      · unfold bindL bindC; rw [if_neg hnl, if_neg hnl]; exact X''

theorem newEnvFS {scope : Scope} {globals : Addr} {closure : List (Str × Addr)} {binds : List (Str × Value)} {qual : Str} {func : Option Addr} {code : Value} {around : Option Env} {builtins : Addr} {Q : Env → Shared → Prop}
    (hk : scope.kind = .function) (hnd : ((cellsFrom 0 scope.names []).map (·.1)).Nodup)
    (hkind : (binds.all fun y => scope.names.lookup y.1 == some .local || scope.names.lookup y.1 == some .cell) = true)
    (hQ : ∀ L env s', env = newEnv scope L globals (cellsFrom (L + 1) scope.names closure) qual func code around builtins → s.heap.objs.size = L →
      FS s s.heap.get? L (bindL env.kindOf binds fun _ => none) (cellOwn (cellsFrom (L + 1) scope.names []) (bindC env.kindOf binds fun _ => none)) s' → Q env s') :
    wpAny (Md w) A (newFunctionEnv scope globals closure binds qual func code around builtins) Q E s := by
  have hnew : ∀ c, s.heap.objs.size ≤ c → s.heap.get? c = none := fun c hc => by
    cases e : s.heap.get? c with
    | none => rfl
    | some o => exact absurd (Heap.lt_size e) (Nat.not_lt.mpr hc)
  simp only [newFunctionEnv]
  refine wpAny_bind (wpAny_alloc ?_)
  refine wpAny_bind (wpAny_layCells _ (fun name kind cells => by cases hkc : kind == NameKind.cell <;> simp [hkc]) _ _ _ _ ?_)
  generalize hcl : Value.type (if around.isSome = true then "dict" else "frame") = cl
  have ok := cellsFrom_ok scope.names (s.heap.push { cls := cl, data := .dict #[] }) (s.heap.objs.size + 1) [] ⟨fun _ _ hm => (nomatch hm), List.Pairwise.nil⟩ (by rw [Heap.size_push]; exact Nat.le_refl _)
  rw [Heap.size_push] at ok
  rw [show ({ s with heap := s.heap.push { cls := cl, data := .dict #[] } } : Shared).heap.objs.size = s.heap.objs.size + 1 from Heap.size_push ..]
  have hnd' : ((cellsFrom (s.heap.objs.size + 1) scope.names []).map (·.1)).Nodup := cellsFrom_names scope.names 0 (s.heap.objs.size + 1) [] [] rfl ▸ hnd
  have hloc : (newEnv scope s.heap.objs.size globals (cellsFrom (s.heap.objs.size + 1) scope.names closure) qual func code around builtins).locals = s.heap.objs.size := by cases around <;> rfl
  have hcells : (newEnv scope s.heap.objs.size globals (cellsFrom (s.heap.objs.size + 1) scope.names closure) qual func code around builtins).cells = cellsFrom (s.heap.objs.size + 1) scope.names closure := by cases around <;> rfl
  have hsc : (newEnv scope s.heap.objs.size globals (cellsFrom (s.heap.objs.size + 1) scope.names closure) qual func code around builtins).scope = scope := by cases around <;> rfl
  have X₀ : FS s s.heap.get? s.heap.objs.size (fun _ => none) (cellOwn (cellsFrom (s.heap.objs.size + 1) scope.names []) fun _ => none)
      { s with heap := pushCells (s.heap.push { cls := cl, data := .dict #[] }) scope.names } := by
    refine ⟨⟨_, s.toks, rfl⟩, (Heap.Ns.new s.heap cl).keeps (pushCells_keeps _ _), fun b o e => pushCells_keeps _ _ b o (Heap.get?_push_of_some _ e), hnew _ (Nat.le_refl _), fun p hp => ?_, ?_⟩
    · obtain ⟨⟨n, c⟩, hm, rfl⟩ := List.mem_map.mp hp
      have := ok.empty n c hm
      exact ⟨Nat.ne_of_gt this.2, hnew _ (Nat.le_of_lt this.2), this.1⟩
    · unfold cellOwn
      rw [List.map_map]
      show (List.map (fun (nc : Str × Addr) => nc.2) _).Nodup
      rw [List.Nodup, List.pairwise_map]
      exact ok.apart
  generalize hE : newEnv scope s.heap.objs.size globals (cellsFrom (s.heap.objs.size + 1) scope.names closure) qual func code around builtins = env' at hloc hcells hsc
  have hko : ∀ y, env'.kindOf y = scope.names.lookup y := fun y => by unfold Env.kindOf; rw [hsc]
  have goal := bindFS (w := w) (A := A) (E := E) (s₀ := s) (B := s.heap.get?) (env := env') (fun x u => (do storeName env' x.1 x.2; pure (.yield ⟨⟩))) (fun _ _ _ => rfl) (by rw [hsc]; exact hk) (cellsFrom (s.heap.objs.size + 1) scope.names [])
    (fun n c hm => by
      rw [hcells, cellsFrom_acc, List.lookup_append, lookup_of_mem_nodup hnd' hm]; rfl) hnd' binds (fun _ => none) (fun _ => none) _ (fun _ s' => Q env' s')
    (fun x hx => by
      rw [hko]
      have := List.all_eq_true.mp hkind x hx
      rcases Bool.or_eq_true_iff.mp this with q | q
      · exact .inl (by simpa using q)
      · have q' : scope.names.lookup x.1 = some .cell := by simpa using q
        have := cellsFrom_some (x := x.1) scope.names (s.heap.objs.size + 1) [] (.inl q')
        obtain ⟨c, hc⟩ := Option.isSome_iff_exists.mp this
        exact .inr ⟨q', c, mem_of_lookup hc⟩)
    (by rw [hloc]; exact X₀) (fun s' X' => hQ _ env' s' hE.symm rfl (by rw [hloc] at X'; exact X'))
  cases around with
  | none => subst hE; exact wpAny_bind (wpAny_mono goal (fun _ s' q => wpAny_pure q) fun _ _ q => q)
  | some outer => subst hE; exact wpAny_bind (wpAny_mono goal (fun _ s' q => wpAny_pure q) fun _ _ q => q)
end
end Mine

end
section
open PySem PySem.W PyProof.Rows
set_option Elab.async false
set_option maxRecDepth 100000
set_option autoImplicit false
set_option linter.unusedVariables false
set_option maxHeartbeats 4000000
namespace Mine

/-- the tests of a comprehension's clause -/
abbrev testsOf (ifs : List Expr) (env : Env) : Sem Bool :=
  forIn ifs true fun c r => if r = true then do let ok ← isTrue c env (eval c env); pure (ForInStep.yield ok) else pure (ForInStep.yield r)

abbrev False2 : Value → Shared → Prop := fun _ _ => False

section
variable {w : World} {A : Around} {E : Value → Shared → Prop} {s₀ s : Shared} {B : Base} {m : Str → Option Value} {own : Own} {env : Env} {I D L : Addr} {n : Nat} {P : Nat → Value → Prop} {St : Nat → Heap → Prop}

theorem append_FS {vs : List Value} {v : Value} {Q : Value → Shared → Prop} (X : FS s₀ B L m ((D, IsL vs) :: own) s) (hsz : vs.length ≤ sizeLine)
    (h : ∀ s', FS s₀ B L m ((D, IsL (vs ++ [v])) :: own) s' → Q .none s') : wpAny (Md w) A (call (.builtin "list.append") [.ref D, v]) Q E s := by
  refine wpAny_list_append_plain (hsz := by simpa using hsz) (X.at' (P := IsL vs) (.head _)).plain fun h' hl hs => h _ (X.upd (t := s.toks) hs ?_)
  have := At.ofPlain hl
  simpa using this

theorem compLoop1 {x : Str} {px : Pos} {ifs : List Expr} {elt iter : Expr} {scope : Scope} {pos : Pos} {R : Result → Shared → Prop} (S : Src w A B I n P St)
    (X : FS s₀ B L m ((D, IsL []) :: (I, fun _ => True) :: own) s) (hst : St 0 s.heap)
    (J : Nat → List Value → Own → Prop) (h0 : J 0 [] own) (hlen : ∀ i ys own, J i ys own → ys.length ≤ i) (hsz : n ≤ sizeLine)
    (turn : ∀ i v ys B' m own s, (∀ b o, B b = some o → B' b = some o) → i < n → P i v → J i ys own → FS s₀ B' L m own s →
      wpAny (Md w) A (storeName env x v) (fun _ s => wpAny (Md w) A (testsOf ifs env)
        (fun ok s' => if ok = true then wpAny (Md w) A (eval elt env) (fun y s'' => ∃ m' own', FS s₀ B' L m' own' s'' ∧ J (i + 1) (ys ++ [y]) own') False2 s' else ∃ m' own', FS s₀ B' L m' own' s' ∧ J (i + 1) ys own') False2 s) False2 s)
    (done : ∀ ys m own s, J n ys own → I ∉ L :: D :: own.map (·.1) → FS s₀ B L m ((D, IsL ys) :: own) s → R (.ok .next) s) :
    codeAny (Md w) A (.compLoop (.ListComp elt [⟨.Name x px, iter, ifs, 0⟩] scope pos) 0 (.ref I) (.ref D) env) R s := by
  obtain ⟨⟨fp, W, hfp⟩, hex⟩ := S
  refine codeAny_compLoop_tests (fun k s' => ∃ i ys m own, k = n + 1 - i ∧ i ≤ n ∧ St i s'.heap ∧ FS s₀ B L m ((D, IsL ys) :: (I, fun _ => True) :: own) s' ∧ J i ys own) ?_ (n + 1) ⟨0, [], m, own, rfl, Nat.zero_le _, hst, X, h0⟩
  rintro k s' ⟨i, ys, m₁, own₁, rfl, hi, hst', X', hJ⟩
  have X'' := X'.perm (List.Perm.swap _ _ _)
  by_cases hlt : i < n
  · refine W.item i s' _ _ hlt hst' fun v h₁ tk₁ hP hst₁ hk₁ => ?_
    obtain ⟨oI, hoI⟩ := hex _ _ hst₁
    have X₁ := X''.next tk₁ hk₁
    have X₁' := X''.next' tk₁ hk₁ hoI
    obtain ⟨o', rfl, hIn, hIs, X₃⟩ := X₁'.freeze
    obtain ⟨oD, hD, hDn, hDs, X₄⟩ := X₃.freeze
    have stay : ∀ h', (∀ b x, FS.addB B I o' b = some x → h'.get? b = some x) → St (i + 1) h' := fun h' hk' => by
      refine W.frame _ _ _ hst₁ fun b hb x e => ?_
      rcases hfp b hb with rfl | ⟨o, ho⟩
      · rw [hoI] at e; cases e
        exact hk' _ _ (by unfold FS.addB; rw [if_pos rfl])
      · have := X₁.keep b o ho
        rw [this] at e; cases e
        exact hk' _ _ (FS.addB_sub hIn b _ ho)
    have sub2 : ∀ b o, B b = some o → FS.addB (FS.addB B I o') D oD b = some o := fun b o e => FS.addB_sub hDn b o (FS.addB_sub hIn b o e)
    refine wpAny_assign_Name (wpAny_mono (turn i v ys _ m₁ own₁ _ sub2 hlt hP hJ X₄) (fun _ s₂ q => ?_) fun _ _ q => q.elim)
    refine wpAny_mono q (fun ok s₃ q => ?_) fun _ _ q => q.elim
    cases ok with
    | false =>
      obtain ⟨m', own', X₅, q⟩ := q
      have X₆ := X₅.thaw hD hDn
      exact ⟨n + 1 - (i + 1), by omega, i + 1, ys, m', own', rfl, hlt, stay _ X₆.keep, (X₆.perm (List.Perm.refl _)).thawAt hIn trivial, q⟩
    | true =>
      refine wpAny_mono q (fun y s₄ q => ?_) fun _ _ q => q.elim
      obtain ⟨m', own', X₅, q⟩ := q
      have X₆ := X₅.thaw hD hDn
      refine append_FS X₆ (Nat.le_trans (hlen _ _ _ hJ) (Nat.le_trans hi hsz)) fun s₅ X₇ => ?_
      exact ⟨n + 1 - (i + 1), by omega, i + 1, ys ++ [y], m', own', rfl, hlt, stay _ X₇.keep, X₇.thawAt hIn trivial, q⟩
  · have hin : i = n := by omega
    subst hin
    refine W.done s' _ _ hst' fun h₁ tk₁ hk₁ => ?_
    exact done ys m₁ own₁ _ hJ (List.not_mem_cons_of_ne_of_not_mem (X''.own' _ (.head _)).1 (List.nodup_cons.mp X''.nd).1) (X''.next tk₁ hk₁)
end
end Mine

end
section
open PySem PySem.W PyProof.Rows
set_option Elab.async false
set_option maxRecDepth 100000
set_option autoImplicit false
set_option linter.unusedVariables false
set_option maxHeartbeats 4000000
namespace Mine

abbrev two (elt : Expr) (x : Str) (px : Pos) (iter : Expr) (y : Str) (py : Pos) (iter2 : Expr) (scope : Scope) (pos : Pos) : Expr :=
  .ListComp elt [⟨.Name x px, iter, [], 0⟩, ⟨.Name y py, iter2, [], 0⟩] scope pos

theorem compTurn_two0 (elt : Expr) (x : Str) (px : Pos) (iter : Expr) (y : Str) (py : Pos) (iter2 : Expr) (scope : Scope) (pos : Pos) (it acc : Value) (env : Env) :
    compTurn (two elt x px iter y py iter2 scope pos) 0 it acc env = (do
      standAt iter.pos
      match ← pyNext it with
      | none => pure (.done .next)
      | some v =>
        letOwnedTupleGo (.Name x px) it v
        assign (.Name x px) env v
        let z ← eval iter2 env
        standAt iter2.pos
        let z ← foldedSetIterable iter2 env z
        let _ ← runOwn (.compStart (two elt x px iter y py iter2 scope pos) 1 (← holding [z] (pyIter z)) acc env) env
        again (.compLoop (two elt x px iter y py iter2 scope pos) 0 it acc env)) := by rfl
theorem compTurn_two1 (elt : Expr) (x : Str) (px : Pos) (iter : Expr) (y : Str) (py : Pos) (iter2 : Expr) (scope : Scope) (pos : Pos) (it acc : Value) (env : Env) :
    compTurn (two elt x px iter y py iter2 scope pos) 1 it acc env = (do
      standAt iter2.pos
      match ← pyNext it with
      | none => pure (.done .next)
      | some v =>
        letOwnedTupleGo (.Name y py) it v
        assign (.Name y py) env v
        (do let _ ← call (.builtin "list.append") [acc, ← eval elt env])
        again (.compLoop (two elt x px iter y py iter2 scope pos) 1 it acc env)) := by rfl

section
variable {w : World} {A : Around} {E : Value → Shared → Prop} {s₀ s : Shared} {B : Base} {m : Str → Option Value} {own : Own} {env : Env} {I D L : Addr} {n : Nat} {P : Nat → Value → Prop} {St : Nat → Heap → Prop}
  {x y : Str} {px py : Pos} {iter iter2 elt : Expr} {scope : Scope} {pos : Pos} {R : Result → Shared → Prop}

theorem start_two1 {it acc : Value} (h0 : codeAny (Md w) A (.compLoop (two elt x px iter y py iter2 scope pos) 1 it acc env) R s)
    (h : wpAny (Md w) A (pyIter it) (fun it' s' => codeAny (Md w) A (.compLoop (two elt x px iter y py iter2 scope pos) 1 it' acc env) R s') (notedBy (Md w) A env fun x s' => R (.error x) s') s) :
    codeAny (Md w) A (.compStart (two elt x px iter y py iter2 scope pos) 1 it acc env) R s := by
  refine codeAny_of_tree ?_
  show wpAny _ _ ((compStart (two elt x px iter y py iter2 scope pos) 1 it acc env).onRaise (fun x => do noteFrame x env; standAt theWindowsPlace)) _ _ s
  refine wpAny_notedAt ?_
  unfold compStart
  show wpAny _ _ (ask >>= _) _ _ s
  refine wpAny_bind (wpAny_askSetting (wpAny_ite ?_))
  split
  · first
      | exact wpAny_bind (wpAny_pure (wpAny_pure (And.intro rfl h0)))
      | exact wpAny_pure (And.intro rfl h0)
  · refine wpAny_bind (wpAny_rule ?_)
    show wpAny _ _ (standAt iter2.pos >>= _) _ _ s
    exact wpAny_bind (wpAny_standAt (wpAny_bind (wpAny_mono h (fun it' s' h' => wpAny_pure (And.intro rfl h')) fun _ _ x => x)))

/-- the inner loop: the items of a list are laid behind what there is -/
theorem inner_two {vs ys : List Value} {yp : Pos} (S : Src w A B I vs.length (fun i v => vs[i]? = some v) St) (X : FS s₀ B env.locals m ((D, IsL ys) :: (I, fun _ => True) :: own) s) (hst : St 0 s.heap)
    (hsz : ys.length + vs.length ≤ sizeLine) (done : ∀ m s, FS s₀ B env.locals m ((D, IsL (ys ++ vs)) :: own) s → R (.ok .next) s)
    (hk : env.scope.kind = .function) (hl : env.kindOf y = some .local) (hd : (y == ("__debug__" : Str)) = false) :
    codeAny (Md w) A (.compLoop (two (.Name y yp) x px iter y py iter2 scope pos) 1 (.ref I) (.ref D) env) R s := by
  obtain ⟨⟨fp, W, hfp⟩, hex⟩ := S
  refine codeAny_loop rfl (fun k s' => ∃ i m, k = vs.length + 1 - i ∧ i ≤ vs.length ∧ St i s'.heap ∧ FS s₀ B env.locals m ((D, IsL (ys ++ vs.take i)) :: (I, fun _ => True) :: own) s') ?_ (vs.length + 1) ⟨0, m, rfl, Nat.zero_le _, hst, by simpa using X⟩
  rintro k s' ⟨i, m₁, rfl, hi, hst', X'⟩
  show wpAny _ A ((compTurn (two (.Name y yp) x px iter y py iter2 scope pos) 1 (.ref I) (.ref D) env).onRaise (fun x => do noteFrame x env; theTreesLotGoes x)) _ _ s'
  refine wpAny_noted ?_
  rw [compTurn_two1]
  refine wpAny_bind (wpAny_standAt (wpAny_bind ?_))
  have X'' := X'.perm (List.Perm.swap _ _ _)
  by_cases hlt : i < vs.length
  · refine W.item i s' _ _ hlt hst' fun v h₁ tk₁ hP hst₁ hk₁ => ?_
    obtain ⟨oI, hoI⟩ := hex _ _ hst₁
    have X₁ := X''.next tk₁ hk₁
    have X₁' := X''.next' tk₁ hk₁ hoI
    obtain ⟨o', rfl, hIn, hIs, X₃⟩ := X₁'.freeze
    have stay : ∀ h', (∀ b x, FS.addB B I o' b = some x → h'.get? b = some x) → St (i + 1) h' := fun h' hk' => by
      refine W.frame _ _ _ hst₁ fun b hb x e => ?_
      rcases hfp b hb with rfl | ⟨o, ho⟩
      · rw [hoI] at e; cases e
        exact hk' _ _ (by unfold FS.addB; rw [if_pos rfl])
      · have := X₁.keep b o ho
        rw [this] at e; cases e
        exact hk' _ _ (FS.addB_sub hIn b _ ho)
    refine wpAny_bind (wpAny_of_eq rfl (wpAny_bind (wpAny_assign_Name (stL X₃ (fun s₂ X₄ => ?_) hk hl))))
    refine wpAny_bind (wpAny_bind (nmL (w := w) X₄ (v := v) (by simp) (wpAny_bind ?_) hk hl hd))
    refine append_FS X₄ (by rw [List.length_append]; have := List.length_take_le i vs; omega) fun s₅ X₇ => ?_
    have hP' : vs[i]? = some v := hP
    have e : ys ++ vs.take i ++ [v] = ys ++ vs.take (i + 1) := by rw [List.take_add_one, hP', List.append_assoc]; rfl
    rw [e] at X₇
    exact wpAny_pure (wpAny_pure ⟨rfl, vs.length + 1 - (i + 1), by omega, i + 1, _, rfl, hlt, stay _ X₇.keep, X₇.thawAt hIn trivial⟩)
  · have hin : i = vs.length := by omega
    subst hin
    refine W.done s' _ _ hst' fun h₁ tk₁ hk₁ => wpAny_pure ?_
    refine done m₁ _ ?_
    have := X''.next tk₁ hk₁
    rwa [List.take_length] at this

theorem compLoop2 {yp : Pos} (hh : A.handled = none) (S : Src w A B I n P St)
    (X : FS s₀ B env.locals m ((D, IsL []) :: (I, fun _ => True) :: own) s) (hst : St 0 s.heap)
    (J : Nat → List Value → Own → Prop) (h0 : J 0 [] own)
    (turn : ∀ i v ys B' m own s, (∀ b o, B b = some o → B' b = some o) → i < n → P i v → J i ys own → FS s₀ B' env.locals m own s →
      wpAny (Md w) A (storeName env x v) (fun _ s => wpAny (Md w) A (eval iter2 env)
        (fun z s' => ∃ a vs m' own', z = .ref a ∧ FS s₀ B' env.locals m' own' s' ∧ (AtB B a (IsL vs) ∨ (a, IsL vs) ∈ own') ∧ J (i + 1) (ys ++ vs) own' ∧ ys.length + vs.length ≤ sizeLine) False2 s) False2 s)
    (done : ∀ ys m own s, J n ys own → I ∉ env.locals :: D :: own.map (·.1) → FS s₀ B env.locals m ((D, IsL ys) :: own) s → R (.ok .next) s)
    (hk : env.scope.kind = .function := by rfl) (hl : env.kindOf y = some .local := by rfl) (hd : (y == ("__debug__" : Str)) = false := by decide)
    (hs : ∀ z, foldedSetIterable iter2 env z = pure z := by intro _; rfl) :
    codeAny (Md w) A (.compLoop (two (.Name y yp) x px iter y py iter2 scope pos) 0 (.ref I) (.ref D) env) R s := by
  obtain ⟨⟨fp, W, hfp⟩, hex⟩ := S
  refine codeAny_loop rfl (fun k s' => ∃ i ys m own, k = n + 1 - i ∧ i ≤ n ∧ St i s'.heap ∧ FS s₀ B env.locals m ((D, IsL ys) :: (I, fun _ => True) :: own) s' ∧ J i ys own) ?_ (n + 1) ⟨0, [], m, own, rfl, Nat.zero_le _, hst, X, h0⟩
  rintro k s' ⟨i, ys, m₁, own₁, rfl, hi, hst', X', hJ⟩
  show wpAny _ A ((compTurn (two (.Name y yp) x px iter y py iter2 scope pos) 0 (.ref I) (.ref D) env).onRaise (fun x => do noteFrame x env; theTreesLotGoes x)) _ _ s'
  refine wpAny_noted ?_
  rw [compTurn_two0]
  refine wpAny_bind (wpAny_standAt (wpAny_bind ?_))
  have X'' := X'.perm (List.Perm.swap _ _ _)
  by_cases hlt : i < n
  · refine W.item i s' _ _ hlt hst' fun v h₁ tk₁ hP hst₁ hk₁ => ?_
    obtain ⟨oI, hoI⟩ := hex _ _ hst₁
    have X₁ := X''.next tk₁ hk₁
    have X₁' := X''.next' tk₁ hk₁ hoI
    obtain ⟨o', rfl, hIn, hIs, X₃⟩ := X₁'.freeze
    obtain ⟨oD, hD, hDn, hDs, X₄⟩ := X₃.freeze
    have stay : ∀ h', (∀ b x, FS.addB B I o' b = some x → h'.get? b = some x) → St (i + 1) h' := fun h' hk' => by
      refine W.frame _ _ _ hst₁ fun b hb x e => ?_
      rcases hfp b hb with rfl | ⟨o, ho⟩
      · rw [hoI] at e; cases e
        exact hk' _ _ (by unfold FS.addB; rw [if_pos rfl])
      · have := X₁.keep b o ho
        rw [this] at e; cases e
        exact hk' _ _ (FS.addB_sub hIn b _ ho)
    have sub1 : ∀ b o, B b = some o → FS.addB B I o' b = some o := FS.addB_sub hIn
    have sub2 : ∀ b o, B b = some o → FS.addB (FS.addB B I o') D oD b = some o := fun b o e => FS.addB_sub hDn b o (sub1 b o e)
    refine wpAny_bind (wpAny_of_eq rfl (wpAny_bind (wpAny_assign_Name (wpAny_mono (turn i v ys _ m₁ own₁ _ sub2 hlt hP hJ X₄) (fun _ s₂ q => ?_) fun _ _ q => q.elim))))
    refine wpAny_bind (wpAny_mono q (fun z s₃ q => ?_) fun _ _ q => q.elim)
    obtain ⟨a, vs, m', own', rfl, X₅, ha, hJ', hz⟩ := q
    have X₆ := X₅.thaw hD hDn
    refine wpAny_bind (wpAny_standAt (wpAny_bind (wpAny_of_eq (hs _) (wpAny_bind (wpAny_holding ?_)))))
    -- the list that is gone over lies among what is kept
    obtain ⟨B₂, own₂, sub3, haB, X₇, back⟩ : ∃ (B₂ : Base) (own₂ : Own), (∀ b o, FS.addB B I o' b = some o → B₂ b = some o) ∧ AtB B₂ a (IsL vs) ∧ FS s₀ B₂ env.locals m' ((D, IsL ys) :: own₂) s₃ ∧
        ∀ m'' zs s, FS s₀ B₂ env.locals m'' ((D, IsL zs) :: own₂) s → FS s₀ (FS.addB B I o') env.locals m'' ((D, IsL zs) :: own') s := by
      rcases ha with ha | ha
      · exact ⟨_, own', fun _ _ e => e, ha.sub sub1, X₆, fun _ _ _ q => q⟩
      · obtain ⟨l₁, l₂, rfl⟩ := List.append_of_mem ha
        have pm : ∀ zs, ((D, IsL zs) :: (l₁ ++ (a, IsL vs) :: l₂)).Perm ((a, IsL vs) :: (D, IsL zs) :: (l₁ ++ l₂)) := fun zs =>
          (List.Perm.cons _ List.perm_middle).trans (List.Perm.swap _ _ _)
        obtain ⟨oa, hPa, han, _, X₈⟩ := (X₆.perm (pm ys)).freeze
        exact ⟨_, l₁ ++ l₂, FS.addB_sub han, ⟨oa, by unfold FS.addB; rw [if_pos rfl], hPa⟩, X₈, fun m'' zs s q => (q.thaw hPa han).perm (pm zs).symm⟩
    refine it_list hh X₇ haB fun I2 s₄ St2 X₈ _ _ _ S2 hst2 => ?_
    refine wpAny_bind (wpAny_runOwn (h := none) ?_)
    have hfin : ∀ m s, FS s₀ B₂ env.locals m ((D, IsL (ys ++ vs)) :: own₂) s →
        wpAny (Md w) A (again (.compLoop (two (.Name y yp) x px iter y py iter2 scope pos) 0 (.ref I) (.ref D) env))
          (fun fin s' => match fin with | .done f => R (.ok f) s' | .again c' => c' = .compLoop (two (.Name y yp) x px iter y py iter2 scope pos) 0 (.ref I) (.ref D) env ∧ ∃ m, m < n + 1 - i ∧
            ∃ i ys m_1 own, m = n + 1 - i ∧ i ≤ n ∧ St i s'.heap ∧ FS s₀ B env.locals m_1 ((D, IsL ys) :: (I, fun _ => True) :: own) s' ∧ J i ys own) (notedBy (Md w) A env fun e s' => R (.error e) s') s := fun m s q => by
      have Y := back m (ys ++ vs) s q
      exact wpAny_pure ⟨rfl, n + 1 - (i + 1), by omega, i + 1, ys ++ vs, m, own', rfl, hlt, stay _ Y.keep, Y.thawAt hIn trivial, hJ'⟩
    have X₈' := X₈.perm (List.Perm.swap _ _ _)
    have hA : A.mark none = A := by
      cases A; rename_i hd _ _ _ _; cases hd <;> rfl
    rw [hA]
    refine start_two1 ?_ ?_
    · exact inner_two S2 X₈' hst2 hz (fun m s q => hfin m s q) hk hl hd
    · obtain ⟨⟨fp2, W2, hfp2⟩, hex2⟩ := id S2
      exact W2.self 0 _ _ _ hst2 (inner_two S2 X₈' hst2 hz (fun m s q => hfin m s q) hk hl hd)
  · have hin : i = n := by omega
    subst hin
    refine W.done s' _ _ hst' fun h₁ tk₁ hk₁ => wpAny_pure ?_
    exact done ys m₁ own₁ _ hJ (List.not_mem_cons_of_ne_of_not_mem (X''.own' _ (.head _)).1 (List.nodup_cons.mp X''.nd).1) (X''.next tk₁ hk₁)
end
end Mine

end
section
open PySem PySem.W PyProof.Rows
set_option Elab.async false
set_option maxRecDepth 100000
set_option autoImplicit false
set_option linter.unusedVariables false
set_option maxHeartbeats 4000000
namespace Mine

abbrev cEnv (scope : Scope) (cl : List (Str × Addr)) (C : Addr) (env : Env) : Env :=
  { scope := relabel scope env, locals := C, globals := env.globals, cells := cellsFrom (C + 1) scope.names cl, qual := env.qual, func := none, code := env.code, frame := env.frame, builtins := env.builtins }

/-- all but the iterator -/
def offB (h : Heap) (I : Addr) : Base := fun b => if b = I then none else h.get? b

theorem FS.back {s₀ s₂ s' : Shared} {B : Base} {L I C : Addr} {m m' : Str → Option Value} {own new : Own} {P : Obj → Prop} (X : FS s₀ B L m ((I, P) :: own) s₂) (Y : FS s₂ (offB s₂.heap I) C m' new s') (hI : I ∉ new.map (·.1))
    {h' : Heap} {t : Nat} (hs : Heap.SameBut C s'.heap h') : FS s₀ B L m (new ++ own) { s' with heap := h', toks := t } := by
  have hXI := X.own' (I, P) (.head _)
  have up : ∀ b o, b ≠ I → s₂.heap.get? b = some o → h'.get? b = some o := fun b o hb e => by
    have e' : offB s₂.heap I b = some o := by unfold offB; rw [if_neg hb]; exact e
    refine (hs.2 b fun q => ?_).trans (Y.keep b o e')
    have := Y.hL; rw [← q, e'] at this; cases this
  obtain ⟨oL, es, ep, hoL, rL⟩ := X.ns
  refine ⟨X.same.trans (Y.same.mk' h' t), ⟨oL, es, ep, up L oL (Ne.symm hXI.1) hoL, rL⟩, fun b o q => up b o (fun e => ?_) (X.keep b o q), X.hL, fun p hp => ?_, ?_⟩
  · rw [e, hXI.2.1] at q; cases q
  · rcases List.mem_append.mp hp with hp | hp
    · have Z := Y.own' p hp
      have hpI : p.1 ≠ I := fun e => hI (List.mem_map.mpr ⟨p, hp, e⟩)
      have hn : s₂.heap.get? p.1 = none := by
        have := Z.2.1; unfold offB at this; rwa [if_neg hpI] at this
      refine ⟨fun e => ?_, ?_, ?_⟩
      · rw [e, hoL] at hn; cases hn
      · cases q : B p.1 with
        | none => rfl
        | some o => rw [X.keep _ _ q] at hn; cases hn
      · obtain ⟨o, ho, hP⟩ := Z.2.2
        exact ⟨o, (hs.2 p.1 Z.1).trans ho, hP⟩
    · have Z := X.own' p (.tail _ hp)
      have hpI : p.1 ≠ I := fun e => (List.nodup_cons.mp X.nd).1 (List.mem_map.mpr ⟨p, hp, e⟩)
      obtain ⟨o, ho, hP⟩ := Z.2.2
      exact ⟨Z.1, Z.2.1, o, up _ _ hpI ho, hP⟩
  · rw [List.map_append, List.nodup_append]
    refine ⟨Y.nd, (List.nodup_cons.mp X.nd).2, fun a ha b hb e => ?_⟩
    obtain ⟨p, hp, rfl⟩ := List.mem_map.mp ha
    obtain ⟨q, hq, rfl⟩ := List.mem_map.mp hb
    have Z := Y.own' p hp
    have hpI : p.1 ≠ I := fun e => hI (List.mem_map.mpr ⟨p, hp, e⟩)
    have hn : s₂.heap.get? p.1 = none := by
      have := Z.2.1; unfold offB at this; rwa [if_neg hpI] at this
    obtain ⟨o, ho, _⟩ := (X.own' q (.tail _ hq)).2.2
    rw [e, ho] at hn; cases hn

/-- the comprehension's frame too -/
theorem FS.backC {s₀ s₂ s' : Shared} {B : Base} {L I C : Addr} {m m' : Str → Option Value} {own new : Own} {P : Obj → Prop} (X : FS s₀ B L m ((I, P) :: own) s₂) (Y : FS s₂ (offB s₂.heap I) C m' new s') (hI : I ∉ C :: new.map (·.1)) :
    FS s₀ B L m ((C, fun _ => True) :: (new ++ own)) s' := by
  have Z := X.back (t := s'.toks) Y (List.not_mem_of_not_mem_cons hI) (Heap.SameBut.refl C s'.heap)
  have hCI : C ≠ I := fun e => hI (e ▸ List.mem_cons_self)
  have hn : s₂.heap.get? C = none := by have := Y.hL; unfold offB at this; rwa [if_neg hCI] at this
  have hXI := X.own' (I, P) (.head _)
  refine ⟨Z.same, Z.ns, Z.keep, Z.hL, fun p hp => ?_, ?_⟩
  · rcases List.mem_cons.mp hp with rfl | hp
    · refine ⟨fun e => ?_, ?_, ?_⟩
      · obtain ⟨oL, _, _, hoL, _⟩ := X.ns
        have e' : C = L := e
        rw [← e', hn] at hoL; cases hoL
      · cases q : B C with
        | none => rfl
        | some o => have := X.keep _ _ q; rw [hn] at this; cases this
      · obtain ⟨o, _, _, ho, _⟩ := Y.ns
        exact ⟨o, ho, trivial⟩
    · exact Z.own' p hp
  · rw [List.map_cons, List.nodup_cons]
    refine ⟨fun q => ?_, Z.nd⟩
    obtain ⟨p, hp, hq⟩ := List.mem_map.mp q
    rcases List.mem_append.mp hp with hp | hp
    · exact (Y.own' p hp).1 hq
    · obtain ⟨o, ho, _⟩ := (X.own' p (.tail _ hp)).2.2
      rw [hq, hn] at ho; cases ho

section
variable {w : World} {A : Around} {E : Value → Shared → Prop} {s₀ s : Shared} {B : Base} {m : Str → Option Value} {own : Own} {env : Env} {I L : Addr} {n : Nat} {P : Nat → Value → Prop} {St : Nat → Heap → Prop}
  {x y : Str} {px py : Pos} {iter iter2 elt : Expr} {scope : Scope} {pos : Pos} {R : Result → Shared → Prop} {cl : List (Str × Addr)}

/-- the accumulator and the comprehension's own frame are laid -/
theorem comp_open {e : Expr} {RR : Value → Addr → Result → Shared → Prop} (S : Src w A B I n P St) (X : FS s₀ B L m ((I, fun _ => True) :: own) s) (hst : St 0 s.heap) (hk : scope.kind = .function) (hnd : ((cellsFrom 0 scope.names []).map (·.1)).Nodup)
    (h : ∀ D C s₄, FS s (offB s.heap I) C (fun _ => none) ((D, IsL []) :: (I, fun _ => True) :: cellOwn (cellsFrom (C + 1) scope.names []) fun _ => none) s₄ → Src w A (offB s.heap I) I n P St → St 0 s₄.heap →
      (∀ p ∈ own, AtB (offB s.heap I) p.1 p.2) → (∀ b o, B b = some o → offB s.heap I b = some o) →
      codeAny (Md w) A (.compStart e 0 (.ref I) (.ref D) (cEnv scope cl C env)) (RR (.ref D) C) s₄) :
    wpAny (Md w) A (newList []) (fun acc s₃ => wpAny (Md w) A (newFunctionEnv scope env.globals cl [] env.qual none .none (some env)) (fun cenv s₄ =>
      codeAny (Md w) A (.compStart e 0 (.ref I) acc { cenv with scope := relabel scope env }) (RR acc cenv.locals) s₄) E s₃) E s := by
  have hXI := X.own' (I, fun _ => True) (.head _)
  have hsub : ∀ b o, B b = some o → offB s.heap I b = some o := fun b o q => by
    unfold offB; rw [if_neg]
    · exact X.keep b o q
    · intro e; rw [e, hXI.2.1] at q; cases q
  have hown : ∀ p ∈ own, AtB (offB s.heap I) p.1 p.2 := fun p hp => by
    obtain ⟨o, ho, hP⟩ := (X.own' p (.tail _ hp)).2.2
    refine ⟨o, ?_, hP⟩
    unfold offB; rw [if_neg fun e => (List.nodup_cons.mp X.nd).1 (List.mem_map.mpr ⟨p, hp, e⟩)]
    exact ho
  have S' := S.sub hsub
  obtain ⟨oI, hoI⟩ := S.ex _ _ hst
  refine wpAny_newObj_type (newEnvFS hk hnd rfl fun C cenv s₄ he hC Y => ?_)
  dsimp only at Y
  subst he
  have hpush : ∀ b o, s.heap.get? b = some o → (s.heap.push { cls := .type "list", data := .seq ([] : List Value).toArray }).get? b = some o := fun b o e => Heap.get?_push_of_some _ e
  have hDn : s.heap.get? s.heap.objs.size = none := by
    cases e : s.heap.get? s.heap.objs.size with
    | none => rfl
    | some o => exact absurd (Heap.lt_size e) (Nat.lt_irrefl _)
  have hDI : s.heap.objs.size ≠ I := fun e => by rw [e, hoI] at hDn; cases hDn
  have Y' : FS s (offB s.heap I) C (fun _ => none) ((s.heap.objs.size, IsL []) :: (I, fun _ => True) :: cellOwn (cellsFrom (C + 1) scope.names []) fun _ => none) s₄ := by
    have hCn : ∀ b o, (s.heap.push { cls := .type "list", data := .seq ([] : List Value).toArray }).get? b = some o → b ≠ C := fun b o e q => by
      have := Y.hL; rw [← q] at this; rw [e] at this; cases this
    have hown2 : ∀ p ∈ cellOwn (cellsFrom (C + 1) scope.names []) (fun _ => none), ∀ b o, (s.heap.push { cls := .type "list", data := .seq ([] : List Value).toArray }).get? b = some o → p.1 ≠ b := fun p hp b o e q => by
      have := (Y.own' p hp).2.1; rw [q] at this; rw [e] at this; cases this
    refine ⟨Same.trans ⟨_, _, rfl⟩ Y.same, Y.ns, fun b o q => ?_, ?_, fun p hp => ?_, ?_⟩
    · unfold offB at q; split at q
      · cases q
      · exact Y.keep b o (hpush b o q)
    · unfold offB; split
      · rfl
      · cases q : s.heap.get? C with
        | none => rfl
        | some o => have := Y.hL; rw [hpush _ _ q] at this; cases this
    · rcases List.mem_cons.mp hp with rfl | hp
      · refine ⟨hCn _ _ (Heap.get?_push_size _ rfl), ?_, _, Y.keep _ _ (Heap.get?_push_size _ rfl), 0, rfl⟩
        dsimp only
        unfold offB; rw [if_neg hDI]; exact hDn
      · rcases List.mem_cons.mp hp with rfl | hp
        · refine ⟨hCn _ _ (hpush _ _ hoI), ?_, _, Y.keep _ _ (hpush _ _ hoI), trivial⟩
          dsimp only
          unfold offB; rw [if_pos rfl]
        · have Z := Y.own' p hp
          refine ⟨Z.1, ?_, Z.2.2⟩
          unfold offB; split
          · rfl
          · cases q : s.heap.get? p.1 with
            | none => rfl
            | some o => exact absurd rfl (hown2 p hp _ _ (hpush _ _ q))
    · rw [List.map_cons, List.map_cons, List.nodup_cons, List.nodup_cons]
      refine ⟨fun q => ?_, fun q => ?_, Y.nd⟩
      · rcases List.mem_cons.mp q with q | q
        · exact hDI q
        · obtain ⟨p, hp, hq⟩ := List.mem_map.mp q
          exact hown2 p hp _ _ (Heap.get?_push_size _ rfl) hq
      · obtain ⟨p, hp, hq⟩ := List.mem_map.mp q
        exact hown2 p hp _ _ (hpush _ _ hoI) hq
  refine h _ C s₄ Y' S' ?_ hown hsub
  obtain ⟨⟨fp, W, hfp⟩, _⟩ := id S
  refine W.frame _ _ _ hst fun b hb o e => Y.keep b o (hpush b o e)

theorem comp_store {Q : Value → Shared → Prop} {z : Str} {pz : Pos} {D C : Addr} {ys : List Value} {new : Own} {m' : Str → Option Value} {s' : Shared} (X : FS s₀ B env.locals m ((I, fun _ => True) :: own) s)
    (Z : FS s (offB s.heap I) C m' ((D, IsL ys) :: new) s') (hI : I ∉ C :: D :: new.map (·.1))
    (fin : ∀ s', FS s₀ B env.locals (fun q => if q = z then some (.ref D) else m q) ((D, IsL ys) :: (new ++ own)) s' → Q .none s')
    (hke : env.scope.kind = .function) (hz : env.kindOf z = some .local) : compPost (Md w) A E (some (assign (.Name z pz) env)) Q (.ref D) C (.ok .next) s' := by
  have Z' := X.backC Z hI
  show wpAny _ A (assign (.Name z pz) env (.ref D)) _ _ _
  refine wpAny_assign_Name (wpAny_storeName_local hz Z'.ns (fun h₂ hn₂ hs₂ => ?_) (by rw [hke]; rfl))
  have hCL : C ≠ env.locals := (Z'.own' (C, fun _ => True) (.head _)).1
  have Z₂ := Z'.store (t := s'.toks + 1) hn₂ hs₂
  refine ⟨m', Z.ns.sameBut hs₂ hCL, fun h₃ hs₃ => fin _ ?_⟩
  refine Z₂.next (h₁ := h₃) (s'.toks + 1) fun b o hb e => ?_
  exact (hs₃.2 b (by simpa using hb)).trans e

/-- a comprehension of one clause, its value handed on -/
theorem comp1 {ifs : List Expr} {Q : Value → Shared → Prop} (S : Src w A B I n P St) (X : FS s₀ B L m ((I, fun _ => True) :: own) s) (hst : St 0 s.heap)
    (J : Addr → Nat → List Value → Own → Prop) (h0 : ∀ C, J C 0 [] (cellOwn (cellsFrom (C + 1) scope.names []) fun _ => none)) (hlen : ∀ C i ys own, J C i ys own → ys.length ≤ i) (hsz : n ≤ sizeLine)
    (turn : ∀ C i v ys B' m' own' s', (∀ p ∈ own, AtB B' p.1 p.2) → (∀ b o, B b = some o → B' b = some o) → i < n → P i v → J C i ys own' → FS s B' C m' own' s' →
      wpAny (Md w) A (storeName (cEnv scope cl C env) x v) (fun _ s' => wpAny (Md w) A (testsOf ifs (cEnv scope cl C env))
        (fun ok s' => if ok = true then wpAny (Md w) A (eval elt (cEnv scope cl C env)) (fun y s'' => ∃ m' own', FS s B' C m' own' s'' ∧ J C (i + 1) (ys ++ [y]) own') False2 s' else ∃ m' own', FS s B' C m' own' s' ∧ J C (i + 1) ys own') False2 s') False2 s')
    (fin : ∀ C D ys new s', J C n ys new → FS s₀ B L m ((D, IsL ys) :: (new ++ own)) s' → Q (.ref D) s')
    (hk : scope.kind = .function := by rfl) (hnd : ((cellsFrom 0 scope.names []).map (·.1)).Nodup := by decide) :
    wpAny (Md w) A (newList []) (fun acc s₃ => wpAny (Md w) A (newFunctionEnv scope env.globals cl [] env.qual none .none (some env)) (fun cenv s₄ =>
      codeAny (Md w) A (.compStart (.ListComp elt [⟨.Name x px, iter, ifs, 0⟩] scope pos) 0 (.ref I) acc { cenv with scope := relabel scope env }) (compPost (Md w) A E none Q acc cenv.locals) s₄) E s₃) E s := by
  refine comp_open (RR := fun acc C => compPost (Md w) A E none Q acc C) S X hst hk hnd fun D C s₄ Y S' hst' hown hsub => ?_
  have loop : codeAny (Md w) A (.compLoop (.ListComp elt [⟨.Name x px, iter, ifs, 0⟩] scope pos) 0 (.ref I) (.ref D) (cEnv scope cl C env)) (compPost (Md w) A E none Q (.ref D) C) s₄ := by
    refine compLoop1 S' Y hst' (J C) (h0 C) (hlen C) hsz (fun i v ys B' m' own' s' hb hi hP hJ Z => turn C i v ys B' m' own' s' (fun p hp => (hown p hp).sub hb) (fun b o e => hb b o (hsub b o e)) hi hP hJ Z) fun ys m' new s' hJ hI Z => ?_
    exact ⟨m', Z.ns, fun h' hs => fin C D ys new _ hJ (X.back (t := s'.toks) Z (List.not_mem_of_not_mem_cons hI) hs)⟩
  obtain ⟨⟨fp, W, _⟩, _⟩ := id S'
  exact codeAny_compStart_list loop (W.self 0 _ _ _ hst' loop)

/-- the same, stored under a name of the frame -/
theorem comp1s {ifs : List Expr} {Q : Value → Shared → Prop} {z : Str} {pz : Pos} (S : Src w A B I n P St) (X : FS s₀ B env.locals m ((I, fun _ => True) :: own) s) (hst : St 0 s.heap)
    (J : Addr → Nat → List Value → Own → Prop) (h0 : ∀ C, J C 0 [] (cellOwn (cellsFrom (C + 1) scope.names []) fun _ => none)) (hlen : ∀ C i ys own, J C i ys own → ys.length ≤ i) (hsz : n ≤ sizeLine)
    (turn : ∀ C i v ys B' m' own' s', (∀ p ∈ own, AtB B' p.1 p.2) → (∀ b o, B b = some o → B' b = some o) → i < n → P i v → J C i ys own' → FS s B' C m' own' s' →
      wpAny (Md w) A (storeName (cEnv scope cl C env) x v) (fun _ s' => wpAny (Md w) A (testsOf ifs (cEnv scope cl C env))
        (fun ok s' => if ok = true then wpAny (Md w) A (eval elt (cEnv scope cl C env)) (fun y s'' => ∃ m' own', FS s B' C m' own' s'' ∧ J C (i + 1) (ys ++ [y]) own') False2 s' else ∃ m' own', FS s B' C m' own' s' ∧ J C (i + 1) ys own') False2 s') False2 s')
    (fin : ∀ C D ys new s', J C n ys new → FS s₀ B env.locals (fun q => if q = z then some (.ref D) else m q) ((D, IsL ys) :: (new ++ own)) s' → Q .none s')
    (hk : scope.kind = .function := by rfl) (hnd : ((cellsFrom 0 scope.names []).map (·.1)).Nodup := by decide) (hke : env.scope.kind = .function := by rfl) (hz : env.kindOf z = some .local := by rfl) :
    wpAny (Md w) A (newList []) (fun acc s₃ => wpAny (Md w) A (newFunctionEnv scope env.globals cl [] env.qual none .none (some env)) (fun cenv s₄ =>
      codeAny (Md w) A (.compStart (.ListComp elt [⟨.Name x px, iter, ifs, 0⟩] scope pos) 0 (.ref I) acc { cenv with scope := relabel scope env }) (compPost (Md w) A E (some (assign (.Name z pz) env)) Q acc cenv.locals) s₄) E s₃) E s := by
  refine comp_open (RR := fun acc C => compPost (Md w) A E (some (assign (.Name z pz) env)) Q acc C) S X hst hk hnd fun D C s₄ Y S' hst' hown hsub => ?_
  have loop : codeAny (Md w) A (.compLoop (.ListComp elt [⟨.Name x px, iter, ifs, 0⟩] scope pos) 0 (.ref I) (.ref D) (cEnv scope cl C env)) (compPost (Md w) A E (some (assign (.Name z pz) env)) Q (.ref D) C) s₄ := by
    refine compLoop1 S' Y hst' (J C) (h0 C) (hlen C) hsz (fun i v ys B' m' own' s' hb hi hP hJ Z => turn C i v ys B' m' own' s' (fun p hp => (hown p hp).sub hb) (fun b o e => hb b o (hsub b o e)) hi hP hJ Z) fun ys m' new s' hJ hI Z => ?_
    exact comp_store X Z hI (fun s' q => fin C D ys new s' hJ q) hke hz
  obtain ⟨⟨fp, W, _⟩, _⟩ := id S'
  exact codeAny_compStart_list loop (W.self 0 _ _ _ hst' loop)

theorem comp2 {Q : Value → Shared → Prop} {yp : Pos} (hh : A.handled = none) (S : Src w A B I n P St) (X : FS s₀ B L m ((I, fun _ => True) :: own) s) (hst : St 0 s.heap)
    (J : Addr → Nat → List Value → Own → Prop) (h0 : ∀ C, J C 0 [] (cellOwn (cellsFrom (C + 1) scope.names []) fun _ => none))
    (turn : ∀ C i v ys B' m' own' s', (∀ p ∈ own, AtB B' p.1 p.2) → (∀ b o, B b = some o → B' b = some o) → i < n → P i v → J C i ys own' → FS s B' C m' own' s' →
      wpAny (Md w) A (storeName (cEnv scope cl C env) x v) (fun _ s' => wpAny (Md w) A (eval iter2 (cEnv scope cl C env))
        (fun z s' => ∃ a vs m' own', z = .ref a ∧ FS s B' C m' own' s' ∧ (AtB (offB s.heap I) a (IsL vs) ∨ (a, IsL vs) ∈ own') ∧ J C (i + 1) (ys ++ vs) own' ∧ ys.length + vs.length ≤ sizeLine) False2 s') False2 s')
    (fin : ∀ C D ys new s', J C n ys new → FS s₀ B L m ((D, IsL ys) :: (new ++ own)) s' → Q (.ref D) s')
    (hk : scope.kind = .function := by rfl) (hnd : ((cellsFrom 0 scope.names []).map (·.1)).Nodup := by decide)
    (hkc : ∀ C, (cEnv scope cl C env).scope.kind = .function := by intro _; rfl) (hl : ∀ C, (cEnv scope cl C env).kindOf y = some .local := by intro _; rfl) (hd : (y == ("__debug__" : Str)) = false := by decide)
    (hs : ∀ C z, foldedSetIterable iter2 (cEnv scope cl C env) z = pure z := by intro _ _; rfl) :
    wpAny (Md w) A (newList []) (fun acc s₃ => wpAny (Md w) A (newFunctionEnv scope env.globals cl [] env.qual none .none (some env)) (fun cenv s₄ =>
      codeAny (Md w) A (.compStart (two (.Name y yp) x px iter y py iter2 scope pos) 0 (.ref I) acc { cenv with scope := relabel scope env }) (compPost (Md w) A E none Q acc cenv.locals) s₄) E s₃) E s := by
  refine comp_open (RR := fun acc C => compPost (Md w) A E none Q acc C) S X hst hk hnd fun D C s₄ Y S' hst' hown hsub => ?_
  have loop : codeAny (Md w) A (.compLoop (two (.Name y yp) x px iter y py iter2 scope pos) 0 (.ref I) (.ref D) (cEnv scope cl C env)) (compPost (Md w) A E none Q (.ref D) C) s₄ := by
    refine compLoop2 hh S' Y hst' (J C) (h0 C) (fun i v ys B' m' own' s' hb hi hP hJ Z => turn C i v ys B' m' own' s' (fun p hp => (hown p hp).sub hb) (fun b o e => hb b o (hsub b o e)) hi hP hJ Z) (fun ys m' new s' hJ hI Z => ?_) (hkc C) (hl C) hd (hs C)
    exact ⟨m', Z.ns, fun h' hs => fin C D ys new _ hJ (X.back (t := s'.toks) Z (List.not_mem_of_not_mem_cons hI) hs)⟩
  obtain ⟨⟨fp, W, _⟩, _⟩ := id S'
  exact codeAny_compStart_list loop (W.self 0 _ _ _ hst' loop)

theorem comp2s {Q : Value → Shared → Prop} {yp : Pos} {z : Str} {pz : Pos} (hh : A.handled = none) (S : Src w A B I n P St) (X : FS s₀ B env.locals m ((I, fun _ => True) :: own) s) (hst : St 0 s.heap)
    (J : Addr → Nat → List Value → Own → Prop) (h0 : ∀ C, J C 0 [] (cellOwn (cellsFrom (C + 1) scope.names []) fun _ => none))
    (turn : ∀ C i v ys B' m' own' s', (∀ p ∈ own, AtB B' p.1 p.2) → (∀ b o, B b = some o → B' b = some o) → i < n → P i v → J C i ys own' → FS s B' C m' own' s' →
      wpAny (Md w) A (storeName (cEnv scope cl C env) x v) (fun _ s' => wpAny (Md w) A (eval iter2 (cEnv scope cl C env))
        (fun z s' => ∃ a vs m' own', z = .ref a ∧ FS s B' C m' own' s' ∧ (AtB (offB s.heap I) a (IsL vs) ∨ (a, IsL vs) ∈ own') ∧ J C (i + 1) (ys ++ vs) own' ∧ ys.length + vs.length ≤ sizeLine) False2 s') False2 s')
    (fin : ∀ C D ys new s', J C n ys new → FS s₀ B env.locals (fun q => if q = z then some (.ref D) else m q) ((D, IsL ys) :: (new ++ own)) s' → Q .none s')
    (hk : scope.kind = .function := by rfl) (hnd : ((cellsFrom 0 scope.names []).map (·.1)).Nodup := by decide) (hke : env.scope.kind = .function := by rfl) (hz : env.kindOf z = some .local := by rfl)
    (hkc : ∀ C, (cEnv scope cl C env).scope.kind = .function := by intro _; rfl) (hl : ∀ C, (cEnv scope cl C env).kindOf y = some .local := by intro _; rfl) (hd : (y == ("__debug__" : Str)) = false := by decide)
    (hs : ∀ C z, foldedSetIterable iter2 (cEnv scope cl C env) z = pure z := by intro _ _; rfl) :
    wpAny (Md w) A (newList []) (fun acc s₃ => wpAny (Md w) A (newFunctionEnv scope env.globals cl [] env.qual none .none (some env)) (fun cenv s₄ =>
      codeAny (Md w) A (.compStart (two (.Name y yp) x px iter y py iter2 scope pos) 0 (.ref I) acc { cenv with scope := relabel scope env }) (compPost (Md w) A E (some (assign (.Name z pz) env)) Q acc cenv.locals) s₄) E s₃) E s := by
  refine comp_open (RR := fun acc C => compPost (Md w) A E (some (assign (.Name z pz) env)) Q acc C) S X hst hk hnd fun D C s₄ Y S' hst' hown hsub => ?_
  have loop : codeAny (Md w) A (.compLoop (two (.Name y yp) x px iter y py iter2 scope pos) 0 (.ref I) (.ref D) (cEnv scope cl C env)) (compPost (Md w) A E (some (assign (.Name z pz) env)) Q (.ref D) C) s₄ := by
    refine compLoop2 hh S' Y hst' (J C) (h0 C) (fun i v ys B' m' own' s' hb hi hP hJ Z => turn C i v ys B' m' own' s' (fun p hp => (hown p hp).sub hb) (fun b o e => hb b o (hsub b o e)) hi hP hJ Z) (fun ys m' new s' hJ hI Z => ?_) (hkc C) (hl C) hd (hs C)
    exact comp_store X Z hI (fun s' q => fin C D ys new s' hJ q) hke hz
  obtain ⟨⟨fp, W, _⟩, _⟩ := id S'
  exact codeAny_compStart_list loop (W.self 0 _ _ _ hst' loop)
end
end Mine

end
section
open PySem PySem.W PyProof.Rows
set_option Elab.async false
set_option maxRecDepth 100000
set_option autoImplicit false
set_option linter.unusedVariables false
set_option maxHeartbeats 4000000
namespace Mine
noncomputable def fnAt (w : World) (a : Addr) : FuncData := match (hd.heap_39 w.params).lookup a with | some ⟨_, _, .func f, _⟩ => f | _ => default

section
variable {w : World} {A : Around} {E : Value → Shared → Prop} {s : Shared}

/-- a def of the top, by its address -/
theorem enterN (a : Addr) {oc : Value} {od : Option Addr} {osl : Array (Option Value)} {body : List Stmt} {vals : List Value} {Q : Value → Shared → Prop} (binds : List (Str × Value)) (hroom : A.depth < recursionLimit) (g : GdH w s.heap)
    (hl : (hd.heap_39 w.params).lookup a = some ⟨oc, od, .func (fnAt w a), osl⟩) (hcd : codeIn (hd.heap_39 w.params) (fnAt w a).code (fnAt w a).qualname = true) (hbody : (fnAt w a).body = .stmts body)
    (hbind : BindsTo s (fnAt w a) ⟨vals, []⟩ binds) (hclo : (fnAt w a).closure = []) (hkind : (binds.all fun y => (fnAt w a).scope.names.lookup y.1 == some .local || (fnAt w a).scope.names.lookup y.1 == some .cell) = true)
    (hnd : ((cellsFrom 0 (fnAt w a).scope.names []).map (·.1)).Nodup)
    (h : ∀ L s', FS s s.heap.get? L (bindL (callEnvC (fnAt w a) L a).kindOf binds fun _ => none)
        (cellOwn (cellsFrom (L + 1) (fnAt w a).scope.names []) (bindC (callEnvC (fnAt w a) L a).kindOf binds fun _ => none)) s' →
      wpAny (Md w) (A.deeper (callEnvC (fnAt w a) L a)) (execs body (callEnvC (fnAt w a) L a)) (fun f s' => Q (retv f) s') (fun _ _ => False) s')
    (hco : (fnAt w a).scope.isCoroutine = false := by rfl) (hgen : (fnAt w a).scope.isGenerator = false := by rfl) (hk : (fnAt w a).scope.kind = .function := by rfl) : wpAny (Md w) A (call (.ref a) vals) Q E s :=
  enterC hroom (g.X _ _ hl) rfl g (codeRec_of g.X hcd) hbody hbind hclo hkind hnd h hco hgen hk

theorem gn_NT (w : World) : nsIn (hd.heap_39 w.params) mainGlobals "NT_OFFSET" = some (some (.int 256 210)) := by kernel_rfl

theorem isterm {x : Int} {t : Tok} {Q : Value → Shared → Prop} (r : Rm A 1 20) (g : GdH w s.heap) (h : ∀ s', Same s s' → Ext s.heap s'.heap → Q (.bool (decide (x < 256))) s') :
    wpAny (Md w) A (call (.ref 35) [.int x t]) Q E s := by
  refine enterN 35 [("x", .int x t)] (by have := r.dp; omega) g rfl rfl rfl (BindsTo.of_eq rfl) rfl rfl (of_decide_eq_true rfl) fun L s' X => ?_
  have G := X.gd (GdB.of g)
  refine wpAny_execs_cons (wpAny_Return_some (wpAny_Compare1 (nmL X rfl (nmG G (gn_NT w) (lt_int ?_)))))
  exact h _ X.same X.keep
theorem isnonterm {x : Int} {t : Tok} {Q : Value → Shared → Prop} (r : Rm A 1 20) (g : GdH w s.heap) (h : ∀ s', Same s s' → Ext s.heap s'.heap → Q (.bool (decide (256 ≤ x))) s') :
    wpAny (Md w) A (call (.ref 42) [.int x t]) Q E s := by
  refine enterN 42 [("x", .int x t)] (by have := r.dp; omega) g rfl rfl rfl (BindsTo.of_eq rfl) rfl rfl (of_decide_eq_true rfl) fun L s' X => ?_
  have G := X.gd (GdB.of g)
  refine wpAny_execs_cons (wpAny_Return_some (wpAny_Compare1 (nmL X rfl (nmG G (gn_NT w) (ge_int ?_)))))
  exact h _ X.same X.keep
end
end Mine

end
section
set_option autoImplicit false
namespace Mine

def ruleOf (R : List (Int × List Int)) (x : Int) : List Int := ((R.find? fun kv => kv.1 = x).map (·.2)).getD []
def keysOf (R : List (Int × List Int)) : List Int := R.map (·.1)

/-- going down the rules -/
def word (R : List (Int × List Int)) : Nat → Int → List Int
  | 0, x => [x]
  | n + 1, x => if x < 256 then [x] else (ruleOf R x).flatMap (word R n)
/-- n steps suffice -/
def Fits (R : List (Int × List Int)) : Nat → Int → Prop
  | 0, _ => False
  | n + 1, x => x < 256 ∨ (x ∈ keysOf R ∧ ∀ y ∈ ruleOf R x, Fits R n y)

structure Gram (R : List (Int × List Int)) : Prop where
  nd : (keysOf R).Nodup
  big : ∀ k ∈ keysOf R, 256 ≤ k
  few : ∀ kv ∈ R, kv.2.length ≤ 3
  sym : ∀ kv ∈ R, ∀ y ∈ kv.2, y < 256 ∨ y ∈ keysOf R
  len : R.length ≤ 6

theorem ruleOf_mem {R : List (Int × List Int)} {x : Int} (h : x ∈ keysOf R) : (x, ruleOf R x) ∈ R := by
  unfold ruleOf
  unfold keysOf at h
  obtain ⟨kv, hkv, rfl⟩ := List.mem_map.mp h
  cases hf : R.find? fun z => z.1 = kv.1 with
  | none => have := List.find?_eq_none.mp hf kv hkv; simp at this
  | some z =>
    have h1 := List.mem_of_find?_eq_some hf
    have h2 := List.find?_some hf
    simp at h2
    rw [Option.map_some, Option.getD_some, ← h2]
    exact h1
theorem ruleOf_len {R : List (Int × List Int)} (G : Gram R) (x : Int) : (ruleOf R x).length ≤ 3 := by
  unfold ruleOf
  cases hf : R.find? fun z => z.1 = x with
  | none => simp
  | some z => simpa using G.few z (List.mem_of_find?_eq_some hf)
theorem flatMap_len {α β : Type} (f : α → List β) (k : Nat) : ∀ (l : List α), (∀ x ∈ l, (f x).length ≤ k) → (l.flatMap f).length ≤ l.length * k
  | [], _ => by simp
  | x :: l, h => by
    rw [List.flatMap_cons, List.length_append, List.length_cons, Nat.succ_mul]
    have h1 := h x (by simp)
    have h2 := flatMap_len f k l fun y hy => h y (List.mem_cons_of_mem _ hy)
    omega
theorem word_len {R : List (Int × List Int)} (G : Gram R) : ∀ (n : Nat) (x : Int), (word R n x).length ≤ 3 ^ n
  | 0, x => by simp [word]
  | n + 1, x => by
    unfold word
    split
    · exact Nat.pow_pos (n := n + 1) (show 0 < 3 by decide)
    · have h1 := flatMap_len (word R n) (3 ^ n) (ruleOf R x) fun y _ => word_len G n y
      have h2 := ruleOf_len G x
      have h3 : (ruleOf R x).length * 3 ^ n ≤ 3 * 3 ^ n := Nat.mul_le_mul_right _ h2
      rw [Nat.pow_succ]; omega

def preds (R : List (Int × List Int)) (shown : List Int) (x : Int) : List Int := shown.filter fun y => (ruleOf R y).any (· == x)
def freeOf (R : List (Int × List Int)) (shown : List Int) : List Int := shown.filter fun x => decide (preds R shown x = [])
/-- the order due -/
def orderOf (R : List (Int × List Int)) : Nat → List Int → Option (List Int)
  | _, [] => some []
  | 0, _ :: _ => none
  | n + 1, y :: ys => match freeOf R (y :: ys) with
    | [] => none
    | x :: _ => (orderOf R n ((y :: ys).erase x)).map (x :: ·)
/-- each symbol once, as the rows show them -/
def showOne (acc : List Int) (x : Int) : List Int := if acc.any (· == x) then acc else acc ++ [x]
def showAll (acc : List Int) (xs : List Int) : List Int := xs.foldl showOne acc
end Mine

end
section
open PySem PySem.W PyProof.Rows
set_option Elab.async false
set_option maxRecDepth 100000
set_option autoImplicit false
set_option linter.unusedVariables false
set_option maxHeartbeats 4000000
namespace Mine

/-- a list of ints -/
def LIB (B : Base) (a : Addr) (ns : List Int) : Prop := ∃ vs, AtB B a (IsL vs) ∧ IntsAre vs ns
theorem LIB.sub {B B' : Base} {a ns} (x : LIB B a ns) (k : ∀ b o, B b = some o → B' b = some o) : LIB B' a ns := let ⟨vs, h, i⟩ := x; ⟨vs, h.sub k, i⟩

inductive Fa2 {α β : Type} (P : α → β → Prop) : List α → List β → Prop
  | nil : Fa2 P [] []
  | cons {a b l r} : P a b → Fa2 P l r → Fa2 P (a :: l) (b :: r)
theorem Fa2.imp {α β : Type} {P Q : α → β → Prop} (h : ∀ a b, P a b → Q a b) : ∀ {l r}, Fa2 P l r → Fa2 Q l r
  | _, _, .nil => .nil
  | _, _, .cons p t => .cons (h _ _ p) (Fa2.imp h t)

/-- the dict of the rules -/
def RulesB (w : World) (B : Base) (d : Addr) (R : List (Int × List Int)) : Prop :=
  ∃ kvs, AtB B d (IsD w kvs) ∧ (d == sysModules) = false ∧ Fa2 (fun kv r => kv.1 = r.1 ∧ ∃ a, kv.2 = .ref a ∧ LIB B a r.2) kvs R
theorem RulesB.sub {w : World} {B B' : Base} {d R} (x : RulesB w B d R) (k : ∀ b o, B b = some o → B' b = some o) : RulesB w B' d R := by
  obtain ⟨kvs, h, hs, f⟩ := x
  exact ⟨kvs, h.sub k, hs, f.imp fun kv r ⟨e, a, e2, q⟩ => ⟨e, a, e2, q.sub k⟩⟩
theorem Fa2.find {B : Base} : ∀ {kvs : List (Int × Value)} {R : List (Int × List Int)} {x : Int}, Fa2 (fun kv r => kv.1 = r.1 ∧ ∃ a, kv.2 = .ref a ∧ LIB B a r.2) kvs R → x ∈ keysOf R →
    ∃ a, valueAt kvs x = some (.ref a) ∧ LIB B a (ruleOf R x)
  | _, _, _, .nil, h => by cases h
  | (k, v) :: _, (k', ys) :: R, x, .cons ⟨e, a, e2, q⟩ t, h => by
    dsimp only at e e2 q
    subst e; subst e2
    unfold valueAt ruleOf
    rw [List.find?_cons, List.find?_cons]
    by_cases hx : k = x
    · subst hx
      simp only [decide_true]
      exact ⟨a, rfl, q⟩
    · simp only [hx, decide_false]
      have h' : x ∈ keysOf R := by
        unfold keysOf at h ⊢
        rw [List.map_cons] at h
        rcases List.mem_cons.mp h with h | h
        · exact absurd h.symm hx
        · exact h
      exact Fa2.find t h'
theorem RulesB.get {w : World} {B : Base} {d R} (h : RulesB w B d R) {x : Int} (hx : x ∈ keysOf R) {hp : Heap} (k : ∀ b o, B b = some o → hp.get? b = some o) :
    ∃ a f, hp.MapOf (intKind Challenge.rw_mq0099_01.row.prog w) d f ∧ f x = some (.ref a) ∧ LIB B a (ruleOf R x) := by
  obtain ⟨kvs, h, hs, f⟩ := h
  obtain ⟨a, h1, h2⟩ := f.find hx
  exact ⟨a, _, (h.at k).dict.mapOf, h1, h2⟩

section
variable {w : World} {A : Around} {E : Value → Shared → Prop} {s : Shared} {env : Env}

/-- a call of a def of the top by its name -/
theorem callG (a : Addr) {f : Str} {p pos : Pos} {e : Expr} {rest : List Expr} {oc : Value} {od : Option Addr} {osl : Array (Option Value)} {Q : Value → Shared → Prop} (g : GdH w s.heap)
    (en : nsIn (hd.heap_39 w.params) mainGlobals f = some (some (.ref a))) (hl : (hd.heap_39 w.params).lookup a = some ⟨oc, od, .func (fnAt w a), osl⟩)
    (h : wpAny (Md w) A (spliced (backTo pos (starEach (e :: rest) env))) (fun vs s₁ => GdH w s₁.heap ∧ wpAny (Md w) A (call (.ref a) vs) Q E s₁) E s)
    (he : starEach (e :: rest) env = (false, eval e env) :: starEach rest env := by rfl)
    (hk : env.scope.kind = .function := by rfl) (hx : env.kindOf f = some .globalImplicit := by rfl) (hg : env.globals = mainGlobals := by rfl) (hd : (f == ("__debug__" : Str)) = false := by decide) :
    wpAny (Md w) A (eval (.Call (.Name f p) (e :: rest) [] pos) env) Q E s :=
  wpAny_Call_NameR (nmG g en (callWith_def (o := ⟨oc, od, .func (fnAt w a), osl⟩) rfl (wpAny_mono h (fun vs s₁ q => ⟨q.1.X _ _ hl, q.2⟩) fun _ _ q => q) he) hk hx hg hd)

theorem arg1 {e : Expr} {pos : Pos} {Q : List Value → Shared → Prop} (h : wpAny (Md w) A (eval e env) (fun v s₁ => Q [v] s₁) E s) (he : starEach [e] env = (false, eval e env) :: starEach [] env := by rfl) :
    wpAny (Md w) A (spliced (backTo pos (starEach [e] env))) Q E s := spliced_more (wpAny_mono h (fun _ _ q => spliced_none q) fun _ _ q => q) he
theorem arg2 {e f : Expr} {pos : Pos} {Q : List Value → Shared → Prop} (h : wpAny (Md w) A (eval e env) (fun v s₁ => wpAny (Md w) A (eval f env) (fun u s₂ => Q [v, u] s₂) E s₁) E s)
    (he : starEach [e, f] env = (false, eval e env) :: starEach [f] env := by rfl) (hf : starEach [f] env = (false, eval f env) :: starEach [] env := by rfl) :
    wpAny (Md w) A (spliced (backTo pos (starEach [e, f] env))) Q E s := spliced_more (wpAny_mono h (fun _ _ q => arg1 q hf) fun _ _ q => q) he

theorem sub_dict {value slice : Expr} {d : Addr} {k : Int} {t : Tok} {f : Int → Option Value} {v : Value} {Q : Value → Shared → Prop} (hm : s.heap.MapOf (intKind Challenge.rw_mq0099_01.row.prog w) d f) (hv : f k = some v)
    (h : Q v { s with toks := s.toks + 1 }) (hs : subscripted slice false (.ref d) (.int k t) = operate [.ref d, .int k t] (getItem (.ref d) (.int k t)) := by rfl) :
    wpAny (Md w) A (subscriptTail value slice (.ref d) (.int k t)) Q E s := tail_any hm.typeIs slot_dict_getitem.lookup (wpAny_getItem_of (intKind_is _ _ _ _) hm hv h) hs

theorem comp2_eval {elt iter iter2 : Expr} {x y : Str} {px py : Pos} {scope : Scope} {pos : Pos} {cl : List (Str × Addr)} {Q : Value → Shared → Prop}
    (h : wpAny (Md w) A (eval iter env) (fun xv s₁ => wpAny (Md w) A (pyIter xv) (fun it s₂ => wpAny (Md w) A (newList []) (fun acc s₃ => wpAny (Md w) A (newFunctionEnv scope env.globals cl [] env.qual none .none (some env)) (fun cenv s₄ =>
      codeAny (Md w) A (.compStart (two elt x px iter y py iter2 scope pos) 0 it acc { cenv with scope := relabel scope env }) (compPost (Md w) A E none Q acc cenv.locals) s₄) E s₃) E s₂) E s₁) E s)
    (hclos : closureFor scope env = pure cl := by rfl) (hkind : scope.kind = .function := by rfl) (hnames : ∀ y ∈ scope.names, y.2 = .local → scope.names.lookup y.1 = some .local := by decide)
    (hs : ∀ z, foldedSetIterable iter env z = pure z := by intro _; rfl) : wpAny (Md w) A (eval (two elt x px iter y py iter2 scope pos) env) Q E s := by
  rw [eval_ListComp]
  exact wpAny_comprehension_free (use := none) rfl hs hclos hkind hnames h

theorem newL {s₀ : Shared} {B : Base} {L : Addr} {m : Str → Option Value} {own : Own} {vs : List Value} {Q : Value → Shared → Prop} (X : FS s₀ B L m own s) (hsz : vs.length ≤ sizeLine)
    (h : ∀ a s', FS s₀ B L m ((a, IsL vs) :: own) s' → s.heap.get? a = none → 2 < a → Q (.ref a) s') (g : GdH w s.heap) : wpAny (Md w) A (newList vs) Q E s := by
  have hn : s.heap.get? s.heap.objs.size = none := by
    cases e : s.heap.get? s.heap.objs.size with
    | none => rfl
    | some o => exact absurd (Heap.lt_size e) (Nat.lt_irrefl _)
  have h2 : 2 < s.heap.objs.size := by
    obtain ⟨_, _, _, _, _, T⟩ := g.T
    obtain ⟨mc, ⟨o, _, _, ho, _⟩, _⟩ := T.nolimit
    exact Heap.lt_size ho
  exact wpAny_newObj_type (h _ _ (X.push (o := { cls := .type "list", data := .seq vs.toArray }) rfl ⟨0, rfl⟩) hn h2) (by show vs.toArray.size ≤ sizeLine; rw [List.size_toArray]; exact hsz)

/-- what is owned at the end of a call is new -/
theorem FS.fresh {s₀ s : Shared} {L : Addr} {m : Str → Option Value} {own : Own} (X : FS s₀ s₀.heap.get? L m own s) {a : Addr} {P : Obj → Prop} (h : (a, P) ∈ own) : s₀.heap.get? a = none := (X.own' _ h).2.1

theorem gn_word (w : World) : nsIn (hd.heap_39 w.params) mainGlobals "_law_word" = some (some (.ref 62)) := by kernel_rfl

theorem IntsAre.append' {a b : List Value} {m n : List Int} (h : IntsAre a m) (k : IntsAre b n) : IntsAre (a ++ b) (m ++ n) := by
  induction h with
  | nil => exact k
  | cons n t _ ih => exact .cons n t ih

theorem word_call {R : List (Int × List Int)} (GR : Gram R) (n : Nat) : ∀ {A : Around} {E : Value → Shared → Prop} {s : Shared} {d : Addr} {x : Int} {t : Tok} {Q : Value → Shared → Prop}, n ≤ 10 → Rm A n (3 * n + 10) → GdH w s.heap → RulesB w s.heap.get? d R → Fits R n x →
    (∀ s' a, Same s s' → Ext s.heap s'.heap → s.heap.get? a = none → LIB s'.heap.get? a (word R n x) → Q (.ref a) s') → wpAny (Md w) A (call (.ref 62) [.ref d, .int x t]) Q E s := by
  induction n with
  | zero => intro A E s d x t Q _ _ _ _ hf; exact hf.elim
  | succ n ih =>
    intro A E s d x t Q hn r g hR hf h
    refine enterN 62 [("rules", .ref d), ("symbol", .int x t)] (by have := r.dp; omega) g rfl rfl rfl (BindsTo.of_eq rfl) rfl rfl (of_decide_eq_true rfl) fun L s' X => ?_
    have r' := r.deeper (callEnvC (fnAt w 62) L 62)
    generalize A.deeper (callEnvC (fnAt w 62) L 62) = A' at r' ⊢
    replace X : FS s s.heap.get? L _ [(L + 1, IsC (some (.ref d)))] s' := X
    have G := GdB.of g
    refine wpAny_execs_cons (wpAny_If (wpAny_isTrue_Compare1 (nmL X rfl (wpAny_Constant_int (lt_int (wpAny_truthy_bool ?_))))))
    by_cases hx : x < 256
    · simp only [hx, decide_true, if_true]
      refine wpAny_execs_cons (wpAny_Return_some (List_ (arg1 (nmL (X.tok _) rfl (newL (X.tok _) (Nat.le_of_ble_eq_true rfl) (fun a s₁ Y _ _ => ?_) (X.gd G))))))
      refine h s₁ a Y.same Y.keep (Y.fresh (.head _)) ⟨_, Y.at' (.head _), ?_⟩
      unfold word; rw [if_pos hx]; exact .cons _ _ .nil
    · simp only [hx, decide_false, Bool.false_eq_true, if_false]
      obtain ⟨hkey, hsub⟩ := hf.resolve_left hx
      obtain ⟨ra, f, hm, hfa, vs, hva, hvi⟩ := hR.get hkey (X.tok (s'.toks + 1)).keep
      refine wpAny_execs_nil (wpAny_execs_cons (wpAny_Return_some (comp2_eval (Subscript_ (nmC (X.at' (.head _)) (nmL (X.tok _) rfl (sub_dict hm hfa ?_)))))))
      refine it_list r'.hh (X.tok _) hva fun I s₂ St X₂ _ _ _ S hst => ?_
      have hlen3 : vs.length ≤ 3 := by rw [hvi.length]; exact ruleOf_len GR x
      refine comp2 r'.hh S X₂ hst (fun C i ys own => i ≤ vs.length ∧ IntsAre ys (((ruleOf R x).take i).flatMap (word R n))) (fun C => ⟨Nat.zero_le _, .nil⟩) ?_ ?_
      · intro C i v ys B' m' own' s' hown hsub' hi hP hJ Z
        obtain ⟨y, ty, rfl, hy⟩ := hvi.at i v hP
        refine stL Z (fun s₃ Z₃ => ?_)
        have G₃ : GdH w s₃.heap := Z₃.gd (G.sub hsub')
        refine callG 62 G₃ (gn_word w) rfl (arg2 (nmC ((hown _ (.head _)).at Z₃.keep) (nmL Z₃ rfl ⟨G₃, ?_⟩)))
        refine ih (by omega) (r'.le (Nat.le_refl _) (by omega)) G₃ (hR.sub fun b o e => Z₃.keep b o (hsub' b o e)) (hsub y (List.mem_of_getElem? hy)) fun s₄ a hs he hn ⟨ws, hwa, hwi⟩ => ?_
        refine ⟨a, ws, _, _, rfl, Z₃.add hs he hn hwa, .inr (.head _), ⟨hi, ?_⟩, ?_⟩
        · rw [List.take_add_one, hy]
          simp only [Option.toList_some, List.flatMap_append, List.flatMap_cons, List.flatMap_nil, List.append_nil]
          exact IntsAre.append' hJ.2 hwi
        · have h1 := hJ.2.length
          have h2 := hwi.length
          have h3 := word_len GR n y
          have h4 := flatMap_len (word R n) (3 ^ n) ((ruleOf R x).take i) fun y _ => word_len GR n y
          have h5 : ((ruleOf R x).take i).length * 3 ^ n ≤ 3 * 3 ^ n := Nat.mul_le_mul_right _ (Nat.le_trans (List.length_take_le _ _) (by omega))
          have h6 : 3 ^ n ≤ 3 ^ 10 := Nat.pow_le_pow_right (by decide) (by omega)
          have h7 : (3 : Nat) ^ 10 = 59049 := by decide
          have h8 : sizeLine = 16777216 := by decide
          omega
      · intro C D ys new s₃ hJ Y
        refine h s₃ D Y.same Y.keep (Y.fresh (.head _)) ⟨_, Y.at' (.head _), ?_⟩
        have h1 := hJ.2
        rw [List.take_of_length_le (by rw [← hvi.length]; exact Nat.le_refl _)] at h1
        unfold word; rw [if_neg hx]; exact h1
end
end Mine

end
section
open PySem PySem.W PyProof.Rows
set_option Elab.async false
set_option maxRecDepth 100000
set_option autoImplicit false
set_option linter.unusedVariables false
set_option maxHeartbeats 4000000
namespace Mine

theorem FS.exact {s₀ s : Shared} {B : Base} {L a : Addr} {m : Str → Option Value} {own : Own} {P : Obj → Prop} (X : FS s₀ B L m ((a, P) :: own) s) : ∃ o, P o ∧ s.heap.get? a = some o ∧ FS s₀ B L m ((a, fun x => x = o) :: own) s := by
  obtain ⟨h1, h2, o, ho, hP⟩ := X.own' (a, P) (.head _)
  refine ⟨o, hP, ho, X.same, X.ns, X.keep, X.hL, fun p hp => ?_, X.nd⟩
  rcases List.mem_cons.mp hp with rfl | hp
  · exact ⟨h1, h2, o, ho, rfl⟩
  · exact X.own' p (.tail _ hp)
theorem FS.weak {s₀ s : Shared} {B : Base} {L a : Addr} {m : Str → Option Value} {own : Own} {P P' : Obj → Prop} (X : FS s₀ B L m ((a, P) :: own) s) (h : ∀ o, P o → P' o) : FS s₀ B L m ((a, P') :: own) s := by
  obtain ⟨h1, h2, o, ho, hP⟩ := X.own' (a, P) (.head _)
  refine ⟨X.same, X.ns, X.keep, X.hL, fun p hp => ?_, X.nd⟩
  rcases List.mem_cons.mp hp with rfl | hp
  · exact ⟨h1, h2, o, ho, h o hP⟩
  · exact X.own' p (.tail _ hp)

theorem Src.stay {w : World} {A : Around} {B : Base} {I : Addr} {n : Nat} {P : Nat → Value → Prop} {St : Nat → Heap → Prop} (S : Src w A B I n P St) {i : Nat} {h h' : Heap} {o : Obj} (st : St i h) (e : h.get? I = some o) (e' : h'.get? I = some o)
    (k : ∀ b x, B b = some x → h.get? b = some x) (k' : ∀ b x, B b = some x → h'.get? b = some x) : St i h' := by
  obtain ⟨⟨fp, W, hfp⟩, _⟩ := S
  refine W.frame _ _ _ st fun b hb x q => ?_
  rcases hfp b hb with rfl | ⟨o', ho'⟩
  · rw [e] at q; cases q; exact e'
  · rw [k _ _ ho'] at q; cases q; exact k' _ _ ho'
theorem Src.self {w : World} {A : Around} {B : Base} {I : Addr} {n : Nat} {P : Nat → Value → Prop} {St : Nat → Heap → Prop} (S : Src w A B I n P St) {i : Nat} {s : Shared} {Q : Value → Shared → Prop} {E : Value → Shared → Prop} (st : St i s.heap) (h : Q (.ref I) s) :
    wpAny (Md w) A (pyIter (.ref I)) Q E s := by
  obtain ⟨⟨fp, W, hfp⟩, _⟩ := S
  exact W.self i s Q E st h
/-- the same iterator deeper in -/
theorem it_listA {w : World} {E : Value → Shared → Prop} {s₀ s : Shared} {B : Base} {L : Addr} {m : Str → Option Value} {own : Own} {A A' : Around} {a : Addr} {vs : List Value} {Q : Value → Shared → Prop} (hh : A'.handled = none) (X : FS s₀ B L m own s) (ha : AtB B a (IsL vs))
    (h : ∀ I s' St, FS s₀ B L m ((I, fun _ => True) :: own) s' → Src w A' B I vs.length (fun i v => vs[i]? = some v) St → St 0 s'.heap → Q (.ref I) s') :
    wpAny (Md w) A (pyIter (.ref a)) Q E s := by
  have hl := (ha.at X.keep).list
  obtain ⟨o, ho, hP⟩ := ha
  have hn : s.heap.get? s.heap.objs.size = none := by
    cases e : s.heap.get? s.heap.objs.size with
    | none => rfl
    | some o => exact absurd (Heap.lt_size e) (Nat.lt_irrefl _)
  have hne : a ≠ s.heap.objs.size := fun e => by
    have := X.keep a o ho; rw [e, hn] at this; cases this
  refine wpAny_pyIter_list hl ?_
  have e : Ext s.heap (s.heap.push { cls := .type "list_iterator", data := .fields #[.ref a, .int 0 0] }) := fun b o e => Heap.get?_push_of_some _ e
  refine h _ _ (fun i h => h.IsListIter s.heap.objs.size a i ∧ h.IsList a vs.toArray) (X.push rfl trivial) ⟨⟨[s.heap.objs.size, a], ?_, ?_⟩, ?_⟩ ⟨⟨_, Heap.get?_push_size _ rfl, rfl, rfl⟩, hl.at fun o q => e _ _ q⟩
  · have W := Walks.list (prog := Challenge.rw_mq0099_01.row.prog) (w := w) hh s.heap.objs.size a hne vs.toArray
    simpa using W
  · intro b hb
    rcases List.mem_cons.mp hb with rfl | hb
    · exact .inl rfl
    · rw [List.mem_singleton.mp hb]; exact .inr ⟨o, ho⟩
  · rintro i h ⟨⟨o, q, _⟩, _⟩; exact ⟨o, q⟩

/-- a loop in which what is kept grows -/
theorem for_srcB {w : World} {A : Around} {s₀ s : Shared} {B : Base} {m : Str → Option Value} {env : Env} {I : Addr} {n : Nat} {P : Nat → Value → Prop} {St : Nat → Heap → Prop} {x : Str} {px : Pos} {body orelse : List Stmt} {R : Result → Shared → Prop} {L : Addr}
    (S : Src w A B I n P St) (X : FS s₀ B L m [(I, fun _ => True)] s) (hst : St 0 s.heap) (J : Nat → Base → (Str → Option Value) → Prop) (h0 : J 0 B m)
    (turn : ∀ i v Bi m s oI, (∀ b o, B b = some o → Bi b = some o) → i < n → P i v → J i Bi m → FS s₀ Bi L m [(I, fun x => x = oI)] s →
      wpAny (Md w) A (storeName env x v) (fun _ s => wpAny (Md w) A (execs body env)
        (fun f s' => f = .next ∧ ∃ B' m', (∀ b o, Bi b = some o → B' b = some o) ∧ FS s₀ B' L m' [(I, fun x => x = oI)] s' ∧ J (i + 1) B' m') (fun _ _ => False) s) (fun _ _ => False) s)
    (done : ∀ Bi m s, (∀ b o, B b = some o → Bi b = some o) → J n Bi m → FS s₀ Bi L m [] s → wpAny (Md w) A (execs orelse env) (fun f s' => R (.ok f) s') (fun _ _ => False) s) :
    codeAny (Md w) A (.forLoop (.Name x px) (.ref I) body orelse env) R s := by
  have S0 := S
  obtain ⟨⟨fp, W, hfp⟩, hex⟩ := S
  refine codeAny_forLoop (fun k s' => ∃ i Bi m, k = n + 1 - i ∧ i ≤ n ∧ St i s'.heap ∧ (∀ b o, B b = some o → Bi b = some o) ∧ FS s₀ Bi L m [(I, fun _ => True)] s' ∧ J i Bi m) ?_ (n + 1) ⟨0, B, m, rfl, Nat.zero_le _, hst, fun _ _ e => e, X, h0⟩
  rintro k s' ⟨i, Bi, m₁, rfl, hi, hst', hsub, X', hJ⟩
  by_cases hlt : i < n
  · refine W.item i s' _ _ hlt hst' fun v h₁ tk₁ hP hst₁ hk₁ => ?_
    obtain ⟨oI, hoI⟩ := hex _ _ hst₁
    have X₁ := X'.next' tk₁ hk₁ hoI
    refine wpAny_assign_Name (wpAny_mono (turn i v Bi m₁ _ oI hsub hlt hP hJ X₁) (fun _ s₂ q => ?_) fun _ _ q => q.elim)
    refine wpAny_mono q (fun f s₃ q => ?_) fun _ _ q => q.elim
    obtain ⟨rfl, B', m', hsub', X₄, q⟩ := q
    have hoI' : s₃.heap.get? I = some oI := by obtain ⟨o, ho, e⟩ := X₄.at' (a := I) (.head _); rw [ho, e]
    have X₁' := X'.next tk₁ hk₁
    exact ⟨n + 1 - (i + 1), by omega, i + 1, B', m', rfl, hlt, S0.stay hst₁ hoI hoI' (fun b o e => X₁'.keep b o (hsub b o e)) (fun b o e => X₄.keep b o (hsub' b o (hsub b o e))), fun b o e => hsub' b o (hsub b o e), X₄.weak fun _ _ => trivial, q⟩
  · have hin : i = n := by omega
    subst hin
    refine W.done s' _ _ hst' fun h₁ tk₁ hk₁ => ?_
    exact wpAny_mono (done Bi m₁ _ hsub hJ (X'.next tk₁ hk₁)) (fun _ _ q => q) fun _ _ q => q.elim

/-- what is kept grows by new objects -/
def Grown (B B' : Base) (h h' : Heap) : Prop := (∀ b o, B b = some o → B' b = some o) ∧ ∀ b o, B' b = some o → h'.get? b = some o ∧ (B b = some o ∨ h.get? b = none)
theorem FS.grown {s₀ s s' : Shared} {B B' : Base} {L : Addr} {m : Str → Option Value} {own : Own} (X : FS s₀ B L m own s) (hs : Same s s') (e : Ext s.heap s'.heap) (g : Grown B B' s.heap s'.heap) : FS s₀ B' L m own s' := by
  have Y := X.ext hs e
  have hn : ∀ b, B b = none → (∃ o, s.heap.get? b = some o) → B' b = none := fun b h1 ⟨o, h2⟩ => by
    cases q : B' b with
    | none => rfl
    | some o' =>
      rcases (g.2 b o' q).2 with h3 | h3
      · rw [h1] at h3; cases h3
      · rw [h2] at h3; cases h3
  obtain ⟨oL, _, _, hoL, _⟩ := X.ns
  refine ⟨Y.same, Y.ns, fun b o q => (g.2 b o q).1, hn L X.hL ⟨oL, hoL⟩, fun p hp => ?_, X.nd⟩
  have Z := X.own' p hp
  obtain ⟨o, ho, _⟩ := Z.2.2
  exact ⟨Z.1, hn _ Z.2.1 ⟨o, ho⟩, (Y.own' p hp).2.2⟩

section
variable {w : World} {A : Around} {E : Value → Shared → Prop} {s : Shared} {env : Env}

theorem iter_call {a : Addr} {Q : Value → Shared → Prop} (h : wpAny (Md w) A.in1 (pyIter (.ref a)) Q E s) : wpAny (Md w) A (call (.builtin "iter") [.ref a]) Q E s := by
  refine Calls.call_function_entry (by decide +kernel) (by decide +kernel) kdk_entry_iter (kdk_args_iter _) ?_
  unfold Builtin.«iter»
  refine wpAny_bind (m := someArgs "iter" 1 2 _) (wpAny_of_eq (a := [Value.ref a]) (by first | rfl | kernel_rfl!) ?_)
  show wpAny _ _ (pyIter (.ref a) >>= _) _ _ _
  exact wpAny_bind (wpAny_mono h (fun v s' q => wpAny_pure ⟨v, rfl, q⟩) fun _ _ q => q)

theorem gb_iter (w : World) : nsIn (hd.heap_39 w.params) mainGlobals "iter" = some none := by kernel_rfl
theorem gn_miss (w : World) : nsIn (hd.heap_39 w.params) mainGlobals "_initial_missing" = some (some (.ref 15)) := by kernel_rfl

theorem callB {f : Str} {id : String} {p pos : Pos} {e : Expr} {rest : List Expr} {Q : Value → Shared → Prop} (g : GdH w s.heap) (en : nsIn (hd.heap_39 w.params) mainGlobals f = some none) (hv : bootBuiltins f = some (.builtin id))
    (h : wpAny (Md w) A (spliced (backTo pos (starEach (e :: rest) env))) (fun vs s₁ => wpAny (Md w) A (call (.builtin id) vs) Q E s₁) E s)
    (hn : f ≠ "__name__" := by decide) (he : starEach (e :: rest) env = (false, eval e env) :: starEach rest env := by rfl) (hplain : (backTo pos (starEach rest env)).any (·.1) = false := by rfl)
    (hk : env.scope.kind = .function := by rfl) (hx : env.kindOf f = some .globalImplicit := by rfl) (hg : env.globals = mainGlobals := by rfl) (hb : env.builtins = builtinsNs := by rfl) (hd : (f == ("__debug__" : Str)) = false := by decide) :
    wpAny (Md w) A (eval (.Call (.Name f p) (e :: rest) [] pos) env) Q E s :=
  wpAny_Call_NameR (nmB g en hv (PyProof.Rows.callWith_builtin1 h he hplain) hn hk hx hg hb hd)

/-- reduce over a list, by what a step does -/
theorem reduce_call {f q : Addr} {vs : List Value} {v0 : Value} {Q : Value → Shared → Prop} (Rep : Nat → Value → Base → Prop) (r : Rm A 3 100) (g : GdH w s.heap)
    (hf : FnAt f s.heap) (hq : AtB s.heap.get? q (IsL vs)) (h0 : Rep 0 v0 s.heap.get?) (hmiss : ∃ a o, v0 = .ref a ∧ a ≠ 15 ∧ s.heap.get? a = some o ∧ o.cls ≠ .type "tuple")
    (step : ∀ (A' : Around) i v e s' Bi (Q : Value → Shared → Prop) (E : Value → Shared → Prop), Rm A' 2 97 → vs[i]? = some e → (∀ b o, s.heap.get? b = some o → Bi b = some o) → (∀ b o, Bi b = some o → s'.heap.get? b = some o) → Rep i v Bi →
      (∀ s'' v' B', Same s' s'' → Ext s'.heap s''.heap → Grown Bi B' s'.heap s''.heap → Rep (i + 1) v' B' → Q v' s'') → wpAny (Md w) A' (call (.ref f) [v, e]) Q E s')
    (h : ∀ s' v Bi, Same s s' → (∀ b o, s.heap.get? b = some o → Bi b = some o) → (∀ b o, Bi b = some o → s'.heap.get? b = some o) → Rep vs.length v Bi → Q v s') : wpAny (Md w) A (call (.ref 23) [.ref f, .ref q, v0]) Q E s := by
  refine enterN 23 [("function", .ref f), ("sequence", .ref q), ("initial", v0)] (by have := r.dp; omega) g rfl rfl rfl (binds_K (K := hd.heap_39 w.params) g.X rfl rfl rfl rfl rfl) rfl rfl (of_decide_eq_true rfl) fun L s' X => ?_
  have r' : Rm (A.deeper (callEnvC (fnAt w 23) L 23)) 2 97 := r.deeper _
  generalize hA : A.deeper (callEnvC (fnAt w 23) L 23) = A' at r' ⊢
  replace X : FS s s.heap.get? L _ [] s' := X
  have G := GdB.of g
  obtain ⟨a, oa, rfl, ha15, hoa, hct⟩ := hmiss
  refine wpAny_execs_cons (wpAny_Assign_Name (callB (X.gd G) (gb_iter w) boot_iter (arg1 (nmL X rfl (iter_call (it_listA r'.hh X hq fun I s₁ St X₁ S hst => ?_))))))
  obtain ⟨oI, _, hoI, X₂⟩ := X₁.exact
  refine stL X₂ (fun s₂ X₃ => ?_)
  have hoI₂ : s₂.heap.get? I = some oI := by obtain ⟨o, ho, e⟩ := X₃.at' (a := I) (.head _); rw [ho, e]
  have hst₂ := S.stay hst hoI hoI₂ X₂.keep X₃.keep
  refine wpAny_execs_cons (wpAny_If (wpAny_isTrue_Compare1 (nmL X₃ rfl (nmG (X₃.gd G) (gn_miss w) (wpAny_is_ref_other ha15 (X₃.keep _ _ hoa) ((X₃.gd G).X _ _ rfl) hct (wpAny_truthy_bool ?_))))))
  simp only [Bool.false_eq_true, if_false]
  refine wpAny_execs_cons (wpAny_Assign_Name (nmL X₃ rfl (stL X₃ fun s₃ X₄ => ?_)))
  have hoI₃ : s₃.heap.get? I = some oI := by obtain ⟨o, ho, e⟩ := X₄.at' (a := I) (.head _); rw [ho, e]
  have hst₃ := S.stay hst₂ hoI₂ hoI₃ X₃.keep X₄.keep
  refine wpAny_execs_nil (wpAny_execs_cons (wpAny_For (nmL X₄ rfl (S.self hst₃ ?_))))
  refine for_srcB S (X₄.weak fun _ _ => trivial) hst₃ (fun i Bi m => m "function" = some (.ref f) ∧ ∃ v, m "value" = some v ∧ Rep i v Bi) ⟨rfl, _, rfl, h0⟩ ?_ ?_
  · rintro i e Bi m₁ s₄ oI hsub hi hP ⟨hmf, v, hmv, hrep⟩ Y
    refine stL Y fun s₅ Y₅ => ?_
    have hfn : ∀ {h : Heap}, (∀ b o, Bi b = some o → h.get? b = some o) → FnAt f h := fun k => by
      obtain ⟨oc, od, fd, sl, e⟩ := hf; exact ⟨oc, od, fd, sl, k _ _ (hsub _ _ e)⟩
    refine wpAny_execs_cons (wpAny_Assign_Name (wpAny_Call_NameR (nmL Y₅ (v := .ref f) hmf (callWith_F (hfn Y₅.keep) (arg2 (nmL Y₅ (v := v) hmv (nmL Y₅ rfl ⟨hfn Y₅.keep, ?_⟩)))))))
    refine step _ i v e s₅ Bi _ _ r' hP hsub Y₅.keep hrep fun s₆ v' B' hs he hg hr => ?_
    refine stL (Y₅.grown hs he hg) fun s₇ Y₇ => wpAny_execs_nil ⟨rfl, B', _, hg.1, Y₇, ?_, v', ?_, hr⟩
    · exact hmf
    · rfl
  · rintro Bi m₁ s₄ hsub ⟨hmf, v, hmv, hrep⟩ Y
    refine wpAny_execs_nil (wpAny_execs_cons (wpAny_Return_some (nmL Y hmv ?_)))
    exact h s₄ v Bi Y.same hsub Y.keep hrep
end
end Mine

end
section
open PySem PySem.W PyProof.Rows
set_option Elab.async false
set_option maxRecDepth 100000
set_option autoImplicit false
set_option linter.unusedVariables false
set_option maxHeartbeats 4000000
namespace Mine

theorem FS.offSub {s₀ s : Shared} {B : Base} {L I : Addr} {m : Str → Option Value} {own : Own} {P : Obj → Prop} (X : FS s₀ B L m ((I, P) :: own) s) : ∀ b o, B b = some o → offB s.heap I b = some o := fun b o q => by
  have hXI := X.own' (I, P) (.head _)
  unfold offB; rw [if_neg]
  · exact X.keep b o q
  · intro e; rw [e, hXI.2.1] at q; cases q

section
variable {w : World} {A : Around} {E : Value → Shared → Prop} {s : Shared} {env : Env}

/-- any def is entered, with what it keeps from around it -/
theorem enterF {a : Addr} {o : Obj} {fd : FuncData} {body : List Stmt} {vals : List Value} {Q : Value → Shared → Prop} (binds : List (Str × Value)) (hroom : A.depth < recursionLimit) (g : GdH w s.heap)
    (ho : s.heap.get? a = some o) (hdata : o.data = .func fd) (hcd : s.heap.CodeRec fd.code fd.qualname) (hbody : fd.body = .stmts body) (hbind : BindsTo s fd ⟨vals, []⟩ binds)
    (hkind : (binds.all fun y => fd.scope.names.lookup y.1 == some .local || fd.scope.names.lookup y.1 == some .cell) = true)
    (hnd : ((cellsFrom 0 fd.scope.names []).map (·.1)).Nodup)
    (h : ∀ L env s', env = newEnv fd.scope L fd.globals (cellsFrom (L + 1) fd.scope.names fd.closure) (fd.qualname ++ ".<locals>.") (some a) fd.code none fd.builtins →
      FS s s.heap.get? L (bindL env.kindOf binds fun _ => none) (cellOwn (cellsFrom (L + 1) fd.scope.names []) (bindC env.kindOf binds fun _ => none)) s' →
      wpAny (Md w) (A.deeper env) (execs body env) (fun f s' => Q (retv f) s') (fun _ _ => False) s')
    (hco : fd.scope.isCoroutine = false := by rfl) (hgen : fd.scope.isGenerator = false := by rfl) (hk : fd.scope.kind = .function := by rfl) : wpAny (Md w) A (call (.ref a) vals) Q E s := by
  have hlim : s.heap.NoLimit := let ⟨_, _, _, _, _, T⟩ := g.T; T.nolimit
  refine wpAny_call (codeAny_call_function hroom ho hdata hco hgen hbody hcd (hbind _ _ _ _ ?_))
  refine newEnvFS hk hnd hkind fun L env s' he hL X => ?_
  refine ⟨hlim.keeps X.keep, codeAny_func (wpAny_mono (h L env s' he X) (fun f s' q => by cases f <;> exact q) fun _ _ q => q.elim)⟩
end

noncomputable def wrP (w : World) : Arguments := match (fnAt w 69).body with | .stmts (.FunctionDef _ p _ _ _ _ _ _ _ _ :: _) => p | _ => default
noncomputable def wrB (w : World) : List Stmt := match (fnAt w 69).body with | .stmts (.FunctionDef _ _ b _ _ _ _ _ _ _ :: _) => b | _ => []
noncomputable def wrS (w : World) : Scope := match (fnAt w 69).body with | .stmts (.FunctionDef _ _ _ _ _ _ s _ _ _ :: _) => s | _ => default
noncomputable def lyP (w : World) : Arguments := match (fnAt w 76).body with | .stmts (.FunctionDef _ p _ _ _ _ _ _ _ _ :: _) => p | _ => default
noncomputable def lyB (w : World) : List Stmt := match (fnAt w 76).body with | .stmts (.FunctionDef _ _ b _ _ _ _ _ _ _ :: _) => b | _ => []
noncomputable def lyS (w : World) : Scope := match (fnAt w 76).body with | .stmts (.FunctionDef _ _ _ _ _ _ s _ _ _ :: _) => s | _ => default

/-- the writer's function, the rules at hand -/
def WriteAt (w : World) (B : Base) (f d : Addr) : Prop :=
  ∃ qual doc pm c' ctv cl, B f = some (fnMade "write" qual (wrP w) (wrB w) (wrS w) [("rules", cl)] doc pm c' ctv) ∧ AtB B cl (IsC (some (.ref d))) ∧ ∃ oc vs t, B c' = some oc ∧ oc.data = .fields vs ∧ vs[1]? = some (.str qual t)

def expand (R : List (Int × List Int)) (sym : Int) (ns : List Int) : List Int := ns.flatMap fun x => if x = sym then ruleOf R sym else [x]

section
variable {w : World} {A : Around} {E : Value → Shared → Prop} {s : Shared} {env : Env}
theorem write_call {f d q : Addr} {R : List (Int × List Int)} {ns : List Int} {sym : Int} {t : Tok} {Q : Value → Shared → Prop} (GR : Gram R) (r : Rm A 1 50) (g : GdH w s.heap) (hf : WriteAt w s.heap.get? f d) (hR : RulesB w s.heap.get? d R)
    (hq : LIB s.heap.get? q ns) (hsym : sym ∈ keysOf R) (hlen : ns.length ≤ 100000)
    (h : ∀ s' a, Same s s' → Ext s.heap s'.heap → s.heap.get? a = none → LIB s'.heap.get? a (expand R sym ns) → Q (.ref a) s') : wpAny (Md w) A (call (.ref f) [.ref q, .int sym t]) Q E s := by
  obtain ⟨qual, doc, pm, c', ctv, cl, hfo, hcl, oc, ocv, tq, hc1, hc2, hc3⟩ := hf
  refine enterF [("row", .ref q), ("symbol", .int sym t)] (by have := r.dp; omega) g hfo rfl ⟨_, _, _, _, rfl, hc1, hc2, hc3⟩ rfl (BindsTo.of_eq rfl) rfl (of_decide_eq_true rfl) fun L env s' he X => ?_
  replace he : env = { scope := wrS w, locals := L, globals := mainGlobals, cells := [("symbol", L + 1), ("rules", cl)], qual := qual ++ ".<locals>.", func := some f, code := .ref c', frame := some L, builtins := builtinsNs } := he
  subst he
  have r' := (r.le (d' := 1) (u' := 50) (by omega) (by omega)).deeper (d := 0) (u := 47) ({ scope := wrS w, locals := L, globals := mainGlobals, cells := [("symbol", L + 1), ("rules", cl)], qual := qual ++ ".<locals>.", func := some f, code := .ref c', frame := some L, builtins := builtinsNs } : Env)
  generalize A.deeper _ = A' at r' ⊢
  replace X : FS s s.heap.get? L _ [(L + 1, IsC (some (.int sym t)))] s' := X
  have G := GdB.of g
  obtain ⟨vs, hva, hvi⟩ := hq
  refine wpAny_execs_cons (wpAny_Return_some (comp2_eval (nmL X rfl ?_)))
  refine it_list r'.hh X hva fun I s₂ St X₂ _ _ _ S hst => ?_
  have hbig : vs.length ≤ 100000 := by rw [hvi.length]; exact hlen
  have h3 := ruleOf_len GR sym
  have hexp : ∀ l : List Int, (expand R sym l).length ≤ l.length * 3 := fun l => flatMap_len _ 3 l fun x _ => by
    split
    · exact h3
    · simp
  have h8 : sizeLine = 16777216 := by decide
  refine comp2 r'.hh S X₂ hst (fun C i ys own => i ≤ vs.length ∧ IntsAre ys (expand R sym (ns.take i))) (fun C => ⟨Nat.zero_le _, .nil⟩) ?_ ?_
  · intro C i v ys B' m' own' s' hown hsub' hi hP hJ Z
    obtain ⟨y, ty, rfl, hy⟩ := hvi.at i v hP
    have hlen1 : ys.length ≤ 300000 := by
      have h1 := hJ.2.length
      have h2 := hexp (ns.take i)
      have h4 := List.length_take_le i ns
      omega
    refine stL Z (fun s₃ Z₃ => wpAny_IfExp (wpAny_isTrue_Compare1 (nmL Z₃ rfl (nmC ((hown _ (.head _)).at Z₃.keep) (eq_int (wpAny_truthy_bool ?_))))))
    have hstep : ∀ (ws : List Value), IntsAre ws (if y = sym then ruleOf R sym else [y]) → IntsAre (ys ++ ws) (expand R sym (ns.take (i + 1))) := fun ws hw => by
      rw [List.take_add_one, hy]
      unfold expand
      simp only [Option.toList_some, List.flatMap_append, List.flatMap_cons, List.flatMap_nil, List.append_nil]
      exact IntsAre.append' hJ.2 hw
    by_cases hxy : y = sym
    · subst hxy
      simp only [beq_self_eq_true, if_true]
      obtain ⟨ra, f', hm, hfa, ws, hwa, hwi⟩ := hR.get hsym (fun b o e => Z₃.keep b o (hsub' b o e))
      refine Subscript_ (nmF ((hcl.sub hsub').at Z₃.keep) (nmC ((hown _ (.head _)).at Z₃.keep) (sub_dict hm hfa ?_)))
      refine ⟨ra, ws, _, _, rfl, Z₃.tok _, .inl (hwa.sub X₂.offSub), ⟨hi, hstep ws (by rw [if_pos rfl]; exact hwi)⟩, ?_⟩
      have := hwi.length
      omega
    · have hb : (y == sym) = false := by simpa using hxy
      simp only [hb, Bool.false_eq_true, if_false]
      refine List_ (arg1 (nmL Z₃ rfl (newL Z₃ (Nat.le_of_ble_eq_true rfl) (fun a s₄ Z₄ _ _ => ?_) (Z₃.gd (G.sub hsub')))))
      refine ⟨a, _, _, _, rfl, Z₄, .inr (.head _), ⟨hi, hstep _ (by rw [if_neg hxy]; exact .cons _ _ .nil)⟩, ?_⟩
      simp only [List.length_cons, List.length_nil]
      omega
  · intro C D ys new s₃ hJ Y
    refine h s₃ D Y.same Y.keep (Y.fresh (.head _)) ⟨_, Y.at' (.head _), ?_⟩
    have h1 := hJ.2
    rwa [List.take_of_length_le (by rw [← hvi.length]; exact Nat.le_refl _)] at h1
end
end Mine

end
section
open PySem PySem.W PyProof.Rows
set_option Elab.async false
set_option maxRecDepth 100000
set_option autoImplicit false
set_option linter.unusedVariables false
set_option maxHeartbeats 4000000
namespace Mine

section
variable {M : Model} {A : Around} {E : Value → Shared → Prop} {s : Shared}
theorem put_of_set {d : Addr} {key v : Value} {h : Int} {Q : Unit → Shared → Prop} (hs : wpAny M A (dictSetHashed d key h v) Q E s) : wpAny M A (dictPut d h key v) Q E s := fun Γ p hΓ => by
  have q := hs Γ p hΓ
  unfold dictSetHashed at q
  rw [Sem.wp_holding, Sem.wp_bind'] at q
  unfold dictPut
  rw [Sem.wp_bind']
  refine Sem.wp_mono M Γ _ (fun r p' s' hr => ?_) (fun _ _ _ e => e) p s q
  cases r with
  | none =>
    dsimp only at hr ⊢
    rw [Sem.wp_bind'] at hr
    replace hr : Sem.wp M Γ (updateDictKeys d (·.push ⟨h, key, v⟩) (keyPart key)) (fun a _ s' => Q a s') (fun e _ s' => E e s') p' s' := hr
    unfold updateDictKeys lookBehind at hr ⊢
    rw [Sem.wp_bind', Sem.wp_cmd_loadPart] at hr ⊢
    obtain ⟨o, ho, hr⟩ := hr
    refine ⟨o, ho, ?_⟩
    cases hd : o.data with
    | dict es n =>
      rw [hd] at hr
      dsimp only at hr ⊢
      rw [Sem.wp_bind', Sem.wp_cmd_updatePart] at hr ⊢
      refine ⟨hr.1, ?_⟩
      have hr2 := hr.2
      rw [Sem.wp_bind', Sem.wp_cmd_loadPart] at hr2 ⊢
      exact hr2
    | _ => rw [hd] at hr; exact hr
  | some i =>
    dsimp only at hr ⊢
    rw [Sem.wp_bind'] at hr
    replace hr : Sem.wp M Γ (updateDict d (·.modify i fun e => { e with val := v }) (keyPart key) >>= fun _ => point) (fun a _ s' => Q a s') (fun e _ s' => E e s') p' s' := hr
    rw [Sem.wp_bind'] at hr
    replace hr : Sem.wp M Γ (updateDict d (·.modify i fun e => { e with val := v }) (keyPart key)) (fun a _ s' => Q () s') (fun e _ s' => E e s') p' s' := hr
    unfold updateDict at hr ⊢
    rw [Sem.wp_bind', Sem.wp_cmd_loadPart] at hr ⊢
    obtain ⟨o, ho, hr⟩ := hr
    refine ⟨o, ho, ?_⟩
    cases hd : o.data with
    | dict es n =>
      rw [hd] at hr
      dsimp only at hr ⊢
      rw [Sem.wp_bind', Sem.wp_cmd_updatePart] at hr ⊢
      refine ⟨hr.1, ?_⟩
      have hr2 := hr.2
      rw [Sem.wp_bind', Sem.wp_cmd_loadPart] at hr2 ⊢
      exact hr2
    | _ => rw [hd] at hr; exact hr
end

section
variable {prog : Program} {w : World} {A : Around} {E : Value → Shared → Prop} {s : Shared} {K : Type} [DecidableEq K] {knd : KeyKind prog w K}
theorem merge_dicts {d o : Addr} {kvs more : List (K × Value)} {Q : Unit → Shared → Prop} (hdo : d ≠ o) (hoS : (o == sysModules) = false) (hd : s.heap.DictOf knd d kvs) (ho : s.heap.DictOf knd o more)
    (hQ : ∀ h', h'.DictOf knd d (merged kvs more) → Heap.SameBut d s.heap h' → Q () { s with heap := h' }) (hsz : kvs.length + more.length ≤ sizeLine) : wpAny (model prog w) A (mergeMapping d (.ref o) false) Q E s := by
  obtain ⟨od, esd, epd, hod, hcd, hdd, hkd, hpd, hnd⟩ := id hd
  obtain ⟨oo, eso, epo, hoo, hco, hdo', hko, hpo, hno⟩ := id ho
  have hlen : more.length = eso.size := by rw [← hpo.length]; simp
  have loop : wpAny (model prog w) A (do
      let size := (← dictEntries o).size
      let epoch ← dictEpoch o
      forIn (List.range size) PUnit.unit fun i (_ : PUnit) => (do
        let l' ← dictEntries o
        match l'[i]? with
        | some e => do
          holding [e.key, e.val] (dictPut d e.hash e.key e.val)
          let ep' ← dictEpoch o
          if (ep' != epoch) = true then do
            (unsupported "dict.changed-during-merge" : Sem PUnit)
            pure (ForInStep.yield PUnit.unit)
          else pure (ForInStep.yield PUnit.unit)
        | _ => do
          (unsupported "dict.changed-during-merge" : Sem PUnit)
          pure (ForInStep.yield PUnit.unit) : Sem (ForInStep PUnit))) (fun _ s' => Q () s') E s := by
    refine wpAny_bind (wpAny_dictEntries hoo hdo' (wpAny_bind (wpAny_dictEpoch hoo hdo' ?_)))
    refine wpAny_forIn_list _
      (fun rest _ s' => ∃ h' i, s' = { s with heap := h' } ∧ rest = (List.range eso.size).drop i ∧ i ≤ eso.size ∧ h'.DictOf knd d (merged kvs (more.take i)) ∧ h'.get? o = some oo ∧ Heap.SameBut d s.heap h')
      _ ?_ ?_ _ _ ⟨s.heap, 0, rfl, by simp, Nat.zero_le _, by simpa [merged] using hd, hoo, Heap.SameBut.refl _ _⟩
    · rintro x rest b s' ⟨h', i, rfl, hr, hi, hd', hoo', hs'⟩
      have hlt : i < eso.size := by
        rcases Nat.lt_or_ge i eso.size with h | h
        · exact h
        · rw [List.drop_eq_nil_of_le (by simpa using h)] at hr; cases hr
      obtain ⟨rfl, hrest⟩ : x = i ∧ rest = (List.range eso.size).drop (i + 1) := by
        rw [List.drop_eq_getElem_cons (by simpa using hlt)] at hr
        injection hr with h1 h2
        exact ⟨by simpa using h1, h2⟩
      refine wpAny_bind (wpAny_dictEntries hoo' hdo' ?_)
      rw [Array.getElem?_eq_getElem hlt]
      obtain ⟨⟨k, v⟩, hkv⟩ : ∃ kv, more[x]? = some kv := ⟨more[x]'(by rw [hlen]; exact hlt), List.getElem?_eq_getElem _⟩
      obtain ⟨hkey, hval⟩ := hpo.get? (e := eso[x]) (by simp [hlt]) hkv
      obtain ⟨k', hkey', hhash⟩ := hko eso[x] (Array.getElem_mem hlt)
      obtain rfl : k' = k := knd.inj _ _ _ hkey' hkey
      dsimp only
      rw [hhash, hval]
      have hmx : (merged kvs (more.take x)).length ≤ sizeLine := by
        have e1 := merged_length_le kvs (more.take x)
        have e2 := List.length_take_le x more
        omega
      refine wpAny_bind (wpAny_holding (put_of_set (wpAny_dictSetHashed_pairs (hsz := hmx) hkey hd' fun h'' hd'' hs'' => ?_)))
      have hoo'' : h''.get? o = some oo := (hs''.2 o (Ne.symm hdo)).trans hoo'
      refine wpAny_bind (wpAny_dictEpoch hoo'' hdo' ?_)
      rw [if_neg (by simp)]
      exact wpAny_pure ⟨h'', x + 1, rfl, hrest, hlt, by rw [merged_take_succ kvs more x (k', v) hkv]; exact hd'', hoo'', hs'.trans hs''⟩
    · rintro b s' ⟨h', i, rfl, hr, hi, hd', hoo', hs'⟩
      have hin : i = eso.size := by
        rcases Nat.lt_or_ge i eso.size with h | h
        · rw [List.drop_eq_getElem_cons (by simpa using h)] at hr; cases hr
        · exact Nat.le_antisymm hi h
      refine hQ h' ?_ hs'
      rw [hin, ← hlen, List.take_length] at hd'; exact hd'
  have hoS' : ¬ ((o == sysModules) = true) := by rw [hoS]; exact Bool.false_ne_true
  unfold mergeMapping
  simp only [bind_assoc, pure_bind, Bool.false_eq_true, if_false]
  refine wpAny_bind (m := isInstance _ _) (wpAny_isInstance ho.typeIs isSubtype_dict_dict ?_)
  simp only [if_true]
  refine wpAny_bind (m := specialOf _ _) (wpAny_specialOf ho.typeIs F.slot_dict_iter.lookup ?_)
  simp only [beq_self_eq_true]
  rw [if_neg hoS']
  have fin := wpAny_bind (M := model prog w) (A := A) (E := E) (f := fun _ => pure ()) (Q := Q) (wpAny_mono loop (fun _ s' q => wpAny_pure q) fun _ _ q => q)
  simp only [bind_assoc, pure_bind] at fin
  refine wpAny_bind (wpAny_dictEntries hod hdd ?_)
  split
  · refine wpAny_bind (wpAny_dictEntries hoo hdo' ?_)
    rw [← Array.forIn_toList, forIn_yield_id]
    · simp only [pure_bind]
      exact fin
    · intro x hx c
      obtain ⟨k, hk, _⟩ := hko x (Array.mem_toList_iff.mp hx)
      have hb := knd.byValue k x.key hk
      cases hx2 : x.key <;> first | rfl | (rw [hx2] at hb; exact absurd hb Bool.false_ne_true)
  · exact fin
end

section
variable {w : World} {A : Around} {E : Value → Shared → Prop} {s : Shared} {env : Env}
theorem dict_star_tree (T Kx V : Sem Value) : dictDisplay [(none, T), (some Kx, V)] = (do
    let d ← alloc { cls := .type "dict", data := .dict #[] }
    let m ← holding [.ref d] T
    (((holding [.ref d, m] (mergeMapping d m false)).onRaise fun x => do let _ ← holding [.ref d, m, x] (runValue (.builtin "proto.let_go" {}))).tryCatch fun e => do
        if ← isInstance e (.type "AttributeError") then
          rule "dict.display.not-a-mapping"; raiseError "TypeError" s!"'{← typeNameOf m}' object is not a mapping"
        throw e).onRaise fun x => do let _ ← holding [.ref d, x] (runValue (.builtin "proto.let_go" {}))
    let sub ← holding [.ref d] (subDict [(Kx, V)])
    (holding [.ref d, .ref sub] (mergeMapping d (.ref sub) false)).onRaise fun x => do let _ ← holding [.ref d, x] (runValue (.builtin "proto.let_go" {}))
    pure (.ref d)) := by
  unfold dictDisplay
  simp only [List.forIn_cons, List.forIn_nil, List.isEmpty_nil, List.isEmpty_cons, List.nil_append, List.length_cons, List.length_nil, bind_assoc, pure_bind, if_true, if_false, Bool.false_eq_true, show ((0 + 1 == 17) = true) = False from by simp]

theorem dict_star {T Kx V : Sem Value} {Q : Value → Shared → Prop} {knd : PySem.KeyKind Challenge.rw_mq0099_01.row.prog w Int} (hknd : knd = intKind Challenge.rw_mq0099_01.row.prog w)
    (h : wpAny (Md w) A T (fun m s₁ => ∃ o kvs, m = .ref o ∧ s₁.heap.DictOf knd o kvs ∧ (o == sysModules) = false ∧ o ≠ s.heap.objs.size ∧ s₁.heap.DictOf knd s.heap.objs.size [] ∧ kvs.length ≤ 1000 ∧
      ∀ h₁, h₁.DictOf knd s.heap.objs.size kvs → Heap.SameBut s.heap.objs.size s₁.heap h₁ →
        wpAny (Md w) A Kx (fun kv s₂ => wpAny (Md w) A V (fun vv s₃ => ∃ k t, kv = .int k t ∧ h₁.objs.size ≠ sysModules ∧ s₃.heap.DictOf knd h₁.objs.size [] ∧ s₃.heap.DictOf knd s.heap.objs.size kvs ∧ k ∉ kvs.map (·.1) ∧ s.heap.objs.size ≠ h₁.objs.size ∧
          ∀ h₄ tk, h₄.DictOf knd s.heap.objs.size (kvs ++ [(k, vv)]) → (∀ b, b ≠ s.heap.objs.size → b ≠ h₁.objs.size → h₄.get? b = s₃.heap.get? b) → Q (.ref s.heap.objs.size) { s₃ with heap := h₄, toks := tk }) (fun _ _ => False) s₂) (fun _ _ => False)
          { s₁ with heap := h₁.push { cls := .type "dict", data := .dict #[] } }) (fun _ _ => False)
      { s with heap := s.heap.push { cls := .type "dict", data := .dict #[] } }) : wpAny (Md w) A (dictDisplay [(none, T), (some Kx, V)]) Q E s := by
  have h8 : sizeLine = 16777216 := by decide
  rw [dict_star_tree]
  refine wpAny_bind (wpAny_alloc (wpAny_bind (wpAny_holding (wpAny_mono h (fun m s₁ q => ?_) fun _ _ q => q.elim))))
  obtain ⟨o, kvs, rfl, ho, hos, hne, hd, hl, q⟩ := q
  refine wpAny_bind (wpAny_noRaise (wpAny_onRaise (wpAny_tryCatch (wpAny_onRaise (wpAny_holding (wpAny_noRaise (merge_dicts (Ne.symm hne) hos hd ho (fun h₁ hd₁ hs₁ => ?_) (by simp; omega))))))))
  have hn : (kvs.map (·.1)).Nodup := by obtain ⟨_, _, _, _, _, _, _, _, hn⟩ := ho; exact hn
  rw [merged_nil_of_nodup _ hn] at hd₁
  refine wpAny_bind (wpAny_holding (wpAny_subDict (knd := knd) (Nat.le_of_ble_eq_true rfl) ?_))
  refine evalPairs_cons (wpAny_noRaise (wpAny_mono (q h₁ hd₁ hs₁) (fun kv s₂ q => ?_) fun _ _ q => q.elim))
  refine wpAny_noRaise (wpAny_mono q (fun vv s₃ q => ?_) fun _ _ q => q.elim)
  obtain ⟨k, t, rfl, hsys, hsub, hd₃, hk, hne', q⟩ := q
  refine evalPairs_nil ⟨[(k, vv)], ⟨by subst hknd; exact intKind_is _ _ _ _, rfl, trivial⟩, hsub, fun h₄ hd₄ hs₄ => ?_⟩
  have hd₄' : h₄.DictOf knd s.heap.objs.size kvs := hd₃.sameBut hs₄ hne'
  have hd₅ : h₄.DictOf knd h₁.objs.size [(k, vv)] := hd₄
  refine wpAny_bind (wpAny_noRaise (wpAny_onRaise (wpAny_holding (wpAny_noRaise (merge_dicts hne' (by simpa using hsys) hd₄' hd₅ (fun h₅ hd₆ hs₅ => wpAny_pure (q h₅ _ ?_ ?_)) (by simp; omega))))))
  · rw [merged_append_of_fresh] at hd₆
    · exact hd₆
    · rw [List.map_append, List.nodup_append]
      refine ⟨hn, by simp, fun a ha b hb e => ?_⟩
      simp only [List.map_cons, List.map_nil, List.mem_singleton] at hb
      exact hk (by rw [← hb, ← e]; exact ha)
  · intro b h1 h2
    exact (hs₅.2 b h1).trans (hs₄.2 b h2)
end
end Mine

end
section
open PySem PySem.W PyProof.Rows
set_option Elab.async false
set_option maxRecDepth 100000
set_option autoImplicit false
set_option linter.unusedVariables false
set_option maxHeartbeats 4000000
namespace Mine

/-- the layer's function, the rules at hand -/
def LayAt (w : World) (B : Base) (f d : Addr) : Prop :=
  ∃ qual doc pm c' ctv cl, B f = some (fnMade "lay" qual (lyP w) (lyB w) (lyS w) [("rules", cl)] doc pm c' ctv) ∧ AtB B cl (IsC (some (.ref d))) ∧ ∃ oc vs t, B c' = some oc ∧ oc.data = .fields vs ∧ vs[1]? = some (.str qual t)

def laid (R T : List (Int × List Int)) (sym : Int) : List Int := if sym < 256 then [sym] else (ruleOf R sym).flatMap (ruleOf T)

theorem dict_addr {w : World} {s : Shared} (g : GdH w s.heap) : 2 < s.heap.objs.size := by
  obtain ⟨_, _, _, _, _, T⟩ := g.T
  obtain ⟨mc, ⟨o, _, _, ho, _⟩, _⟩ := T.nolimit
  exact Heap.lt_size ho

section
variable {w : World} {A : Around} {E : Value → Shared → Prop} {s : Shared} {env : Env}
theorem gn_IST (w : World) : nsIn (hd.heap_39 w.params) mainGlobals "ISTERMINAL" = some (some (.ref 35)) := by kernel_rfl

theorem lay_call {f d td : Addr} {R T : List (Int × List Int)} {kvs : List (Int × Value)} {sym : Int} {t : Tok} {Q : Value → Shared → Prop} (GR : Gram R) (r : Rm A 2 60) (g : GdH w s.heap) (hf : LayAt w s.heap.get? f d) (hR : RulesB w s.heap.get? d R)
    (hT : AtB s.heap.get? td (IsD w kvs)) (htd : (td == sysModules) = false) (hTf : Fa2 (fun kv r => kv.1 = r.1 ∧ ∃ a, kv.2 = .ref a ∧ LIB s.heap.get? a r.2) kvs T)
    (hsym : sym < 256 ∨ (sym ∈ keysOf R ∧ ∀ y ∈ ruleOf R sym, y ∈ keysOf T)) (hfresh : sym ∉ kvs.map (·.1)) (hlen : kvs.length ≤ 900) (hwl : ∀ x, (ruleOf T x).length ≤ 100000)
    (h : ∀ s' a wa vs, Same s s' → Ext s.heap s'.heap → s.heap.get? a = none → s.heap.get? wa = none → a ≠ wa → AtB s'.heap.get? a (IsD w (kvs ++ [(sym, .ref wa)])) → (a == sysModules) = false → AtB s'.heap.get? wa (IsL vs) → IntsAre vs (laid R T sym) → Q (.ref a) s') :
    wpAny (Md w) A (call (.ref f) [.ref td, .int sym t]) Q E s := by
  obtain ⟨qual, doc, pm, c', ctv, cl, hfo, hcl, oc, ocv, tq, hc1, hc2, hc3⟩ := hf
  refine enterF [("table", .ref td), ("symbol", .int sym t)] (by have := r.dp; omega) g hfo rfl ⟨_, _, _, _, rfl, hc1, hc2, hc3⟩ rfl (BindsTo.of_eq rfl) rfl (of_decide_eq_true rfl) fun L env s' he X => ?_
  replace he : env = { scope := lyS w, locals := L, globals := mainGlobals, cells := [("table", L + 1), ("rules", cl)], qual := qual ++ ".<locals>.", func := some f, code := .ref c', frame := some L, builtins := builtinsNs } := he
  subst he
  have r' := r.deeper (d := 1) (u := 57) ({ scope := lyS w, locals := L, globals := mainGlobals, cells := [("table", L + 1), ("rules", cl)], qual := qual ++ ".<locals>.", func := some f, code := .ref c', frame := some L, builtins := builtinsNs } : Env)
  generalize A.deeper _ = A' at r' ⊢
  replace X : FS s s.heap.get? L _ [(L + 1, IsC (some (.ref td)))] s' := X
  have G := GdB.of g
  have h8 : sizeLine = 16777216 := by decide
  -- the word
  have cont : ∀ (wa : Addr) (vs : List Value) (own : Own) (s₁ : Shared), IntsAre vs (laid R T sym) → FS s s.heap.get? L (bindL (Env.kindOf { scope := lyS w, locals := L, globals := mainGlobals, cells := [("table", L + 1), ("rules", cl)], qual := qual ++ ".<locals>.", func := some f, code := .ref c', frame := some L, builtins := builtinsNs }) [("table", .ref td), ("symbol", .int sym t)] fun _ => none) ((wa, IsL vs) :: own) s₁ → (L + 1, IsC (some (.ref td))) ∈ own →
      wpAny (Md w) A' (storeName { scope := lyS w, locals := L, globals := mainGlobals, cells := [("table", L + 1), ("rules", cl)], qual := qual ++ ".<locals>.", func := some f, code := .ref c', frame := some L, builtins := builtinsNs } "word" (.ref wa)) (fun _ s₂ => wpAny (Md w) A' (execs ((lyB w).drop 1) { scope := lyS w, locals := L, globals := mainGlobals, cells := [("table", L + 1), ("rules", cl)], qual := qual ++ ".<locals>.", func := some f, code := .ref c', frame := some L, builtins := builtinsNs }) (fun f s' => Q (retv f) s') (fun _ _ => False) s₂) (fun _ _ => False) s₁ := by
    intro wa vs own s₁ hvi X₁ hmem
    refine stL X₁ fun s₂ X₂ => ?_
    refine wpAny_execs_cons (wpAny_Return_some ?_)
    rw [arm_eval_Dict]
    refine wpAny_bind (wpAny_standAt ?_)
    have hG₂ := X₂.gd G
    have hD2 := dict_addr hG₂
    have hDn : s₂.heap.get? s₂.heap.objs.size = none := by
      cases e : s₂.heap.get? s₂.heap.objs.size with
      | none => rfl
      | some o => exact absurd (Heap.lt_size e) (Nat.lt_irrefl _)
    have X₃ := X₂.push (o := { cls := .type "dict", data := .dict #[] }) (P := IsD w []) rfl (by
      obtain ⟨o, ho, hP⟩ := Heap.dictOf_iff.mp (Heap.DictOf.new (knd := intKind Challenge.rw_mq0099_01.row.prog w) s₂.heap)
      rw [Heap.get?_push_size _ rfl] at ho; cases ho; exact hP)
    have htdo : ∃ o, s.heap.get? td = some o := let ⟨o, ho, _⟩ := hT; ⟨o, ho⟩
    refine dict_star (knd := intKind Challenge.rw_mq0099_01.row.prog w) rfl (wpAny_bind (nmC (X₃.at' (.tail _ (.tail _ hmem))) (wpAny_bind (wpAny_standAt (wpAny_pure ⟨td, kvs, rfl, (hT.at X₃.keep).dict, htd, ?_, (X₃.at' (.head _)).dict, by omega, fun h₁ hd₁ hs₁ => ?_⟩)))))
    · intro e
      obtain ⟨o, ho⟩ := htdo
      have := X₂.keep _ _ ho
      rw [e, hDn] at this; cases this
    · have X₄ := X₃.upd (t := s₂.toks) hs₁ (P' := IsD w kvs) (Heap.dictOf_iff.mp hd₁)
      have X₅ := X₄.push (o := { cls := .type "dict", data := .dict #[] }) (P := IsD w []) rfl (by
        obtain ⟨o, ho, hP⟩ := Heap.dictOf_iff.mp (Heap.DictOf.new (knd := intKind Challenge.rw_mq0099_01.row.prog w) h₁)
        rw [Heap.get?_push_size _ rfl] at ho; cases ho; exact hP)
      dsimp only at X₅
      have hne : s₂.heap.objs.size ≠ h₁.objs.size := by
        have := (List.nodup_cons.mp X₅.nd).1
        intro e; exact this (by rw [List.map_cons]; rw [← e]; exact List.mem_cons_self)
      refine nmL X₅ rfl (wpAny_bind (nmL X₅ rfl (wpAny_bind (wpAny_standAt (wpAny_pure ⟨sym, t, rfl, ?_, (X₅.at' (.head _)).dict, (X₅.at' (.tail _ (.head _))).dict, hfresh, hne, fun h₄ tk hd₄ hk₄ => ?_⟩)))))
      · have := dict_addr (X₄.gd G)
        have e : h₁.objs.size ≠ 1 := by
          have q : (2 : Nat) < h₁.objs.size := this
          omega
        exact e
      · have hB : ∀ b o, s.heap.get? b = some o → h₄.get? b = some o := fun b o e => by
          rw [hk₄ b (fun q => ?_) (fun q => ?_)]
          · exact X₅.keep b o e
          · have := (X₅.own' _ (.tail _ (.head _))).2.1; dsimp only at this; rw [← q, e] at this; cases this
          · have := (X₅.own' _ (.head _)).2.1; dsimp only at this; rw [← q, e] at this; cases this
        have hwa1 : wa ≠ s₂.heap.objs.size := fun q => (List.nodup_cons.mp X₃.nd).1 (by rw [List.map_cons, q]; exact List.mem_cons_self)
        have hwa2 : wa ≠ h₁.objs.size := fun q => (List.nodup_cons.mp X₅.nd).1 (by rw [List.map_cons, List.map_cons, q]; exact .tail _ (.head _))
        have hwv : AtB h₄.get? wa (IsL vs) := by
          obtain ⟨o, ho, hP⟩ := X₅.at' (a := wa) (.tail _ (.tail _ (.head _)))
          exact ⟨o, (hk₄ wa hwa1 hwa2).trans ho, hP⟩
        refine h _ s₂.heap.objs.size wa vs (X₅.same.mk' h₄ tk) hB (X₃.fresh (.head _)) (X₃.fresh (.tail _ (.head _))) (Ne.symm hwa1) (Heap.dictOf_iff.mp hd₄) ?_ hwv hvi
        have e : s₂.heap.objs.size ≠ 1 := by
          have q : (2 : Nat) < s₂.heap.objs.size := hD2
          omega
        simpa [sysModules] using e
  refine wpAny_execs_cons (wpAny_Assign_Name (wpAny_IfExp (isTrue_plain (callG 35 (X.gd G) (gn_IST w) rfl (arg1 (nmL X rfl ⟨X.gd G, ?_⟩))))))
  refine isterm (r'.le (by omega) (by omega)) (X.gd G) fun s₁ hs₁ he₁ => wpAny_truthy_bool ?_
  have X₁ := X.ext hs₁ he₁
  by_cases hx : sym < 256
  · simp only [hx, decide_true, if_true]
    refine List_ (arg1 (nmL X₁ rfl (newL X₁ (Nat.le_of_ble_eq_true rfl) (fun a s₂ X₂ _ _ => ?_) (X₁.gd G))))
    exact cont a _ _ s₂ (by unfold laid; rw [if_pos hx]; exact .cons _ _ .nil) X₂ (.head _)
  · simp only [hx, decide_false, Bool.false_eq_true, if_false]
    obtain ⟨hkey, hsub⟩ := hsym.resolve_left hx
    obtain ⟨ra, f', hm, hfa, vs, hva, hvi⟩ := hR.get hkey X₁.keep
    refine comp2_eval (Subscript_ (nmF (hcl.at X₁.keep) (nmL X₁ rfl (sub_dict hm hfa ?_))))
    refine it_list r'.hh (X₁.tok _) hva fun I s₂ St X₂ _ _ _ S hst => ?_
    have hlen3 : vs.length ≤ 3 := by rw [hvi.length]; exact ruleOf_len GR sym
    refine comp2 r'.hh S X₂ hst (fun C i ys own => i ≤ vs.length ∧ IntsAre ys (((ruleOf R sym).take i).flatMap (ruleOf T))) (fun C => ⟨Nat.zero_le _, .nil⟩) ?_ ?_
    · intro C i v ys B' m' own' s' hown hsub' hi hP hJ Z
      obtain ⟨y, ty, rfl, hy⟩ := hvi.at i v hP
      refine stL Z (fun s₃ Z₃ => ?_)
      obtain ⟨ya, hyv, ws, hwa, hwi⟩ := hTf.find (hsub y (List.mem_of_getElem? hy))
      have hmT := ((hT.sub hsub').at Z₃.keep).dict.mapOf
      refine Subscript_ (nmC ((hown _ (.head _)).at Z₃.keep) (nmL Z₃ rfl (sub_dict hmT hyv ?_)))
      refine ⟨ya, ws, _, _, rfl, Z₃.tok _, .inl (hwa.sub X₂.offSub), ⟨hi, ?_⟩, ?_⟩
      · rw [List.take_add_one, hy]
        simp only [Option.toList_some, List.flatMap_append, List.flatMap_cons, List.flatMap_nil, List.append_nil]
        exact IntsAre.append' hJ.2 hwi
      · have h1 := hJ.2.length
        have h2 := hwi.length
        have h3 := hwl y
        have h4 := flatMap_len (ruleOf T) 100000 ((ruleOf R sym).take i) fun y _ => hwl y
        have h5 := List.length_take_le i (ruleOf R sym)
        have h6 := ruleOf_len GR sym
        omega
    · intro C D ys new s₃ hJ Y
      have h1 := hJ.2
      rw [List.take_of_length_le (by rw [← hvi.length]; exact Nat.le_refl _)] at h1
      exact cont D ys _ s₃ (by unfold laid; rw [if_neg hx]; exact h1) Y (List.mem_append_right _ (.head _))
end
end Mine

end
section
open PySem PySem.W PyProof.Rows
set_option Elab.async false
set_option maxRecDepth 100000
set_option autoImplicit false
set_option linter.unusedVariables false
set_option maxHeartbeats 4000000
namespace Mine

def delB (B : Base) (a : Addr) : Base := fun b => if b = a then none else B b
theorem FS.release {s₀ s : Shared} {B : Base} {L a : Addr} {m : Str → Option Value} {own : Own} {o : Obj} (X : FS s₀ B L m own s) (ha : B a = some o) : FS s₀ (delB B a) L m ((a, fun x => x = o) :: own) s := by
  have hsub : ∀ b x, delB B a b = some x → B b = some x := fun b x q => by
    unfold delB at q; split at q
    · cases q
    · exact q
  have Y := X.base hsub
  refine ⟨Y.same, Y.ns, Y.keep, Y.hL, fun p hp => ?_, ?_⟩
  · rcases List.mem_cons.mp hp with rfl | hp
    · refine ⟨fun e => ?_, ?_, o, X.keep _ _ ha, rfl⟩
      · have e' : a = L := e
        rw [e', X.hL] at ha; cases ha
      · unfold delB; rw [if_pos rfl]
    · exact Y.own' p hp
  · rw [List.map_cons, List.nodup_cons]
    refine ⟨fun q => ?_, X.nd⟩
    obtain ⟨p, hp, e⟩ := List.mem_map.mp q
    have := (X.own' p hp).2.1
    rw [e, ha] at this; cases this

/-- a new object, seen later -/
theorem FS.learn {s₀ s s' : Shared} {B : Base} {L a : Addr} {m m' : Str → Option Value} {own own' : Own} {P : Obj → Prop} (X : FS s₀ B L m own s) (Y : FS s₀ B L m' own' s') (hadr : own'.map (·.1) = own.map (·.1)) (hn : s.heap.get? a = none) (ha : At s'.heap a P) :
    FS s₀ B L m' ((a, P) :: own') s' := by
  refine ⟨Y.same, Y.ns, Y.keep, Y.hL, fun p hp => ?_, ?_⟩
  · rcases List.mem_cons.mp hp with rfl | hp
    · refine ⟨fun q => ?_, ?_, ha⟩
      · obtain ⟨o, _, _, ho, _⟩ := X.ns
        have q' : a = L := q
        rw [← q', hn] at ho; cases ho
      · cases hb : B a with
        | none => rfl
        | some o => have := X.keep a o hb; rw [hn] at this; cases this
    · exact Y.own' p hp
  · rw [List.map_cons, List.nodup_cons]
    refine ⟨fun q => ?_, Y.nd⟩
    rw [hadr] at q
    obtain ⟨p, hp, hq⟩ := List.mem_map.mp q
    obtain ⟨o, ho, _⟩ := (X.own' p hp).2.2
    rw [hq, hn] at ho; cases ho

/-- all that is new -/
def newOnly (h h' : Heap) : Base := fun b => if h.get? b = none then h'.get? b else none

section
variable {w : World} {A : Around} {E : Value → Shared → Prop} {s : Shared} {env : Env}

theorem writer_call {d : Addr} {Q : Value → Shared → Prop} (r : Rm A 1 20) (g : GdH w s.heap) (C : CodeHd s.heap 68 64) (hP : s.heap.get? 64 = some (tabObj #[]))
    (h : ∀ s' f ps, Same s s' → (∀ b o, b ≠ 64 → s.heap.get? b = some o → s'.heap.get? b = some o) → s'.heap.get? 64 = some (tabObj ps) → WriteAt w (newOnly s.heap s'.heap) f d → Q (.ref f) s') :
    wpAny (Md w) A (call (.ref 69) [.ref d]) Q E s := by
  refine enterN 69 [("rules", .ref d)] (by have := r.dp; omega) g rfl rfl rfl (BindsTo.of_eq rfl) rfl rfl (of_decide_eq_true rfl) fun L s' X => ?_
  generalize A.deeper _ = A'
  replace X : FS s s.heap.get? L _ [(L + 1, IsC (some (.ref d)))] s' := X
  have G := X.gd (GdB.of g)
  obtain ⟨p, l, me, mg, mb, T⟩ := G.T
  have C' := C.keeps X.keep
  have hP' := X.keep _ _ hP
  obtain ⟨bm, ob, b1, b2, b3, b4, b5, b6⟩ := T.bmain
  have hgP : mainGlobals ≠ 64 := fun q => by
    obtain ⟨o, es, ep, e, hd, _⟩ := T.g
    rw [q, hP'] at e; cases e; cases hd
  have hbP : bm ≠ 64 := fun q => by
    rw [q, hP'] at b3; cases b3; cases b4
  have hbG : bm ≠ mainGlobals := fun q => by
    obtain ⟨o, es, ep, e, hd, _⟩ := T.g
    rw [q, e] at b3; cases b3; rw [hd] at b6; cases b6
  have X₀ := X.release hP
  refine wpAny_execs_cons (nestDef_K rfl rfl rfl (makeFunction_K (mg := mg) rfl rfl T.g rfl C' hP' trivial rfl hgP ⟨bm, ob, b1, b2, hbG, hbP, b3, b4, b5, b6⟩ fun c' ctv doc h' tk hx hge hlt hrec htb => ?_))
  obtain ⟨c₂, oc, cvs, ct, e2, hoc, hcd, hcv⟩ := hrec
  cases e2
  have hc'n : s'.heap.get? c' = none := by
    cases e : s'.heap.get? c' with
    | none => rfl
    | some o => exact absurd (Heap.lt_size e) (Nat.not_lt.mpr hge)
  have X₁ := X₀.next' (h₁ := h') tk (fun b o hb e => hx b o (by simpa using hb) e) htb
  have X₂ := X₀.learn X₁ rfl hc'n (P := fun x => x = oc) ⟨oc, hoc, rfl⟩
  have X₃ := X₂.push (o := fnMade "write" (qualnameIn (callEnvC (fnAt w 69) L 69) "write" "write") (wrP w) (wrB w) (wrS w) [("rules", L + 1)] doc ((mg "__name__").getD .none) c' ctv)
    (P := fun x => x = fnMade "write" (qualnameIn (callEnvC (fnAt w 69) L 69) "write" "write") (wrP w) (wrB w) (wrS w) [("rules", L + 1)] doc ((mg "__name__").getD .none) c' ctv) rfl rfl
  refine stL X₃ fun s₄ X₄ => wpAny_execs_cons (wpAny_Return_some (nmL X₄ rfl ?_))
  have new : ∀ {a : Addr} {P : Obj → Prop}, (a, P) ∈ [((h'.objs.size, fun x => x = fnMade "write" (qualnameIn (callEnvC (fnAt w 69) L 69) "write" "write") (wrP w) (wrB w) (wrS w) [("rules", L + 1)] doc ((mg "__name__").getD .none) c' ctv) : Addr × (Obj → Prop)), (c', fun x => x = oc), (64, fun x => x = tabObj (#[] ++ #[rawInt 89, rawInt 4, .ref c'])), (L + 1, IsC (some (.ref d)))] → a ≠ 64 → AtB (newOnly s.heap s₄.heap) a P := fun {a P} hm hne => by
    have Z := X₄.own' _ hm
    have hn : s.heap.get? a = none := by
      have := Z.2.1; unfold delB at this; rwa [if_neg hne] at this
    obtain ⟨o, ho, hP⟩ := Z.2.2
    exact ⟨o, by unfold newOnly; rw [if_pos hn]; exact ho, hP⟩
  have ne64 : ∀ b, s'.heap.get? b = none → b ≠ 64 := fun b e q => by rw [q, hP'] at e; cases e
  have hf64 : h'.objs.size ≠ 64 := fun q => absurd (Heap.lt_size htb) (by rw [← q]; exact Nat.lt_irrefl _)
  have hL64 : L + 1 ≠ 64 := fun q => by
    have := (List.nodup_cons.mp X₀.nd).1
    exact this (by rw [← q]; exact .head _)
  obtain ⟨of, hof, rfl⟩ := new (.head _) hf64
  obtain ⟨oc', hoc', rfl⟩ := new (.tail _ (.head _)) (ne64 _ hc'n)
  have hcell := new (.tail _ (.tail _ (.tail _ (.head _)))) hL64
  obtain ⟨o64, ho64, rfl⟩ := X₄.at' (a := 64) (.tail _ (.tail _ (.head _)))
  refine h s₄ h'.objs.size _ X₄.same (fun b o hb e => X₄.keep b o (by unfold delB; rw [if_neg hb]; exact e)) ho64 ⟨_, _, _, c', _, L + 1, hof, hcell, oc', cvs, ct, hoc', hcd, hcv⟩


theorem layer_call {d : Addr} {Q : Value → Shared → Prop} (r : Rm A 1 20) (g : GdH w s.heap) (C : CodeHd s.heap 75 71) (hP : s.heap.get? 71 = some (tabObj #[]))
    (h : ∀ s' f ps, Same s s' → (∀ b o, b ≠ 71 → s.heap.get? b = some o → s'.heap.get? b = some o) → s'.heap.get? 71 = some (tabObj ps) → LayAt w (newOnly s.heap s'.heap) f d → Q (.ref f) s') :
    wpAny (Md w) A (call (.ref 76) [.ref d]) Q E s := by
  refine enterN 76 [("rules", .ref d)] (by have := r.dp; omega) g rfl rfl rfl (BindsTo.of_eq rfl) rfl rfl (of_decide_eq_true rfl) fun L s' X => ?_
  generalize A.deeper _ = A'
  replace X : FS s s.heap.get? L _ [(L + 1, IsC (some (.ref d)))] s' := X
  have G := X.gd (GdB.of g)
  obtain ⟨p, l, me, mg, mb, T⟩ := G.T
  have C' := C.keeps X.keep
  have hP' := X.keep _ _ hP
  obtain ⟨bm, ob, b1, b2, b3, b4, b5, b6⟩ := T.bmain
  have hgP : mainGlobals ≠ 71 := fun q => by
    obtain ⟨o, es, ep, e, hd, _⟩ := T.g
    rw [q, hP'] at e; cases e; cases hd
  have hbP : bm ≠ 71 := fun q => by
    rw [q, hP'] at b3; cases b3; cases b4
  have hbG : bm ≠ mainGlobals := fun q => by
    obtain ⟨o, es, ep, e, hd, _⟩ := T.g
    rw [q, e] at b3; cases b3; rw [hd] at b6; cases b6
  have X₀ := X.release hP
  refine wpAny_execs_cons (nestDef_K rfl rfl rfl (makeFunction_K (mg := mg) rfl rfl T.g rfl C' hP' trivial rfl hgP ⟨bm, ob, b1, b2, hbG, hbP, b3, b4, b5, b6⟩ fun c' ctv doc h' tk hx hge hlt hrec htb => ?_))
  obtain ⟨c₂, oc, cvs, ct, e2, hoc, hcd, hcv⟩ := hrec
  cases e2
  have hc'n : s'.heap.get? c' = none := by
    cases e : s'.heap.get? c' with
    | none => rfl
    | some o => exact absurd (Heap.lt_size e) (Nat.not_lt.mpr hge)
  have X₁ := X₀.next' (h₁ := h') tk (fun b o hb e => hx b o (by simpa using hb) e) htb
  have X₂ := X₀.learn X₁ rfl hc'n (P := fun x => x = oc) ⟨oc, hoc, rfl⟩
  have X₃ := X₂.push (o := fnMade "lay" (qualnameIn (callEnvC (fnAt w 76) L 76) "lay" "lay") (lyP w) (lyB w) (lyS w) [("rules", L + 1)] doc ((mg "__name__").getD .none) c' ctv)
    (P := fun x => x = fnMade "lay" (qualnameIn (callEnvC (fnAt w 76) L 76) "lay" "lay") (lyP w) (lyB w) (lyS w) [("rules", L + 1)] doc ((mg "__name__").getD .none) c' ctv) rfl rfl
  refine stL X₃ fun s₄ X₄ => wpAny_execs_cons (wpAny_Return_some (nmL X₄ rfl ?_))
  have new : ∀ {a : Addr} {P : Obj → Prop}, (a, P) ∈ [((h'.objs.size, fun x => x = fnMade "lay" (qualnameIn (callEnvC (fnAt w 76) L 76) "lay" "lay") (lyP w) (lyB w) (lyS w) [("rules", L + 1)] doc ((mg "__name__").getD .none) c' ctv) : Addr × (Obj → Prop)), (c', fun x => x = oc), (71, fun x => x = tabObj (#[] ++ #[rawInt 94, rawInt 4, .ref c'])), (L + 1, IsC (some (.ref d)))] → a ≠ 71 → AtB (newOnly s.heap s₄.heap) a P := fun {a P} hm hne => by
    have Z := X₄.own' _ hm
    have hn : s.heap.get? a = none := by
      have := Z.2.1; unfold delB at this; rwa [if_neg hne] at this
    obtain ⟨o, ho, hP⟩ := Z.2.2
    exact ⟨o, by unfold newOnly; rw [if_pos hn]; exact ho, hP⟩
  have ne71 : ∀ b, s'.heap.get? b = none → b ≠ 71 := fun b e q => by rw [q, hP'] at e; cases e
  have hf71 : h'.objs.size ≠ 71 := fun q => absurd (Heap.lt_size htb) (by rw [← q]; exact Nat.lt_irrefl _)
  have hL71 : L + 1 ≠ 71 := fun q => by
    have := (List.nodup_cons.mp X₀.nd).1
    exact this (by rw [← q]; exact .head _)
  obtain ⟨of, hof, rfl⟩ := new (.head _) hf71
  obtain ⟨oc', hoc', rfl⟩ := new (.tail _ (.head _)) (ne71 _ hc'n)
  have hcell := new (.tail _ (.tail _ (.tail _ (.head _)))) hL71
  obtain ⟨o71, ho71, rfl⟩ := X₄.at' (a := 71) (.tail _ (.tail _ (.head _)))
  refine h s₄ h'.objs.size _ X₄.same (fun b o hb e => X₄.keep b o (by unfold delB; rw [if_neg hb]; exact e)) ho71 ⟨_, _, _, c', _, L + 1, hof, hcell, oc', cvs, ct, hoc', hcd, hcv⟩

end
end Mine

end
section
open PySem PySem.W PyProof.Rows
set_option Elab.async false
set_option maxRecDepth 100000
set_option autoImplicit false
set_option linter.unusedVariables false
set_option maxHeartbeats 4000000
namespace Mine

/-- a list of ints, as one object -/
def IsI (ns : List Int) (o : Obj) : Prop := ∃ vs, IsL vs o ∧ IntsAre vs ns
theorem LIB.at {B : Base} {a ns} (h : LIB B a ns) : AtB B a (IsI ns) := let ⟨vs, ⟨o, e, q⟩, i⟩ := h; ⟨o, e, vs, q, i⟩
theorem LIB.of {B : Base} {a ns} (h : AtB B a (IsI ns)) : LIB B a ns := let ⟨o, e, vs, q, i⟩ := h; ⟨vs, ⟨o, e, q⟩, i⟩
theorem FS.openI {s₀ s : Shared} {B : Base} {L a : Addr} {m : Str → Option Value} {ns : List Int} {r : Own} (X : FS s₀ B L m ((a, IsI ns) :: r) s) : ∃ vs, IntsAre vs ns ∧ FS s₀ B L m ((a, IsL vs) :: r) s := by
  obtain ⟨o, ⟨vs, hv, hi⟩, ho, Y⟩ := X.exact
  exact ⟨vs, hi, Y.weak fun x e => by rw [e]; exact hv⟩
theorem FS.closeI {s₀ s : Shared} {B : Base} {L a : Addr} {m : Str → Option Value} {ns : List Int} {vs : List Value} {r : Own} (X : FS s₀ B L m ((a, IsL vs) :: r) s) (hi : IntsAre vs ns) : FS s₀ B L m ((a, IsI ns) :: r) s :=
  X.weak fun _ e => ⟨vs, e, hi⟩
theorem atI {h : Heap} {a : Addr} {ns : List Int} (x : At h a (IsI ns)) : ∃ vs, IntsAre vs ns ∧ At h a (IsL vs) := let ⟨o, ho, vs, hv, hi⟩ := x; ⟨vs, hi, o, ho, hv⟩

theorem eqvAll_ints : ∀ (xs ys : List Int), PyData.eqvAll (xs.map .int) (ys.map .int) = decide (xs = ys)
  | [], [] => by simp [PyData.eqvAll]
  | [], _ :: _ => by simp [PyData.eqvAll]
  | _ :: _, [] => by simp [PyData.eqvAll]
  | x :: xs, y :: ys => by
    simp only [List.map_cons, PyData.eqvAll, PyData.eqv, eqvAll_ints xs ys]
    by_cases h : x = y
    · subst h; simp
    · simp [h]
theorem canLay_ints : ∀ (xs : List Int), PyData.canLayAll0 (xs.map .int) = true
  | [] => rfl
  | x :: xs => by simp only [List.map_cons, PyData.canLayAll0, PyData.canLay0, canLay_ints xs, Bool.and_self]
theorem depth_ints (xs : List Int) : (PyData.list (xs.map .int)).depth ≤ 2 := by
  have : ∀ ys : List Int, PyData.depthAll (ys.map .int) ≤ 1 := fun ys => by
    induction ys with
    | nil => simp [PyData.depthAll]
    | cons y ys ih => simp only [List.map_cons, PyData.depthAll, PyData.depth]; omega
  have h := this xs
  simp only [PyData.depth]
  omega

def isInt (x : Int) : Value → Bool
  | .int a _ => a == x
  | _ => false
theorem eq_isInt' (x : Int) (t : Tok) : ∀ {vs : List Value} {ns : List Int}, IntsAre vs ns → ∀ y ∈ vs, MeetsSeq.EqGives y (.int x t) (isInt x y)
  | _, _, .nil, y, h => by cases h
  | _, _, .cons n u hi, y, h => by
    rcases List.mem_cons.mp h with rfl | h
    · exact MeetsSeq.EqGives.int n x u t
    · exact eq_isInt' x t hi y h
theorem intsErase : ∀ {vs : List Value} {ns : List Int}, IntsAre vs ns → ∀ i, IntsAre (vs.eraseIdx i) (ns.eraseIdx i)
  | _, _, .nil, _ => .nil
  | _, _, .cons n t hi, 0 => hi
  | _, _, .cons n t hi, i + 1 => .cons n t (intsErase hi i)

section
variable {w : World} {A : Around} {E : Value → Shared → Prop} {s : Shared} {env : Env}

theorem readsI {h : Heap} {a : Addr} {ns : List Int} (x : At h a (IsI ns)) : Reads h (.ref a) (.list (ns.map .int)) [a] := by
  obtain ⟨vs, hi, hv⟩ := atI x
  obtain ⟨o, ho, hc, n, hd⟩ := hv.list
  exact .list ho hc hd (hi.reads h)

theorem eqI {a b : Addr} {xs ys : List Int} {Q : Value → Shared → Prop} (r : Rm A 0 10) (ha : At s.heap a (IsI xs)) (hb : At s.heap b (IsI ys)) (h : Q (.bool (decide (xs = ys))) s) : wpAny (Md w) A (compareOp .Eq (.ref a) (.ref b)) Q E s := by
  refine SeqAt.compareEq_reads (readsI ha) (readsI hb) (canLay_ints xs) (canLay_ints ys) ?_ ?_
  · have h1 := depth_ints xs
    have h2 := r.un
    omega
  · have e : PyData.eqv (.list (xs.map .int)) (.list (ys.map .int)) = decide (xs = ys) := by
      show PyData.eqvAll _ _ = _
      exact eqvAll_ints xs ys
    rw [e]; exact h
theorem neI {a b : Addr} {xs ys : List Int} {Q : Value → Shared → Prop} (r : Rm A 0 10) (ha : At s.heap a (IsI xs)) (hb : At s.heap b (IsI ys)) (h : Q (.bool (!decide (xs = ys))) s) : wpAny (Md w) A (compareOp .NotEq (.ref a) (.ref b)) Q E s := by
  refine SeqAt.compareNe_reads (readsI ha) (readsI hb) (canLay_ints xs) (canLay_ints ys) ?_ ?_
  · have h1 := depth_ints xs
    have h2 := r.un
    omega
  · have e : PyData.eqv (.list (xs.map .int)) (.list (ys.map .int)) = decide (xs = ys) := by
      show PyData.eqvAll _ _ = _
      exact eqvAll_ints xs ys
    rw [e]; exact h

theorem appendI {s₀ : Shared} {B : Base} {L D : Addr} {m : Str → Option Value} {own : Own} {ns : List Int} {x : Int} {t : Tok} {Q : Value → Shared → Prop} (X : FS s₀ B L m ((D, IsI ns) :: own) s) (hsz : ns.length ≤ sizeLine)
    (h : ∀ s', FS s₀ B L m ((D, IsI (ns ++ [x])) :: own) s' → Q .none s') : wpAny (Md w) A (call (.builtin "list.append") [.ref D, .int x t]) Q E s := by
  obtain ⟨vs, hi, Y⟩ := X.openI
  exact append_FS Y (by rw [hi.length]; exact hsz) fun s' Y' => h s' (Y'.closeI (IntsAre.append' hi (.cons _ _ .nil)))

/-- o.append(e) as a statement -/
theorem mAppend {o e : Expr} {apos pos spos : Pos} {Q : Flow → Shared → Prop}
    (h : wpAny (Md w) A (eval o env) (fun ov s₁ => ∃ D vs, ov = .ref D ∧ At s₁.heap D (IsL vs) ∧ wpAny (Md w) A (eval e env) (fun y s₂ => wpAny (Md w) A (call (.builtin "list.append") [.ref D, y]) (fun v s' => v = .none ∧ Q .next s') E s₂) E s₁) E s)
    (hbase : attributeBase o "append" env (eval o env) = eval o env := by rfl)
    (hfew : ((backTo pos (starEach [e] env)).all (fun x => !x.1) && (backToKw pos (keywordEach [] env)).all (fun x => x.1.isSome)
      && decide (([e] : List Expr).length + ([] : List Keyword).length + (if ([] : List Keyword).isEmpty then 0 else 1) < 30)) = true := by rfl)
    (hline : (apos.endLine == pos.line) = true := by rfl) (htrees : backTo pos (starEach [e] env) = [(false, eval e env)] := by rfl)
    (hi : interactive env = false := by rfl) (hs : swapsWith (.Call (.Attribute o "append" apos) [e] [] pos) none spos.line env = pure false := by rfl) :
    wpAny (Md w) A (exec (.Expr (.Call (.Attribute o "append" apos) [e] [] pos) spos) env) Q E s := by
  refine wpAny_Expr (wpAny_Call_append hbase hfew hline htrees (wpAny_mono h (fun ov s₁ q => ?_) fun _ _ q => q)) hi hs
  obtain ⟨D, vs, rfl, ⟨o, ho, n, rfl⟩, q⟩ := q
  refine ⟨D, vs.toArray, rfl, ⟨_, n, ho, rfl, rfl, rfl⟩, wpAny_mono q (fun y s₂ q => wpAny_mono q (fun v s₃ q => ?_) fun _ _ q => q) fun _ _ q => q⟩
  obtain ⟨rfl, q⟩ := q
  exact q

theorem removeI {s₀ : Shared} {B : Base} {L D : Addr} {m : Str → Option Value} {own : Own} {ns : List Int} {x : Int} {t : Tok} {Q : Value → Shared → Prop} (X : FS s₀ B L m ((D, IsI ns) :: own) s) (hx : x ∈ ns) (hsz : ns.length ≤ sizeLine)
    (h : ∀ s', FS s₀ B L m ((D, IsI (ns.erase x)) :: own) s' → Q .none s') : wpAny (Md w) A (call (.builtin "list.remove") [.ref D, .int x t]) Q E s := by
  obtain ⟨vs, hi, Y⟩ := X.openI
  obtain ⟨n, hp⟩ := (Y.at' (P := IsL vs) (.head _)).plain
  have hj : ns.idxOf x < ns.length := List.idxOf_lt_length_iff.mpr hx
  have hj' : ns.idxOf x < vs.toArray.size := by simpa [hi.length] using hj
  have look : ∀ k (hk : k < vs.toArray.size), ∃ tk, vs.toArray[k] = .int (ns[k]'(by rw [← hi.length]; simpa using hk)) tk := fun k hk => by
    have hk' : k < ns.length := by rw [← hi.length]; simpa using hk
    obtain ⟨tk, e⟩ := hi.get k ns[k] (by simp [hk'])
    refine ⟨tk, ?_⟩
    have h2 : k < vs.length := by simpa using hk
    rw [List.getElem?_eq_getElem h2] at e
    simpa using e
  refine call_meets F.slot_list_remove (T := "list") (Y.at' (P := IsL vs) (.head _)).list.typeIs F.entry_list_remove (F.args_list_remove_2 _ _)
    (MeetsSeq.list_remove D vs.toArray n (.int x t) (isInt x) (fun y hy => ?_) (ns.idxOf x) hj' ?_ ?_ (by simpa [hi.length] using hsz)) ⟨hp, ?_⟩
  · exact eq_isInt' x t hi y (by simpa using hy)
  · obtain ⟨tk, e⟩ := look _ hj'
    rw [e, List.getElem_idxOf]
    simp [isInt]
  · intro k hk hlt
    obtain ⟨tk, e⟩ := look k hk
    have := List.not_of_lt_findIdx (p := fun a => a == x) (xs := ns) (i := k) hlt
    rw [e]
    simpa [isInt] using this
  · refine h _ ?_
    have hi2 : IntsAre (vs.eraseIdx (ns.idxOf x)) (ns.erase x) := by
      rw [List.erase_eq_eraseIdx_of_idxOf rfl]
      exact intsErase hi _
    refine FS.closeI (vs := vs.eraseIdx (ns.idxOf x)) (Y.upd (t := s.toks) (Heap.SameBut.update ..) ⟨_, Heap.get?_update_self _ hp rfl, ?_⟩) hi2
    have e : vs.toArray.eraseIdxIfInBounds (ns.idxOf x) = (vs.eraseIdx (ns.idxOf x)).toArray := by
      apply Array.ext'
      rw [Array.toList_eraseIdxIfInBounds]
    unfold IsL
    rw [← e]
    exact ⟨_, rfl⟩

theorem comp1_eval {elt iter : Expr} {x : Str} {px : Pos} {ifs : List Expr} {scope : Scope} {pos : Pos} {cl : List (Str × Addr)} {Q : Value → Shared → Prop}
    (h : wpAny (Md w) A (eval iter env) (fun xv s₁ => wpAny (Md w) A (pyIter xv) (fun it s₂ => wpAny (Md w) A (newList []) (fun acc s₃ => wpAny (Md w) A (newFunctionEnv scope env.globals cl [] env.qual none .none (some env)) (fun cenv s₄ =>
      codeAny (Md w) A (.compStart (.ListComp elt [⟨.Name x px, iter, ifs, 0⟩] scope pos) 0 it acc { cenv with scope := relabel scope env }) (compPost (Md w) A E none Q acc cenv.locals) s₄) E s₃) E s₂) E s₁) E s)
    (hclos : closureFor scope env = pure cl := by rfl) (hkind : scope.kind = .function := by rfl) (hnames : ∀ y ∈ scope.names, y.2 = .local → scope.names.lookup y.1 = some .local := by decide)
    (hs : ∀ z, foldedSetIterable iter env z = pure z := by intro _; rfl) : wpAny (Md w) A (eval (.ListComp elt [⟨.Name x px, iter, ifs, 0⟩] scope pos) env) Q E s := by
  rw [eval_ListComp]
  exact wpAny_comprehension_free (use := none) rfl hs hclos hkind hnames h

/-- z = [a comprehension]: the two stores exchanged -/
theorem comp_exec {e : Expr} {g : Comprehension} {gs : List Comprehension} {elt : Expr} {scope : Scope} {pos spos : Pos} {z : Str} {pz : Pos} {cl : List (Str × Addr)} {Q : Flow → Shared → Prop}
    (he : e = .ListComp elt (g :: gs) scope pos) (hg : g.is_async = 0)
    (h : wpAny (Md w) A (eval g.iter env) (fun xv s₁ => wpAny (Md w) A (pyIter xv) (fun it s₂ => wpAny (Md w) A (newList []) (fun acc s₃ => wpAny (Md w) A (newFunctionEnv scope env.globals cl [] env.qual none .none (some env)) (fun cenv s₄ =>
      codeAny (Md w) A (.compStart e 0 it acc { cenv with scope := relabel scope env }) (compPost (Md w) A E (some (assign (.Name z pz) env)) (fun _ s' => Q .next s') acc cenv.locals) s₄) E s₃) E s₂) E s₁) E s)
    (hsw : swapsWith e (some (.Name z pz)) spos.line env = pure true := by rfl)
    (hclos : closureFor scope env = pure cl := by rfl) (hkind : scope.kind = .function := by rfl) (hnames : ∀ y ∈ scope.names, y.2 = .local → scope.names.lookup y.1 = some .local := by decide)
    (hs : ∀ z, foldedSetIterable g.iter env z = pure z := by intro _; rfl) : wpAny (Md w) A (exec (.Assign [.Name z pz] e spos) env) Q E s := by
  rw [exec_Assign_Name_used _ _ _ _ hsw]
  subst he
  obtain ⟨tg, it, ifs, as⟩ := g
  dsimp only at hg
  subst hg
  refine wpAny_bind (wpAny_standAt (wpAny_bind ?_))
  show wpAny _ A (do let _ ← comprehension (.ListComp elt (⟨tg, it, ifs, 0⟩ :: gs) scope pos) scope env _ (newList []) false (eval it env) (some (assign (.Name z pz) env))) _ _ s
  exact wpAny_bind (wpAny_mono (wpAny_comprehension_free (use := some (assign (.Name z pz) env)) (Q := fun _ s' => Q .next s') rfl hs hclos hkind hnames h) (fun _ s' hq => wpAny_pure (wpAny_pure hq)) fun _ _ e => e)

/-- d.get(k, e) -/
theorem dget2 {o e f : Expr} {apos pos : Pos} {Q : Value → Shared → Prop}
    (h : wpAny (Md w) A (eval o env) (fun ov s₁ => ∃ d g, ov = .ref d ∧ (d == sysModules) = false ∧ s₁.heap.MapOf (intKind Challenge.rw_mq0099_01.row.prog w) d g ∧
      wpAny (Md w) A (eval e env) (fun key s₂ => wpAny (Md w) A (eval f env) (fun dflt s₃ => ∃ k t g, key = .int k t ∧ s₃.heap.MapOf (intKind Challenge.rw_mq0099_01.row.prog w) d g ∧ Q ((g k).getD dflt) { s₃ with toks := s₃.toks + 1 }) E s₂) E s₁) E s)
    (hbase : attributeBase o "get" env (eval o env) = eval o env := by rfl) (hline : (apos.endLine == pos.line) = true := by rfl) (htrees : backTo pos (starEach [e, f] env) = [(false, eval e env), (false, eval f env)] := by rfl) :
    wpAny (Md w) A (eval (.Call (.Attribute o "get" apos) [e, f] [] pos) env) Q E s := by
  refine wpAny_Call_method2_late hbase hline htrees (wpAny_mono h (fun ov s₁ q => ?_) fun _ _ q => q)
  obtain ⟨d, g, rfl, hsys, hm, q⟩ := q
  refine ⟨"dict", "dict.get", F.plainAttrs_dict, F.slot_dict_get, F.type_dict_get, hm.typeIs, hm.noDict, wpAny_dict_get2 (knd := intKind Challenge.rw_mq0099_01.row.prog w) hsys (wpAny_mono q (fun key s₂ q => wpAny_mono q (fun dflt s₃ q => ?_) fun _ _ q => q) fun _ _ q => q)⟩
  obtain ⟨k, t, g', rfl, hm', q⟩ := q
  exact ⟨k, g', intKind_is _ _ _ _, hm', q⟩

/-- o.remove(e) as a statement -/
theorem mRemove {o e : Expr} {apos pos spos : Pos} {Q : Flow → Shared → Prop}
    (h : wpAny (Md w) A (eval o env) (fun ov s₁ => ∃ D vs, ov = .ref D ∧ At s₁.heap D (IsL vs) ∧ wpAny (Md w) A (eval e env) (fun y s₂ => wpAny (Md w) A (call (.builtin "list.remove") [.ref D, y]) (fun v s' => v = .none ∧ Q .next s') E s₂) E s₁) E s)
    (hbase : attributeBase o "remove" env (eval o env) = eval o env := by rfl)
    (hline : (apos.endLine == pos.line) = true := by rfl) (htrees : backTo pos (starEach [e] env) = [(false, eval e env)] := by rfl)
    (hi : interactive env = false := by rfl) (hs : swapsWith (.Call (.Attribute o "remove" apos) [e] [] pos) none spos.line env = pure false := by rfl) :
    wpAny (Md w) A (exec (.Expr (.Call (.Attribute o "remove" apos) [e] [] pos) spos) env) Q E s := by
  refine wpAny_Expr (wpAny_Call_method1_late hbase hline htrees (wpAny_mono h (fun ov s₁ q => ?_) fun _ _ q => q)) hi hs
  obtain ⟨D, vs, rfl, hl, q⟩ := q
  refine ⟨"list", "list.remove", F.plainAttrs_list, F.slot_list_remove, F.type_list_remove, hl.list.typeIs, fun a e => ?_, ?_⟩
  · cases e
    obtain ⟨o, ho, n, rfl⟩ := hl
    exact ⟨_, ho, rfl⟩
  · refine Calls.callWith_builtin rfl (Calls.evalArgs_plain (Calls.spliced_cons (wpAny_mono q (fun y s₂ q => Calls.spliced_nil ?_) fun _ _ q => q)))
    refine wpAny_mono q (fun v s₃ q => ?_) fun _ _ q => q
    obtain ⟨rfl, q⟩ := q
    exact q

theorem item_at {value slice : Expr} {l : Addr} {vs : List Value} {k : Int} {t : Tok} {v : Value} {Q : Value → Shared → Prop} (hl : At s.heap l (IsL vs)) (h0 : 0 ≤ k) (hk : k < 2 ^ 63) (hx : vs[k.toNat]? = some v) (h : Q v s)
    (hs : subscripted slice false (.ref l) (.int k t) = operate [.ref l, .int k t] (getItem (.ref l) (.int k t)) := by rfl) :
    wpAny (Md w) A (subscriptTail value slice (.ref l) (.int k t)) Q E s := tail_any hl.list.typeIs slot_list_getitem.lookup (wpAny_getItem_list hl.list h0 hk (by simpa using hx) h) hs
end
end Mine

end
section
open PySem PySem.W PyProof.Rows
set_option Elab.async false
set_option maxRecDepth 100000
set_option autoImplicit false
set_option linter.unusedVariables false
set_option maxHeartbeats 4000000
namespace Mine

/-- the rows: a list of lists of ints -/
def RowsB (B : Base) (ra : Addr) (xss : List (List Int)) : Prop := ∃ as : List Addr, AtB B ra (IsL (as.map .ref)) ∧ Fa2 (fun a xs => LIB B a xs) as xss
theorem RowsB.sub {B B' : Base} {ra xss} (x : RowsB B ra xss) (k : ∀ b o, B b = some o → B' b = some o) : RowsB B' ra xss := by
  obtain ⟨as, h, f⟩ := x
  exact ⟨as, h.sub k, f.imp fun _ _ q => q.sub k⟩
theorem Fa2.length {α β : Type} {P : α → β → Prop} : ∀ {l r}, Fa2 P l r → l.length = r.length
  | _, _, .nil => rfl
  | _, _, .cons _ t => by simp [Fa2.length t]
theorem Fa2.at {α β : Type} {P : α → β → Prop} : ∀ {l r}, Fa2 P l r → ∀ (i : Nat) (a : α), l[i]? = some a → ∃ b, r[i]? = some b ∧ P a b
  | _, _, .nil, i, a, h => by simp at h
  | _, _, .cons p t, 0, a, h => by simp at h; subst h; exact ⟨_, by simp, p⟩
  | _, _, .cons p t, i + 1, a, h => by
    obtain ⟨b, h1, h2⟩ := Fa2.at t i a (by simpa using h)
    exact ⟨b, by simpa using h1, h2⟩

theorem Fa2.find? {B : Base} : ∀ {kvs : List (Int × Value)} {R : List (Int × List Int)} (x : Int), Fa2 (fun kv r => kv.1 = r.1 ∧ ∃ a, kv.2 = .ref a ∧ LIB B a r.2) kvs R →
    (∃ a, valueAt kvs x = some (.ref a) ∧ LIB B a (ruleOf R x)) ∨ (valueAt kvs x = none ∧ ruleOf R x = [])
  | _, _, x, .nil => .inr ⟨rfl, rfl⟩
  | (k, v) :: _, (k', ys) :: R, x, .cons ⟨e, a, e2, q⟩ t => by
    dsimp only at e e2 q
    subst e; subst e2
    unfold valueAt ruleOf
    rw [List.find?_cons, List.find?_cons]
    by_cases hx : k = x
    · subst hx
      simp only [decide_true]
      exact .inl ⟨a, rfl, q⟩
    · simp only [hx, decide_false]
      exact Fa2.find? x t

theorem FS.subl {s₀ s : Shared} {B : Base} {L : Addr} {m : Str → Option Value} {own own' : Own} (X : FS s₀ B L m own s) (h : own'.Sublist own) : FS s₀ B L m own' s :=
  X.sub (fun p hp => h.subset hp) (X.nd.sublist (h.map _))

theorem showAll_len (acc xs : List Int) : (showAll acc xs).length ≤ acc.length + xs.length := by
  induction xs generalizing acc with
  | nil => simp [showAll]
  | cons x xs ih =>
    have h := ih (showOne acc x)
    have h1 : (showOne acc x).length ≤ acc.length + 1 := by
      unfold showOne; split
      · omega
      · simp
    simp only [showAll, List.foldl_cons, List.length_cons] at h ⊢
    omega
theorem showAll_append (acc xs ys : List Int) : showAll acc (xs ++ ys) = showAll (showAll acc xs) ys := by simp [showAll, List.foldl_append]

section
variable {w : World} {A : Around} {E : Value → Shared → Prop} {s : Shared} {env : Env}

theorem order_call {ra d : Addr} {xss : List (List Int)} {R : List (Int × List Int)} {Q : Value → Shared → Prop} (r : Rm A 1 60) (g : GdH w s.heap) (hrows : RowsB s.heap.get? ra xss) (hR : RulesB w s.heap.get? d R) (hlen : xss.flatten.length ≤ 1000)
    (hnone : orderOf R (showAll [] xss.flatten).length (showAll [] xss.flatten) = none → ∀ s', Same s s' → Ext s.heap s'.heap → Q .none s')
    (hsome : ∀ os, orderOf R (showAll [] xss.flatten).length (showAll [] xss.flatten) = some os → ∀ s' a, Same s s' → Ext s.heap s'.heap → s.heap.get? a = none → LIB s'.heap.get? a os → Q (.ref a) s') :
    wpAny (Md w) A (call (.ref 57) [.ref ra, .ref d]) Q E s := by
  refine enterN 57 [("rows", .ref ra), ("rules", .ref d)] (by have := r.dp; omega) g rfl rfl rfl (BindsTo.of_eq rfl) rfl rfl (of_decide_eq_true rfl) fun L s' X => ?_
  have r' := r.deeper (callEnvC (fnAt w 57) L 57)
  generalize A.deeper (callEnvC (fnAt w 57) L 57) = A' at r' ⊢
  replace X : FS s s.heap.get? L _ [(L + 2, IsC none), (L + 1, IsC (some (.ref d)))] s' := X
  have G := GdB.of g
  have h8 : sizeLine = 16777216 := by decide
  obtain ⟨as, hra, hfa⟩ := hrows
  refine wpAny_execs_cons (wpAny_Assign_Name (List_ (spliced_none (newL X (Nat.le_of_ble_eq_true rfl) (fun sh s₁ X₁ _ _ => ?_) (X.gd G)))))
  refine stC (X₁.perm (List.Perm.swap _ _ _)) fun s₂ X₂ => ?_
  replace X₂ := (X₂.perm (List.Perm.swap _ _ _)).closeI .nil
  refine wpAny_execs_cons (wpAny_For (nmL X₂ rfl (it_list r'.hh X₂ hra fun I s₃ St X₃ _ _ _ S hst => ?_)))
  refine for_src S X₃ hst (fun i m own => own = [(sh, IsI (showAll [] (xss.take i).flatten)), (L + 2, IsC (some (.ref sh))), (L + 1, IsC (some (.ref d)))]) (fun _ _ => False) (fun _ _ _ => False) rfl ?_ ?_ (fun _ _ _ q => q.elim) (fun _ _ _ _ q => q.elim)
  · rintro i v B' m₁ own₁ s₄ hsub hi hP rfl Z
    obtain ⟨a, hva, rfl⟩ : ∃ a, as[i]? = some a ∧ v = .ref a := by
      rw [List.getElem?_map] at hP
      cases hq : as[i]? with
      | none => rw [hq] at hP; cases hP
      | some a => rw [hq] at hP; cases hP; exact ⟨a, rfl, rfl⟩
    obtain ⟨xs, hxs, vs, hvs, hvi⟩ := hfa.at i a hva
    refine stL Z fun s₅ Z₅ => wpAny_execs_cons (wpAny_For (nmL Z₅ rfl (it_list r'.hh Z₅ (hvs.sub hsub) fun I2 s₆ St2 Z₆ _ _ _ S2 hst2 => ?_)))
    have hfl : (xss.take (i + 1)).flatten = (xss.take i).flatten ++ xs := by rw [List.take_add_one, hxs]; simp
    have hle : (xss.take i).flatten.length + xs.length ≤ 1000 := by
      have h1 : (xss.take (i + 1)).flatten.length ≤ xss.flatten.length := by
        conv => rhs; rw [← List.take_append_drop (i + 1) xss, List.flatten_append, List.length_append]
        omega
      rw [hfl, List.length_append] at h1
      omega
    refine for_src S2 Z₆ hst2 (fun j m own => own = [(sh, IsI (showAll (showAll [] (xss.take i).flatten) (xs.take j))), (L + 2, IsC (some (.ref sh))), (L + 1, IsC (some (.ref d)))]) (fun _ _ => False) (fun _ _ _ => False) rfl ?_ ?_ (fun _ _ _ q => q.elim) (fun _ _ _ _ q => q.elim)
    · rintro j v B'' m₂ own₂ s₇ hsub2 hj hP2 rfl Y
      obtain ⟨x, tx, rfl, hx⟩ := hvi.at j v hP2
      refine stL Y fun s₈ Y₈ => ?_
      obtain ⟨ws, hwi, Y₉⟩ := Y₈.openI
      refine wpAny_execs_cons (wpAny_If (wpAny_isTrue_Compare1 (nmL Y₈ rfl (nmC (Y₈.at' (.tail _ (.head _))) (notin_list_ints (Y₉.at' (.head _)).list hwi (wpAny_truthy_bool ?_))))))
      have hstep : showAll (showAll [] (xss.take i).flatten) (xs.take (j + 1)) = showOne (showAll (showAll [] (xss.take i).flatten) (xs.take j)) x := by
        rw [List.take_add_one, hx, showAll_append]; rfl
      by_cases hin : (showAll (showAll [] (xss.take i).flatten) (xs.take j)).any (· == x) = true
      · rw [hin]
        simp only [Bool.not_true, Bool.false_eq_true, if_false]
        refine wpAny_execs_nil (wpAny_execs_nil ⟨_, _, Y₈, ?_⟩)
        rw [hstep]; unfold showOne; rw [if_pos hin]
      · rw [Bool.not_eq_true] at hin
        rw [hin]
        simp only [Bool.not_false, if_true]
        refine wpAny_execs_cons (mAppend (nmC (Y₈.at' (.tail _ (.head _))) ⟨sh, ws, rfl, Y₉.at' (.head _), nmL Y₈ rfl (appendI Y₈ ?_ fun s₉ W => ⟨rfl, wpAny_execs_nil (wpAny_execs_nil ⟨_, _, W, ?_⟩)⟩)⟩))
        · have h1 := showAll_len (showAll [] (xss.take i).flatten) (xs.take j)
          have h2 := showAll_len [] (xss.take i).flatten
          have h3 := List.length_take_le' j xs
          simp only [List.length_nil] at h2
          omega
        · rw [hstep]; unfold showOne; rw [hin]; rfl
    · rintro m₂ own₂ s₇ rfl Y
      refine wpAny_execs_nil (wpAny_execs_nil ⟨_, _, Y, ?_⟩)
      rw [hvi.length, List.take_length, hfl, showAll_append]
  · rintro m₁ own₁ s₄ rfl Z
    have hsh : showAll [] (xss.take ((as.map Value.ref).length)).flatten = showAll [] xss.flatten := by
      rw [List.length_map, hfa.length, List.take_length]
    rw [hsh] at Z
    have hshl := showAll_len [] xss.flatten
    simp only [List.length_nil, Nat.zero_add] at hshl
    refine wpAny_execs_nil (wpAny_execs_cons (wpAny_Assign_Name (List_ (spliced_none (newL Z (Nat.le_of_ble_eq_true rfl) (fun od s₅ Z₅ _ _ => stL Z₅ fun s₆ Z₆ => wpAny_execs_cons (wpAny_While ?_)) (Z.gd G))))))
    replace Z₆ := (Z₆.closeI .nil).perm (List.Perm.swap _ _ _)
    refine codeAny_whileLoop (fun k s' => ∃ ns os m, k = ns.length ∧ FS s s.heap.get? L m [(sh, IsI ns), (od, IsI os), (L + 2, IsC (some (.ref sh))), (L + 1, IsC (some (.ref d)))] s' ∧ m "order" = some (.ref od) ∧
      (orderOf R ns.length ns).map (os ++ ·) = orderOf R (showAll [] xss.flatten).length (showAll [] xss.flatten) ∧ os.length + ns.length ≤ 1000) ?_ _ ⟨_, [], _, rfl, Z₆, rfl, by simp, by simpa using (show _ ≤ 1000 by omega)⟩
    rintro k s₇ ⟨ns, os, m₂, rfl, Y, hmo, heq, hl⟩
    refine wpAny_noRaise (wpAny_isTrue_Compare1 (nmC (Y.at' (.tail _ (.tail _ (.head _)))) (List_ (spliced_none (newL Y (Nat.le_of_ble_eq_true rfl) (fun e s₈ Y₈ _ _ => neI (r'.le (by omega) (by omega)) (Y₈.at' (.tail _ (.head _))) ((Y₈.closeI .nil).at' (.head _)) (wpAny_truthy_bool ?_)) (Y.gd G))))))
    replace Y₈ := Y₈.tail rfl
    cases ns with
    | nil =>
      simp only [decide_true, Bool.not_true, Bool.false_eq_true, if_false]
      refine wpAny_noRaise (wpAny_execs_nil (wpAny_execs_cons (wpAny_Return_some (nmL Y₈ hmo ?_))))
      refine hsome os ?_ s₈ od Y₈.same Y₈.keep (Y₈.fresh (.tail _ (.head _))) (LIB.of (Y₈.at' (.tail _ (.head _))))
      rw [← heq]; simp [orderOf]
    | cons n₀ ns₀ =>
      generalize hns : n₀ :: ns₀ = ns at *
      have hne : ns ≠ [] := by rw [← hns]; simp
      simp only [hne, decide_false, Bool.not_false, if_true]
      refine wpAny_noRaise ?_
      obtain ⟨osh, ⟨vs, hv, hvi⟩, hshn, hsho, Yf⟩ := Y₈.freeze
      have hvA : AtB (FS.addB s.heap.get? sh osh) sh (IsL vs) := ⟨osh, by unfold FS.addB; rw [if_pos rfl], hv⟩
      have Gf : GdB w (FS.addB s.heap.get? sh osh) := G.sub (FS.addB_sub hshn)
      have hRf : RulesB w (FS.addB s.heap.get? sh osh) d R := hR.sub (FS.addB_sub hshn)
      refine wpAny_execs_cons (comp_exec rfl rfl (nmC (Yf.at' (.tail _ (.head _))) (it_list r'.hh Yf hvA fun I s₉ St Y₉ _ _ _ S hst => ?_)))
      have hvl : vs.length ≤ 1000 := by rw [hvi.length]; omega
      refine comp1s S Y₉ hst (fun C i ys own => i ≤ vs.length ∧ IntsAre ys ((ns.take i).filter fun x => decide (preds R ns x = [])) ∧ ∃ v, own = [(C + 1, IsC v)]) (fun C => ⟨Nat.zero_le _, .nil, none, rfl⟩) ?_ (by omega) ?_ ?_
      · rintro C i ys own ⟨h1, h2, _⟩
        rw [h2.length]
        refine Nat.le_trans (List.length_filter_le _ _) (List.length_take_le _ _)
      · rintro C i v ys B' m' own' s' hown hsub' hi hP ⟨_, hJ, v₀, rfl⟩ Z
        obtain ⟨x, tx, rfl, hx⟩ := hvi.at i v hP
        refine stC Z fun s₁₀ Z₁ => ?_
        refine wpAny_tests_one (wpAny_isTrue_Compare1 (comp1_eval (nmC ((hown _ (.tail _ (.head _))).at Z₁.keep) (it_list r'.hh Z₁ (hvA.sub hsub') fun I2 s₁₁ St2 Z₂ _ _ _ S2 hst2 => ?_))))
        refine comp1 S2 Z₂ hst2 (fun C2 j zs own2 => j ≤ vs.length ∧ IntsAre zs ((ns.take j).filter fun y => (ruleOf R y).any (· == x))) (fun C2 => ⟨Nat.zero_le _, .nil⟩) ?_ (by omega) ?_ ?_
        · rintro C2 j zs own2 ⟨h1, h2⟩
          rw [h2.length]
          exact Nat.le_trans (List.length_filter_le _ _) (List.length_take_le _ _)
        · rintro C2 j v zs B'' m'' own'' s'' hown2 hsub2 hj hP2 ⟨_, hJ2⟩ W
          obtain ⟨y, ty, rfl, hy⟩ := hvi.at j v hP2
          refine stL W fun s₁₂ W₁ => ?_
          have sub3 : ∀ b o, FS.addB s.heap.get? sh osh b = some o → s₁₂.heap.get? b = some o := fun b o e => W₁.keep b o (hsub2 b o (hsub' b o e))
          obtain ⟨kvs, hkv, hsys, hfa2⟩ := hRf
          have hmap := (hkv.at sub3).dict.mapOf
          refine wpAny_tests_one (wpAny_isTrue_Compare1 (nmC ((hown2 _ (.head _)).at W₁.keep) (dget2 (nmC (((hown _ (.tail _ (.tail _ (.head _)))).sub hsub2).at W₁.keep) ⟨d, _, rfl, hsys, hmap, nmL W₁ rfl (List_ (spliced_none (newL W₁ (Nat.le_of_ble_eq_true rfl) (fun e s₁₃ W₂ _ _ => ?_) (Gf _ sub3))))⟩))))
          have sub4 : ∀ b o, FS.addB s.heap.get? sh osh b = some o → s₁₃.heap.get? b = some o := fun b o e => W₂.keep b o (hsub2 b o (hsub' b o e))
          refine ⟨y, ty, _, rfl, (hkv.at sub4).dict.mapOf, ?_⟩
          have hfilt : (ns.take (j + 1)).filter (fun y => (ruleOf R y).any (· == x)) = (ns.take j).filter (fun y => (ruleOf R y).any (· == x)) ++ (if (ruleOf R y).any (· == x) then [y] else []) := by
            rw [List.take_add_one, hy, List.filter_append]
            simp only [Option.toList_some, List.filter_cons, List.filter_nil]
          have rest : ∀ (l : Addr), At s₁₃.heap l (IsI (ruleOf R y)) → wpAny (Md w) A' (compareOp .In (.int x tx) (.ref l)) (fun c s₃ => wpAny (Md w) A' (truthy c) (fun ok s' => if ok = true then
                wpAny (Md w) A' (eval (.Name "y" ⟨77, 37, 77, 38⟩) _) (fun y s'' => ∃ m' own', FS s₁₁ B'' C2 m' own' s'' ∧ j + 1 ≤ vs.length ∧ IntsAre (zs ++ [y]) ((ns.take (j + 1)).filter fun y => (ruleOf R y).any (· == x))) False2 s'
              else ∃ m' own', FS s₁₁ B'' C2 m' own' s' ∧ j + 1 ≤ vs.length ∧ IntsAre zs ((ns.take (j + 1)).filter fun y => (ruleOf R y).any (· == x))) False2 s₃) False2 { s₁₃ with toks := s₁₃.toks + 1 } := fun l hl => by
            obtain ⟨ls, hli, hll⟩ := atI hl
            refine in_list_ints hll.list hli (wpAny_truthy_bool ?_)
            by_cases hany : (ruleOf R y).any (· == x) = true
            · rw [if_pos hany]
              refine nmL (W₂.tok _) rfl ⟨_, _, W₂.tok _, hj, ?_⟩
              rw [hfilt, if_pos hany]
              exact IntsAre.append' hJ2 (.cons _ _ .nil)
            · rw [if_neg hany]
              refine ⟨_, _, W₂.tok _, hj, ?_⟩
              rw [hfilt, if_neg hany, List.append_nil]; exact hJ2
          rcases Fa2.find? y hfa2 with ⟨la, hla, hlb⟩ | ⟨hla, hlb⟩
          · rw [hla]
            exact rest la (hlb.at.at sub4)
          · rw [hla]
            refine rest e ?_
            rw [hlb]
            exact (W₂.closeI .nil).at' (.head _)
        · rintro C2 D2 zs new2 s₁₂ ⟨_, hJ2⟩ W
          rw [hvi.length, List.take_length] at hJ2
          refine List_ (spliced_none (newL W (Nat.le_of_ble_eq_true rfl) (fun e s₁₃ W₂ _ _ => ?_) (W.gd (Gf.sub hsub'))))
          refine eqI (r'.le (by omega) (by omega)) (xs := preds R ns x) (ys := []) ⟨_, (W₂.at' (.tail _ (.head _))).choose_spec.1, zs, (W₂.at' (a := D2) (P := IsL zs) (.tail _ (.head _))).choose_spec.2, hJ2⟩ ((W₂.closeI .nil).at' (.head _)) (wpAny_truthy_bool ?_)
          have W₃ : FS s₉ B' C _ [(C + 1, IsC (some (.int x tx)))] s₁₃ := W₂.subl (by
            refine List.Sublist.cons _ (List.Sublist.cons _ ?_)
            exact List.sublist_append_right _ _)
          have hfilt : (ns.take (i + 1)).filter (fun x => decide (preds R ns x = [])) = (ns.take i).filter (fun x => decide (preds R ns x = [])) ++ (if preds R ns x = [] then [x] else []) := by
            rw [List.take_add_one, hx, List.filter_append]
            simp only [Option.toList_some, List.filter_cons, List.filter_nil, decide_eq_true_eq]
          by_cases hp : preds R ns x = []
          · simp only [hp, decide_true, if_true]
            refine nmC (W₃.at' (.head _)) ⟨_, _, W₃, hi, ?_, _, rfl⟩
            rw [hfilt, if_pos hp]
            exact IntsAre.append' hJ (.cons _ _ .nil)
          · simp only [hp, decide_false, Bool.false_eq_true, if_false]
            refine ⟨_, _, W₃, hi, ?_, _, rfl⟩
            rw [hfilt, if_neg hp, List.append_nil]; exact hJ
      · rintro C D ys new s' ⟨_, hJ, _⟩ W
        rw [hvi.length, List.take_length] at hJ
        have hJf : IntsAre ys (freeOf R ns) := hJ
        have W₁ := W.subl (own' := [(D, IsL ys), (od, IsI os), (L + 2, IsC (some (.ref sh))), (L + 1, IsC (some (.ref d)))]) (List.Sublist.cons_cons _ (List.sublist_append_right _ _))
        refine wpAny_execs_cons (wpAny_If (wpAny_isTrue_Compare1 (nmL W₁ rfl (List_ (spliced_none (newL W₁ (Nat.le_of_ble_eq_true rfl) (fun e s₁₀ W₂ _ _ => ?_) (W₁.gd Gf)))))))
        have hDI : At s₁₀.heap D (IsI (freeOf R ns)) := by
          obtain ⟨o, ho, hP⟩ := W₂.at' (a := D) (P := IsL ys) (.tail _ (.head _))
          exact ⟨o, ho, ys, hP, hJf⟩
        refine eqI (r'.le (by omega) (by omega)) hDI ((W₂.closeI .nil).at' (.head _)) (wpAny_truthy_bool ?_)
        replace W₂ := W₂.tail rfl
        cases hfr : freeOf R ns with
        | nil =>
          simp only [decide_true, if_true]
          refine wpAny_execs_cons (wpAny_Return_some (wpAny_Constant_none ?_))
          refine hnone ?_ s₁₀ W₂.same fun b o e => W₂.keep b o (FS.addB_sub hshn b o e)
          rw [← heq, ← hns]
          rw [← hns] at hfr
          simp only [List.length_cons, orderOf, hfr, Option.map_none]
        | cons x xs =>
          simp only [List.cons_ne_nil, decide_false, Bool.false_eq_true, if_false]
          rw [hfr] at hJf
          cases hJf with
          | cons _ tx hJ2 =>
            rename_i ys2
            have hxin : x ∈ ns := (List.mem_filter.mp (show x ∈ freeOf R ns by rw [hfr]; exact .head _)).1
            have W₃ := W₂.perm (List.Perm.swap _ _ _)
            obtain ⟨osv, hosi, W₄⟩ := W₃.openI
            refine wpAny_execs_nil (wpAny_execs_cons (mAppend (nmL W₂ hmo ⟨od, osv, rfl, W₄.at' (.head _), Subscript_ (nmL W₂ rfl (wpAny_Constant_int (item_at ((W₂.tok _).at' (.head _)) (by decide) (by decide) rfl (appendI (W₃.tok _) (by omega) fun s₁₁ W₅ => ⟨rfl, ?_⟩))))⟩)))
            have W₆ := W₅.thaw (P := IsI ns) ⟨vs, hv, hvi⟩ hshn
            obtain ⟨shv, hshi, W₇⟩ := W₆.openI
            refine wpAny_execs_cons (mRemove (nmC (W₆.at' (.tail _ (.tail _ (.tail _ (.head _))))) ⟨sh, shv, rfl, W₇.at' (.head _), Subscript_ (nmL W₆ rfl (wpAny_Constant_int (item_at ((W₆.tok _).at' (.tail _ (.tail _ (.head _)))) (by decide) (by decide) rfl (removeI (W₆.tok _) hxin (by omega) fun s₁₂ W₈ => ⟨rfl, ?_⟩))))⟩))
            have hle := List.length_erase_of_mem hxin
            have hpos : 0 < ns.length := List.length_pos_of_mem hxin
            refine wpAny_execs_nil ⟨(ns.erase x).length, by omega, ns.erase x, os ++ [x], _, rfl, W₈.subl (List.Sublist.cons_cons _ (List.Sublist.cons_cons _ (List.Sublist.cons _ (List.Sublist.refl _)))), hmo, ?_, ?_⟩
            · rw [← heq]
              have e : ns.length = (ns.erase x).length + 1 := by omega
              rw [e]
              have e2 : orderOf R ((ns.erase x).length + 1) ns = (orderOf R (ns.erase x).length (ns.erase x)).map (x :: ·) := by
                rw [← hns] at hfr ⊢
                conv => lhs; unfold orderOf
                simp only [hfr]
              rw [e2, Option.map_map]
              congr 1
              funext l
              simp
            · simp only [List.length_append, List.length_cons, List.length_nil]
              omega
end
end Mine

end
section
set_option autoImplicit false
namespace Mine

theorem sorted_unique : ∀ (l l' : List Int), l.Perm l' → l.Pairwise (· ≤ ·) → l'.Pairwise (· ≤ ·) → l = l'
  | [], l', p, _, _ => by rw [List.nil_perm.mp p]
  | a :: l, [], p, _, _ => absurd p.length_eq (by simp)
  | a :: l, b :: l', p, h, h' => by
    have hab : a = b := by
      have h1 : a ∈ b :: l' := p.mem_iff.mp (.head _)
      have h2 : b ∈ a :: l := p.mem_iff.mpr (.head _)
      have hb : ∀ x ∈ l', b ≤ x := (List.pairwise_cons.mp h').1
      have ha : ∀ x ∈ l, a ≤ x := (List.pairwise_cons.mp h).1
      rcases List.mem_cons.mp h1 with e | h1
      · exact e
      · rcases List.mem_cons.mp h2 with e | h2
        · exact e.symm
        · have := hb a h1; have := ha b h2; omega
    subst hab
    rw [sorted_unique l l' ((List.perm_cons a).mp p) (List.pairwise_cons.mp h).2 (List.pairwise_cons.mp h').2]

def srt (l : List Int) : List Int := l.mergeSort (fun a b => decide (a ≤ b))
theorem srt_perm (l : List Int) : (srt l).Perm l := List.mergeSort_perm l _
theorem srt_sorted (l : List Int) : (srt l).Pairwise (· ≤ ·) := by
  have h := List.pairwise_mergeSort (le := fun a b : Int => decide (a ≤ b)) (fun a b c h1 h2 => by simp at *; omega) (fun a b => by simp; omega) l
  exact h.imp fun h => by simpa using h
theorem srt_eq {l ns : List Int} (p : ns.Perm l) (h : ns.Pairwise (· ≤ ·)) : ns = srt l :=
  sorted_unique _ _ (p.trans (srt_perm l).symm) h (srt_sorted l)
end Mine

end
section
open PySem PySem.W PyProof.Rows
set_option Elab.async false
set_option maxRecDepth 100000
set_option autoImplicit false
set_option linter.unusedVariables false
set_option maxHeartbeats 4000000
namespace Mine
section
variable {w : World} {A : Around} {E : Value → Shared → Prop} {s : Shared} {env : Env}

theorem intsOf : ∀ (vs : List Value) (ks : List Int), vs.length = ks.length → (∀ (j : Nat) (v : Value), vs[j]? = some v → ∃ k t, ks[j]? = some k ∧ v = Value.int k t) → IntsAre vs ks
  | [], [], _, _ => .nil
  | [], _ :: _, h, _ => by simp at h
  | _ :: _, [], h, _ => by simp at h
  | v :: vs, k :: ks, h, H => by
    obtain ⟨k', t, h1, rfl⟩ := H 0 v rfl
    simp at h1; subst h1
    exact .cons _ _ (intsOf vs ks (by simpa using h) fun j u hj => by
      obtain ⟨k'', t', h2, h3⟩ := H (j + 1) u (by simpa using hj)
      exact ⟨k'', t', by simpa using h2, h3⟩)

theorem sorted_dict {d : Addr} {kvs : List (Int × Value)} {Q : Value → Shared → Prop} (hh : A.handled = none) (hd : At s.heap d (IsD w kvs)) (hsys : (d == sysModules) = false) (h64 : kvs.length < 64)
    (h : ∀ s' a vs, Same s s' → Ext s.heap s'.heap → s.heap.get? a = none → At s'.heap a (IsL vs) → IntsAre vs (srt (kvs.map (·.1))) → Q (.ref a) s') :
    wpAny (Md w) A (call (.builtin "sorted") [.ref d]) Q E s := by
  obtain ⟨ep, hat⟩ := hd.dict.dictAt
  have h8 : sizeLine = 16777216 := by decide
  refine Calls.call_function_entry kind_sorted plain_sorted entry_sorted (args_sorted1 _) ?_
  unfold Builtin.«sorted»
  refine wpAny_bind (m := checkCount "sorted" 1 1 _) (wpAny_pure ?_)
  refine wpAny_bind (kdu_collect (A := A.in1) (kdl_dict (knd := intKind Challenge.rw_mq0099_01.row.prog w) (kvs := kvs) (ep := ep) hsys) hh hat (by omega) fun h' tk acc hk hacc => ?_)
  have hl : acc.toList.length = kvs.length := by rw [Array.length_toList]; exact hacc.1
  have hI : IntsAre acc.toList (kvs.map (·.1)) := intsOf _ _ (by simpa using hl) fun j v hj => by
    obtain ⟨k, x, h1, h2⟩ := hacc.2 j v (by rw [← Array.getElem?_toList]; exact hj)
    obtain ⟨t, rfl⟩ := Value.isInt_shape h2
    exact ⟨k, t, by rw [List.getElem?_map, h1]; rfl, rfl⟩
  refine wpAny_bind (wpAny_newList ?_ (by omega))
  have hoL : (h'.push { cls := .type "list", data := .seq acc.toList.toArray }).get? h'.objs.size = some (seqObj "list" acc.toList.toArray 0) := Heap.get?_push_size _ rfl
  refine wpAny_bind (wpAny_holding (wpAny_call_entry slot_list_sort ⟨_, hoL, rfl⟩ entry_list_sort (list_sort_tree hoL hI (by omega) fun out ns' a1 a2 a3 => ⟨_, rfl, ?_⟩) (args_list_sort _)))
  refine wpAny_pure ⟨_, rfl, ?_⟩
  obtain ⟨e, he⟩ := sortedHeap_at (out := out) hoL
  have hn : s.heap.get? h'.objs.size = none := by
    cases e : s.heap.get? h'.objs.size with
    | none => rfl
    | some o => exact absurd (Heap.lt_size (hk _ _ e)) (Nat.lt_irrefl _)
  refine h _ h'.objs.size out.toList ⟨_, _, rfl⟩ (fun b o q => ?_) hn ⟨_, he, e, by simp [seqObj]⟩ ?_
  · have hb := Heap.lt_size (hk _ _ q)
    show (sortedHeap _ _ _ _).get? b = some o
    rw [sortedHeap_old (Nat.ne_of_lt hb) (by rw [Heap.size_push]; exact Nat.lt_succ_of_lt hb)]
    exact Heap.get?_push_of_some _ (hk _ _ q)
  · rw [← srt_eq a2 a3]; exact a1
end
end Mine

end
section
set_option autoImplicit false
namespace Mine

/-- the symbol is laid behind the first row that ends with k -/
def addSym : List (List Int) → Int → Int → List (List Int)
  | [], k, s => [[k, s]]
  | r :: rs, k, s => if r.getLast? = some k then (r ++ [s]) :: rs else r :: addSym rs k s
def addAll (xss : List (List Int)) (ps : List (Int × Int)) : List (List Int) := ps.foldl (fun xss p => addSym xss p.1 p.2) xss
def pairsOf (R : List (Int × List Int)) : List (Int × Int) := R.flatMap fun kv => kv.2.map fun s => (kv.1, s)
def alone (ks : List Int) : List (List Int) := ks.map fun k => [k]
def rowsOf (R : List (Int × List Int)) : List (List Int) := addAll (alone (srt (keysOf R))) (pairsOf R)

theorem addAll_append (xss : List (List Int)) (ps qs : List (Int × Int)) : addAll xss (ps ++ qs) = addAll (addAll xss ps) qs := List.foldl_append ..
theorem pairsOf_append (R S : List (Int × List Int)) : pairsOf (R ++ S) = pairsOf R ++ pairsOf S := List.flatMap_append ..

theorem addSym_len (k s : Int) : ∀ xss, (addSym xss k s).length ≤ xss.length + 1
  | [] => by simp [addSym]
  | r :: rs => by
    unfold addSym; split
    · simp
    · have := addSym_len k s rs; simp only [List.length_cons]; omega
theorem addSym_row (k s : Int) (n : Nat) : ∀ xss, (∀ r ∈ xss, r ≠ [] ∧ r.length ≤ n + 1) → ∀ r ∈ addSym xss k s, r ≠ [] ∧ r.length ≤ n + 2
  | [], _, r, hr => by
    simp only [addSym, List.mem_singleton] at hr
    subst hr; simp
  | r₀ :: rs, H, r, hr => by
    unfold addSym at hr
    split at hr
    · rcases List.mem_cons.mp hr with rfl | hr
      · have := H r₀ (.head _); simp; omega
      · have := H r (.tail _ hr); exact ⟨this.1, by omega⟩
    · rcases List.mem_cons.mp hr with rfl | hr
      · have := H r (.head _); exact ⟨this.1, by omega⟩
      · exact addSym_row k s n rs (fun r h => H r (.tail _ h)) r hr
theorem addAll_len : ∀ (ps : List (Int × Int)) (xss : List (List Int)), (addAll xss ps).length ≤ xss.length + ps.length
  | [], xss => by simp [addAll]
  | p :: ps, xss => by
    have h1 := addAll_len ps (addSym xss p.1 p.2)
    have h2 := addSym_len p.1 p.2 xss
    show (addAll (addSym xss p.1 p.2) ps).length ≤ _
    simp only [List.length_cons]; omega
theorem addAll_row : ∀ (ps : List (Int × Int)) (xss : List (List Int)) (n : Nat), (∀ r ∈ xss, r ≠ [] ∧ r.length ≤ n + 1) → ∀ r ∈ addAll xss ps, r ≠ [] ∧ r.length ≤ n + ps.length + 1
  | [], xss, n, H, r, hr => H r hr
  | p :: ps, xss, n, H, r, hr => by
    have h1 := addAll_row ps (addSym xss p.1 p.2) (n + 1) (addSym_row p.1 p.2 n xss H) r hr
    simp only [List.length_cons]; exact ⟨h1.1, by omega⟩
theorem alone_row (ks : List Int) : ∀ r ∈ alone ks, r ≠ [] ∧ r.length ≤ 0 + 1 := fun r hr => by
  obtain ⟨k, _, rfl⟩ := List.mem_map.mp hr
  simp
theorem pairsOf_len : ∀ (R : List (Int × List Int)), (∀ kv ∈ R, kv.2.length ≤ 3) → (pairsOf R).length ≤ 3 * R.length
  | [], _ => by simp [pairsOf]
  | kv :: R, H => by
    have h1 := pairsOf_len R fun kv h => H kv (.tail _ h)
    have h2 := H kv (.head _)
    have e : pairsOf (kv :: R) = (kv.2.map fun s => (kv.1, s)) ++ pairsOf R := rfl
    rw [e, List.length_append, List.length_map, List.length_cons]; omega

theorem ruleOf_eq : ∀ {R : List (Int × List Int)} {k : Int} {ys : List Int}, (keysOf R).Nodup → (k, ys) ∈ R → ruleOf R k = ys
  | [], _, _, _, h => by cases h
  | (k', ys') :: R, k, ys, hn, h => by
    have hn' := List.nodup_cons.mp (show (k' :: keysOf R).Nodup from hn)
    unfold ruleOf
    rw [List.find?_cons]
    rcases List.mem_cons.mp h with e | h
    · cases e; simp
    · have hne : k' ≠ k := fun e => hn'.1 (by rw [e]; exact List.mem_map.mpr ⟨_, h, rfl⟩)
      simp only [hne, decide_false]
      exact ruleOf_eq hn'.2 h

/-- the rows with their places -/
theorem addSym_none {α : Type} (k s : Int) : ∀ (z : List (α × List Int)), (z.filter fun p => decide (p.2.getLast? = some k)) = [] → addSym (z.map (·.2)) k s = z.map (·.2) ++ [[k, s]]
  | [], _ => rfl
  | p :: z, h => by
    have hp : ¬ p.2.getLast? = some k := fun e => by rw [List.filter_cons, if_pos (by simpa using e)] at h; cases h
    rw [List.filter_cons, if_neg (by simpa using hp)] at h
    rw [List.map_cons, List.cons_append, addSym, if_neg hp, addSym_none k s z h]
theorem addSym_some {α : Type} (k s : Int) : ∀ (z : List (α × List Int)) (p : α × List Int) (ps), (z.filter fun p => decide (p.2.getLast? = some k)) = p :: ps →
    ∃ z1 z2, z = z1 ++ p :: z2 ∧ addSym (z.map (·.2)) k s = z1.map (·.2) ++ (p.2 ++ [s]) :: z2.map (·.2)
  | [], p, ps, h => by cases h
  | q :: z, p, ps, h => by
    by_cases hq : q.2.getLast? = some k
    · rw [List.filter_cons, if_pos (by simpa using hq)] at h
      cases h
      exact ⟨[], z, rfl, by rw [List.map_cons, addSym, if_pos hq]; rfl⟩
    · rw [List.filter_cons, if_neg (by simpa using hq)] at h
      obtain ⟨z1, z2, e1, e2⟩ := addSym_some k s z p ps h
      exact ⟨q :: z1, z2, by rw [e1]; rfl, by rw [List.map_cons, addSym, if_neg hq, e2]; rfl⟩
end Mine

end
section
open PySem PySem.W PyProof.Rows
set_option Elab.async false
set_option maxRecDepth 100000
set_option autoImplicit false
set_option linter.unusedVariables false
set_option maxHeartbeats 4000000
namespace Mine

def zOwn (z : List (Addr × List Int)) : Own := z.map fun p => (p.1, IsI p.2)
def zRef (z : List (Addr × List Int)) : List Value := z.map fun p => .ref p.1
theorem zOwn_append (a b : List (Addr × List Int)) : zOwn (a ++ b) = zOwn a ++ zOwn b := List.map_append ..
theorem zRef_append (a b : List (Addr × List Int)) : zRef (a ++ b) = zRef a ++ zRef b := List.map_append ..
theorem zOwn_cons (p : Addr × List Int) (b : List (Addr × List Int)) : zOwn (p :: b) = (p.1, IsI p.2) :: zOwn b := rfl
theorem zOwn_mem {z : List (Addr × List Int)} {p : Addr × List Int} (h : p ∈ z) : (p.1, IsI p.2) ∈ zOwn z := List.mem_map.mpr ⟨p, h, rfl⟩
theorem zRef_at {z : List (Addr × List Int)} {i : Nat} {v : Value} (h : (zRef z)[i]? = some v) : ∃ p, z[i]? = some p ∧ v = .ref p.1 := by
  unfold zRef at h
  rw [List.getElem?_map] at h
  cases hq : z[i]? with
  | none => rw [hq] at h; cases h
  | some p => rw [hq] at h; cases h; exact ⟨p, rfl, rfl⟩
theorem zRef_len (z : List (Addr × List Int)) : (zRef z).length = z.length := List.length_map ..

theorem Fa2.keys {B : Base} : ∀ {kvs : List (Int × Value)} {R : List (Int × List Int)}, Fa2 (fun kv r => kv.1 = r.1 ∧ ∃ a, kv.2 = .ref a ∧ LIB B a r.2) kvs R → kvs.map (·.1) = keysOf R
  | _, _, .nil => rfl
  | _, _, .cons ⟨e, _⟩ t => by
    have := Fa2.keys t
    unfold keysOf at this ⊢
    rw [List.map_cons, List.map_cons, e, this]

/-- what is owned at the end of a call is among what is new -/
theorem FS.newB {s₀ s : Shared} {L : Addr} {m : Str → Option Value} {own : Own} (X : FS s₀ s₀.heap.get? L m own s) {a : Addr} {P : Obj → Prop} (h : (a, P) ∈ own) : AtB (newOnly s₀.heap s.heap) a P := by
  obtain ⟨o, ho, hP⟩ := X.at' h
  exact ⟨o, by unfold newOnly; rw [if_pos (X.fresh h)]; exact ho, hP⟩
theorem zOwn_fa {B : Base} {z : List (Addr × List Int)} (h : ∀ p ∈ z, AtB B p.1 (IsI p.2)) : Fa2 (fun a xs => LIB B a xs) (z.map (·.1)) (z.map (·.2)) := by
  induction z with
  | nil => exact .nil
  | cons p z ih => exact .cons (LIB.of (h p (.head _))) (ih fun q hq => h q (.tail _ hq))

theorem getLast_some {α : Type} {l : List α} (h : l ≠ []) : ∃ x, l.getLast? = some x := ⟨l.getLast h, List.getLast?_eq_some_getLast h⟩

theorem gb_sorted (w : World) : nsIn (hd.heap_39 w.params) mainGlobals "sorted" = some none := by kernel_rfl

section
variable {w : World} {A : Around} {E : Value → Shared → Prop} {s : Shared} {env : Env}

theorem item_last {value slice : Expr} {l : Addr} {xs : List Int} {x : Int} {t : Tok} {Q : Value → Shared → Prop} (hl : At s.heap l (IsI xs)) (hx : xs.getLast? = some x) (h : ∀ t, Q (.int x t) s)
    (hs : subscripted slice false (.ref l) (.int (-1) t) = operate [.ref l, .int (-1) t] (getItem (.ref l) (.int (-1) t)) := by rfl) :
    wpAny (Md w) A (subscriptTail value slice (.ref l) (.int (-1) t)) Q E s := by
  obtain ⟨vs, hi, hv⟩ := atI hl
  rw [List.getLast?_eq_getElem?] at hx
  obtain ⟨u, hu⟩ := hi.get _ _ hx
  have hpos : 0 < xs.length := by
    cases xs with
    | nil => simp at hx
    | cons a b => simp
  have hvl := hi.length
  refine tail_any hv.list.typeIs slot_list_getitem.lookup (wpAny_getItem_list_neg (x := .int x u) hv.list (by decide) ?_ (by decide) ?_ (h u)) hs
  · simp only [List.size_toArray]; omega
  · have e : (-1 + (vs.toArray.size : Int)).toNat = xs.length - 1 := by simp only [List.size_toArray]; omega
    rw [e]
    simpa using hu

theorem rows_call {R : List (Int × List Int)} (GR : Gram R) {d : Addr} {Q : Value → Shared → Prop} (r : Rm A 1 40) (g : GdH w s.heap) (hR : RulesB w s.heap.get? d R)
    (h : ∀ s' a, Same s s' → Ext s.heap s'.heap → RowsB (newOnly s.heap s'.heap) a (rowsOf R) → Q (.ref a) s') : wpAny (Md w) A (call (.ref 52) [.ref d]) Q E s := by
  refine enterN 52 [("rules", .ref d)] (by have := r.dp; omega) g rfl rfl rfl (BindsTo.of_eq rfl) rfl rfl (of_decide_eq_true rfl) fun L s' X => ?_
  have r' : Rm (A.deeper (callEnvC (fnAt w 52) L 52)) 0 37 := r.deeper (callEnvC (fnAt w 52) L 52)
  generalize A.deeper (callEnvC (fnAt w 52) L 52) = A' at r' ⊢
  replace X : FS s s.heap.get? L _ [(L + 1, IsC none)] s' := X
  have G := GdB.of g
  have h8 : sizeLine = 16777216 := by decide
  obtain ⟨kvs, hkv, hsys, hfa⟩ := hR
  have hkl := hfa.length
  have hR6 := GR.len
  have hkeys : kvs.map (·.1) = keysOf R := hfa.keys
  have hkeyl : (srt (keysOf R)).length ≤ 6 := by
    rw [(srt_perm (keysOf R)).length_eq]; unfold keysOf; rw [List.length_map]; exact hR6
  refine wpAny_execs_cons (comp_exec rfl rfl (callB (X.gd G) (gb_sorted w) boot_sorted (arg1 (nmL X rfl (sorted_dict r'.hh (hkv.at X.keep) hsys (by omega) fun s₁ a vs hs he hn ha hi => ?_)))))
  rw [hkeys] at hi
  have X₁ := X.add hs he hn ha
  obtain ⟨oa, hva, han, hao, Xf⟩ := X₁.freeze
  have hA : AtB (FS.addB s.heap.get? a oa) a (IsL vs) := ⟨oa, by unfold FS.addB; rw [if_pos rfl], hva⟩
  have hvl := hi.length
  refine it_list r'.hh Xf hA fun I s₂ St X₂ _ _ _ S hst => ?_
  refine comp1s S X₂ hst (fun C i ys own => i ≤ vs.length ∧ ∃ z, ys = zRef z ∧ own = zOwn z ∧ z.map (·.2) = alone ((srt (keysOf R)).take i)) (fun C => ⟨Nat.zero_le _, [], rfl, rfl, rfl⟩) ?_ (by omega) ?_ ?_
  · rintro C i ys own ⟨hle, z, rfl, rfl, hz⟩
    have e := congrArg List.length hz
    unfold alone at e
    rw [List.length_map, List.length_map, List.length_take] at e
    rw [zRef_len]; omega
  · rintro C i v ys B' m' own' s' hown hsub' hi' hP ⟨_, z, rfl, rfl, hz⟩ Z
    obtain ⟨k, tk, rfl, hk⟩ := hi.at i v hP
    refine stL Z fun s₃ Z₃ => wpAny_tests_nil ?_
    rw [if_pos rfl]
    refine List_ (arg1 (nmL Z₃ rfl (newL Z₃ (Nat.le_of_ble_eq_true rfl) (fun b s₄ Z₄ _ _ => ?_) (Z₃.gd ((G.sub (FS.addB_sub han)).sub hsub')))))
    refine ⟨_, zOwn (z ++ [(b, [k])]), (Z₄.closeI (.cons _ _ .nil)).perm ?_, hi', z ++ [(b, [k])], ?_, rfl, ?_⟩
    · rw [zOwn_append]; exact (List.perm_append_singleton _ _).symm
    · rw [zRef_append]; rfl
    · rw [List.map_append, hz, List.take_add_one, hk]
      unfold alone
      rw [List.map_append]; rfl
  · rintro C ra ys new s₃ ⟨_, z, rfl, rfl, hz⟩ W
    rw [hvl, List.take_length] at hz
    have W₁ := (W.thaw (P := fun _ => True) trivial han).tail rfl
    replace W₁ : FS s s.heap.get? L _ ((ra, IsL (zRef z)) :: (L + 1, IsC none) :: zOwn z) s₃ := W₁.perm (List.Perm.cons _ (List.perm_append_singleton _ _))
    clear W
    refine wpAny_execs_cons (wpAny_For (nmL W₁ rfl (it_dict r'.hh W₁ hkv hsys fun I s₄ St X₄ _ _ _ S hst => ?_)))
    refine for_src S X₄ hst (fun i m own => m "rows" = some (.ref ra) ∧ m "rules" = some (.ref d) ∧ ∃ z c, own = (ra, IsL (zRef z)) :: (L + 1, IsC c) :: zOwn z ∧ z.map (·.2) = addAll (alone (srt (keysOf R))) (pairsOf (R.take i)))
      (fun _ _ => False) (fun _ _ _ => False) ⟨rfl, rfl, z, none, rfl, hz⟩ ?_ ?_ (fun _ _ _ q => q.elim) (fun _ _ _ _ q => q.elim)
    · rintro i v B' m₁ own₁ s₅ hsub hi' ⟨k, x, t, hkx, rfl⟩ ⟨hm1, hm2, z, c, rfl, hz⟩ Z
      obtain ⟨kr, hkr, hk1, la, hla, hlb⟩ := hfa.at i _ hkx
      obtain ⟨k', ys⟩ := kr
      dsimp only at hk1 hla hlb
      subst hk1; subst hla
      have hmemR : (k, ys) ∈ R := List.mem_of_getElem? hkr
      have hkin : k ∈ keysOf R := List.mem_map.mpr ⟨_, hmemR, rfl⟩
      have hys3 := GR.few _ hmemR
      refine stC (Z.perm (List.Perm.swap _ _ _)) fun s₆ Z₆ => ?_
      replace Z₆ := Z₆.perm (List.Perm.swap _ _ _)
      obtain ⟨la', f, hmap, hf, hlb'⟩ := RulesB.get (w := w) ⟨kvs, hkv, hsys, hfa⟩ hkin (hp := s₆.heap) (fun b o e => Z₆.keep b o (hsub b o e))
      have hrule : ruleOf R k = ys := by
        exact ruleOf_eq GR.nd hmemR
      rw [hrule] at hlb'
      obtain ⟨ls, hls, hlsi⟩ := hlb'
      refine wpAny_execs_cons (wpAny_For (Subscript_ (nmL Z₆ hm2 (nmC (Z₆.at' (.tail _ (.head _))) (sub_dict hmap hf (it_list r'.hh (Z₆.tok _) (hls.sub hsub) fun I2 s₇ St2 Z₇ _ _ _ S2 hst2 => ?_))))))
      have hpl : (pairsOf (R.take i)).length ≤ 18 := by
        have h1 := pairsOf_len (R.take i) fun kv hkv => GR.few kv (List.mem_of_mem_take hkv)
        have h2 := List.length_take_le' i R
        omega
      refine for_src S2 Z₇ hst2 (fun j m own => m "rows" = some (.ref ra) ∧ m "rules" = some (.ref d) ∧ ∃ z, own = (ra, IsL (zRef z)) :: (L + 1, IsC (some (.int k t))) :: zOwn z ∧
        z.map (·.2) = addAll (alone (srt (keysOf R))) (pairsOf (R.take i) ++ (ys.take j).map fun s => (k, s))) (fun _ _ => False) (fun _ _ _ => False) ⟨hm1, hm2, z, rfl, by simpa using hz⟩ ?_ ?_ (fun _ _ _ q => q.elim) (fun _ _ _ _ q => q.elim)
      · rintro j v B'' m₂ own₂ s₈ hsub2 hj hP ⟨hm1, hm2, z, rfl, hz⟩ Y
        obtain ⟨y, ty, rfl, hy⟩ := hlsi.at j v hP
        have hstep : addAll (alone (srt (keysOf R))) (pairsOf (R.take i) ++ (ys.take (j + 1)).map fun s => (k, s)) = addSym (z.map (·.2)) k y := by
          rw [List.take_add_one, hy, List.map_append, ← List.append_assoc, addAll_append, ← hz]; rfl
        have hlj : (pairsOf (R.take i) ++ (ys.take j).map fun s => (k, s)).length ≤ 21 := by
          rw [List.length_append, List.length_map]
          have := List.length_take_le' j ys
          have h3 : ys.length ≤ 3 := hys3
          omega
        have hzl : z.length ≤ 30 := by
          have h1 := addAll_len (pairsOf (R.take i) ++ (ys.take j).map fun s => (k, s)) (alone (srt (keysOf R)))
          rw [← hz, List.length_map] at h1
          have h2 : (alone (srt (keysOf R))).length = (srt (keysOf R)).length := List.length_map ..
          omega
        have hzr : ∀ p ∈ z, p.2 ≠ [] ∧ p.2.length ≤ 30 := fun p hp => by
          have h1 := addAll_row (pairsOf (R.take i) ++ (ys.take j).map fun s => (k, s)) (alone (srt (keysOf R))) 0 (alone_row _) p.2 (by rw [← hz]; exact List.mem_map.mpr ⟨p, hp, rfl⟩)
          exact ⟨h1.1, by omega⟩
        have hGB : ∀ b o, s.heap.get? b = some o → B'' b = some o := fun b o e => hsub2 b o (hsub b o e)
        refine stL Y fun s₉ Y₉ => ?_
        obtain ⟨ora, hora, hran, _, Yf⟩ := Y₉.freeze
        have hraA : AtB (FS.addB B'' ra ora) ra (IsL (zRef z)) := ⟨ora, by unfold FS.addB; rw [if_pos rfl], hora⟩
        refine wpAny_execs_cons (comp_exec rfl rfl (nmL Yf hm1 (it_list r'.hh Yf hraA fun I3 s₁₀ St3 Y₁₀ _ _ _ S3 hst3 => ?_)))
        refine comp1s S3 Y₁₀ hst3 (fun C i ys own => i ≤ z.length ∧ ys = zRef ((z.take i).filter fun p => decide (p.2.getLast? = some k)) ∧ own = []) (fun C => ⟨Nat.zero_le _, rfl, rfl⟩) ?_ (by rw [zRef_len]; omega) ?_ ?_
        · rintro C i ys own ⟨h1, rfl, rfl⟩
          rw [zRef_len]
          exact Nat.le_trans (List.length_filter_le _ _) (List.length_take_le _ _)
        · rintro C i2 v ys2 B3 m3 own3 s₁₁ hown hsub3 hi3 hP3 ⟨_, rfl, rfl⟩ V
          obtain ⟨p, hp, rfl⟩ := zRef_at hP3
          have hpz := List.mem_of_getElem? hp
          obtain ⟨x, hx⟩ := getLast_some (hzr p hpz).1
          refine stL V fun s₁₂ V₁ => wpAny_tests_one (wpAny_isTrue_Compare1 (Subscript_ (nmL V₁ rfl (UnaryOp_ (wpAny_Constant_int (neg_int (item_last (((hown _ (.tail _ (zOwn_mem hpz)))).at V₁.keep) hx fun tx => ?_)))))))
          have V₂ := V₁.tok (s₁₂.toks + 1 + 1)
          refine nmC ((hown _ (.head _)).at V₂.keep) (eq_int (wpAny_truthy_bool ?_))
          rw [zRef_len] at hi3
          have hfilt : (z.take (i2 + 1)).filter (fun p => decide (p.2.getLast? = some k)) = (z.take i2).filter (fun p => decide (p.2.getLast? = some k)) ++ (if x = k then [p] else []) := by
            rw [List.take_add_one, hp, List.filter_append]
            simp only [Option.toList_some, List.filter_cons, List.filter_nil, hx, Option.some.injEq, decide_eq_true_eq]
          by_cases hxk : x = k
          · rw [if_pos (by simpa using hxk)]
            refine nmL V₂ rfl ⟨_, _, V₂, hi3, ?_, rfl⟩
            rw [hfilt, if_pos hxk, zRef_append]; rfl
          · rw [if_neg (by simpa using hxk)]
            refine ⟨_, _, V₂, hi3, ?_, rfl⟩
            rw [hfilt, if_neg hxk, List.append_nil]
        · rintro C D ys2 new s₁₁ ⟨_, rfl, rfl⟩ W
          rw [zRef_len, List.take_length] at W
          have W₁ : FS s B'' L _ ((ra, IsL (zRef z)) :: (D, IsL _) :: (L + 1, IsC (some (.int k t))) :: zOwn z) s₁₁ := W.thaw hora hran
          clear W
          refine wpAny_execs_cons (wpAny_If (wpAny_isTrue_Compare1 (nmL W₁ rfl (List_ (spliced_none (newL W₁ (Nat.le_of_ble_eq_true rfl) (fun e s₁₂ W₂ _ _ => ?_) (W₁.gd (G.sub hGB))))))))
          have hDe := W₂.at' (a := D) (.tail _ (.tail _ (.head _)))
          cases hfl : z.filter fun p => decide (p.2.getLast? = some k) with
          | nil =>
            rw [hfl] at hDe
            refine eqI (xs := []) (ys := []) (r'.le (by omega) (by omega)) ⟨_, hDe.choose_spec.1, [], hDe.choose_spec.2, .nil⟩ ((W₂.closeI .nil).at' (.head _)) (wpAny_truthy_bool ?_)
            simp only [decide_true, if_true]
            have W₃ : FS s B'' L _ ((ra, IsL (zRef z)) :: (L + 1, IsC (some (.int k t))) :: zOwn z) s₁₂ := W₂.subl (List.Sublist.cons _ (List.Sublist.cons_cons _ (List.Sublist.cons _ (List.Sublist.refl _))))
            refine wpAny_execs_cons (mAppend (nmL W₃ hm1 ⟨ra, _, rfl, W₃.at' (.head _), List_ (arg2 (nmC (W₃.at' (.tail _ (.head _))) (nmL W₃ rfl (newL W₃ (Nat.le_of_ble_eq_true rfl) (fun b s₁₃ W₄ _ _ => ?_) (W₃.gd (G.sub hGB))))))⟩))
            refine append_FS (W₄.perm (List.Perm.swap _ _ _)) (by rw [zRef_len]; omega) fun s₁₄ W₅ => ⟨rfl, wpAny_execs_nil (wpAny_execs_nil ?_)⟩
            have W₆ := (W₅.perm (List.Perm.swap _ _ _)).closeI (.cons _ _ (.cons _ _ .nil))
            refine ⟨_, (ra, IsL (zRef (z ++ [(b, [k, y])]))) :: (L + 1, IsC (some (.int k t))) :: zOwn (z ++ [(b, [k, y])]), W₆.perm ?_, hm1, hm2, z ++ [(b, [k, y])], rfl, ?_⟩
            · rw [zRef_append, zOwn_append]
              refine (List.Perm.swap _ _ _).trans (List.Perm.cons _ ?_)
              refine (List.Perm.swap _ _ _).trans (List.Perm.cons _ ?_)
              exact (List.perm_append_singleton _ _).symm
            · rw [hstep, addSym_none k y z hfl, List.map_append]; rfl
          | cons p ps =>
            rw [hfl] at hDe
            refine SeqAt.eq_list_lengthsAt hDe.list (W₂.at' (a := e) (P := IsL []) (.head _)).list (by simp [zRef]) (by have := r'.un; omega) (wpAny_truthy_bool ?_)
            simp only [Bool.false_eq_true, if_false]
            obtain ⟨z1, z2, rfl, hadd⟩ := addSym_some k y z p ps hfl
            have W₃ := W₂.tail rfl
            have W₄ := W₃.tok (s₁₂.toks + 1)
            have W₅ := W₄.perm (own' := (p.1, IsI p.2) :: (ra, IsL (zRef (z1 ++ p :: z2))) :: (D, IsL (zRef (p :: ps))) :: (L + 1, IsC (some (.int k t))) :: (zOwn z1 ++ zOwn z2)) (by
              rw [hfl, zOwn_append, zOwn_cons]
              exact List.perm_middle (l₁ := [_, _, _] ++ zOwn z1))
            obtain ⟨pv, hpi, W₆⟩ := W₅.openI
            refine wpAny_execs_cons (mAppend (Subscript_ (nmL W₃ rfl (wpAny_Constant_int (item_at (W₅.at' (.tail _ (.tail _ (.head _)))) (by decide) (by decide) rfl ⟨p.1, pv, rfl, W₆.at' (.head _), nmL W₅ rfl (appendI W₅ ?_ fun s₁₃ W₇ => ⟨rfl, ?_⟩)⟩)))))
            · have := (hzr p (by simp)).2
              omega
            · have W₈ := W₇.subl (own' := (p.1, IsI (p.2 ++ [y])) :: (ra, IsL (zRef (z1 ++ p :: z2))) :: (L + 1, IsC (some (.int k t))) :: (zOwn z1 ++ zOwn z2)) (List.Sublist.cons_cons _ (List.Sublist.cons_cons _ (List.Sublist.cons _ (List.Sublist.refl _))))
              refine wpAny_execs_nil (wpAny_execs_nil ⟨_, (ra, IsL (zRef (z1 ++ (p.1, p.2 ++ [y]) :: z2))) :: (L + 1, IsC (some (.int k t))) :: zOwn (z1 ++ (p.1, p.2 ++ [y]) :: z2), W₈.perm ?_, hm1, hm2, z1 ++ (p.1, p.2 ++ [y]) :: z2, rfl, ?_⟩)
              · have e1 : zRef (z1 ++ (p.1, p.2 ++ [y]) :: z2) = zRef (z1 ++ p :: z2) := by rw [zRef_append, zRef_append]; rfl
                rw [e1, zOwn_append, zOwn_cons]
                exact (List.perm_middle (l₁ := [_, _] ++ zOwn z1)).symm
              · rw [hstep, hadd, List.map_append]; rfl
      · rintro m₂ own₂ s₈ ⟨hm1, hm2, z, rfl, hz⟩ Y
        refine wpAny_execs_nil (wpAny_execs_nil ⟨_, _, Y, hm1, hm2, z, _, rfl, ?_⟩)
        rw [hz, hlsi.length, List.take_length, List.take_add_one, hkr, pairsOf_append]
        simp [pairsOf]
    · rintro m₁ own₁ s₅ ⟨hm1, hm2, z, c, rfl, hz⟩ Z
      refine wpAny_execs_nil (wpAny_execs_cons (wpAny_Return_some (nmL Z hm1 ?_)))
      refine h s₅ ra Z.same Z.keep ⟨z.map (·.1), ?_, ?_⟩
      · have e : (z.map (·.1)).map Value.ref = zRef z := List.map_map ..
        rw [e]
        exact Z.newB (.head _)
      · have e : rowsOf R = z.map (·.2) := by
          rw [hz, hkl, List.take_length]; rfl
        rw [e]
        exact zOwn_fa fun p hp => Z.newB (.tail _ (.tail _ (zOwn_mem hp)))
end
end Mine

end
section
set_option autoImplicit false
namespace Mine

def anyTail (sss : List (List Int)) (c : Int) : Bool := sss.any fun s => (s.drop 1).any (· == c)
/-- the first head that stands in no tail -/
def pick (sss : List (List Int)) : List (List Int) → Option Int
  | [] => none
  | s :: r => if anyTail sss (s.headD 0) then pick sss r else some (s.headD 0)
def dropHead (c : Int) (s : List Int) : List Int := if s.head? = some c then s.drop 1 else s
def fullOnes (sss : List (List Int)) : List (List Int) := sss.filter fun s => !s.isEmpty
def c3 : Nat → List (List Int) → Option (List Int)
  | 0, _ => some []
  | n + 1, sss => if fullOnes sss = [] then some [] else match pick (fullOnes sss) (fullOnes sss) with
    | none => none
    | some c => (c3 n ((fullOnes sss).map (dropHead c))).map (c :: ·)

theorem c3_done {k : Nat} {sss : List (List Int)} (h : fullOnes sss = []) : c3 k sss = some [] := by
  cases k with
  | zero => rfl
  | succ k => unfold c3; rw [if_pos h]
theorem c3_none {k : Nat} {sss : List (List Int)} (h : fullOnes sss ≠ []) (hp : pick (fullOnes sss) (fullOnes sss) = none) : c3 (k + 1) sss = none := by
  unfold c3; rw [if_neg h, hp]
theorem c3_some {k : Nat} {sss : List (List Int)} {c : Int} (h : fullOnes sss ≠ []) (hp : pick (fullOnes sss) (fullOnes sss) = some c) : c3 (k + 1) sss = (c3 k ((fullOnes sss).map (dropHead c))).map (c :: ·) := by
  conv => lhs; unfold c3
  rw [if_neg h, hp]
theorem pick_none (t : List (List Int)) : ∀ (l : List (List Int)), pick t l = none → ∀ s ∈ l, anyTail t (s.headD 0) = true
  | [], _, s, h => by cases h
  | s :: r, h, s', hs => by
    unfold pick at h
    split at h
    · rename_i h1
      rcases List.mem_cons.mp hs with rfl | hs
      · exact h1
      · exact pick_none t r h s' hs
    · cases h
theorem pick_head (t : List (List Int)) : ∀ (l : List (List Int)) (c : Int), pick t l = some c → (∀ s ∈ l, s ≠ []) → ∃ s ∈ l, s.head? = some c
  | [], c, h, _ => by cases h
  | s :: r, c, h, H => by
    unfold pick at h
    split at h
    · obtain ⟨s', h1, h2⟩ := pick_head t r c h fun s hs => H s (.tail _ hs)
      exact ⟨s', .tail _ h1, h2⟩
    · cases s with
      | nil => exact absurd rfl (H [] (.head _))
      | cons a b => cases h; exact ⟨_, .head _, rfl⟩
theorem full_ne (sss : List (List Int)) : ∀ s ∈ fullOnes sss, s ≠ [] := fun s hs e => by
  have := (List.mem_filter.mp hs).2
  rw [e] at this; cases this
theorem full_len : ∀ (sss : List (List Int)), (fullOnes sss).flatten.length ≤ sss.flatten.length
  | [] => by simp [fullOnes]
  | s :: r => by
    have h := full_len r
    unfold fullOnes at h ⊢
    rw [List.filter_cons]
    split
    · simp only [List.flatten_cons, List.length_append]; omega
    · simp only [List.flatten_cons, List.length_append]; omega
theorem drop_len (c : Int) : ∀ (t : List (List Int)), (t.map (dropHead c)).flatten.length ≤ t.flatten.length
  | [] => by simp
  | s :: r => by
    have h := drop_len c r
    have h2 : (dropHead c s).length ≤ s.length := by unfold dropHead; split <;> simp
    simp only [List.map_cons, List.flatten_cons, List.length_append]; omega
theorem drop_lt (c : Int) : ∀ (t : List (List Int)), (∃ s ∈ t, s.head? = some c) → (t.map (dropHead c)).flatten.length < t.flatten.length
  | [], ⟨_, h, _⟩ => by cases h
  | s :: r, ⟨s', h, e⟩ => by
    have h3 := drop_len c r
    have h4 : (dropHead c s).length ≤ s.length := by unfold dropHead; split <;> simp
    simp only [List.map_cons, List.flatten_cons, List.length_append]
    rcases List.mem_cons.mp h with rfl | h
    · have : (dropHead c s').length < s'.length := by
        unfold dropHead; rw [if_pos e]
        cases s' with
        | nil => cases e
        | cons a b => simp
      omega
    · have := drop_lt c r ⟨s', h, e⟩
      omega
end Mine

end
section
open PySem PySem.W PyProof.Rows
set_option Elab.async false
set_option maxRecDepth 100000
set_option autoImplicit false
set_option linter.unusedVariables false
set_option maxHeartbeats 4000000
namespace Mine
section
variable {w : World} {A : Around} {E : Value → Shared → Prop} {s : Shared} {env : Env}

theorem truthyL {l : Addr} {vs : List Value} {Q : Bool → Shared → Prop} (hl : At s.heap l (IsL vs)) (hsz : vs.length ≤ sizeLine) (h : Q (!vs.isEmpty) { s with toks := s.toks + 1 + 1 }) : wpAny (Md w) A (truthy (.ref l)) Q E s := by
  have h8 : sizeLine = 16777216 := by decide
  refine wpAny_truthy_list hl.list (by simp only [List.size_toArray]; omega) ?_
  have e : vs.toArray.isEmpty = vs.isEmpty := by simp
  rw [e]; exact h
theorem truthyI {l : Addr} {xs : List Int} {Q : Bool → Shared → Prop} (hl : At s.heap l (IsI xs)) (hsz : xs.length ≤ sizeLine) (h : Q (!xs.isEmpty) { s with toks := s.toks + 1 + 1 }) : wpAny (Md w) A (truthy (.ref l)) Q E s := by
  obtain ⟨vs, hi, hv⟩ := atI hl
  refine truthyL hv (by rw [hi.length]; exact hsz) ?_
  have e : vs.isEmpty = xs.isEmpty := by cases hi <;> rfl
  rw [e]; exact h

theorem item0 {value slice : Expr} {l : Addr} {xs : List Int} {x : Int} {t : Tok} {Q : Value → Shared → Prop} (hl : At s.heap l (IsI (x :: xs))) (h : ∀ t, Q (.int x t) s)
    (hs : subscripted slice false (.ref l) (.int 0 t) = operate [.ref l, .int 0 t] (getItem (.ref l) (.int 0 t)) := by rfl) :
    wpAny (Md w) A (subscriptTail value slice (.ref l) (.int 0 t)) Q E s := by
  obtain ⟨vs, hi, hv⟩ := atI hl
  cases hi with
  | cons _ u hi => exact item_at hv (by decide) (by decide) rfl (h u) hs

theorem newAdd {o : Obj} (hf : o.isFreed = false) {P : Obj → Prop} (hP : P o) {h₁ : Heap} : h₁.get? h₁.objs.size = none ∧ Ext h₁ (h₁.push o) ∧ At (h₁.push o) h₁.objs.size P := by
  refine ⟨?_, fun b o e => Heap.get?_push_of_some _ e, o, Heap.get?_push_size _ hf, hP⟩
  cases e : h₁.get? h₁.objs.size with
  | none => rfl
  | some o => exact absurd (Heap.lt_size e) (Nat.lt_irrefl _)

/-- x[1:] -/
theorem slice1 {value : Expr} {k : Nat} {p1 p pos : Pos} {Q : Value → Shared → Prop}
    (h : wpAny (Md w) A (eval value env) (fun o s₁ => ∃ l xs, o = .ref l ∧ At s₁.heap l (IsI xs) ∧ xs.length ≤ sizeLine ∧ xs ≠ [] ∧
      ∀ s' a, Same s₁ s' → Ext s₁.heap s'.heap → s₁.heap.get? a = none → At s'.heap a (IsI (xs.drop 1)) → Q (.ref a) s') E s)
    (ht : ∀ o r, letTemporaryGo value o r = pure () := by intro _ _; rfl) :
    wpAny (Md w) A (eval (.Subscript value (.Slice (some (.Constant (.int 1) k p1)) none none p) pos) env) Q E s := by
  refine wpAny_Subscript_list_slice (wpAny_mono h (fun o s₁ q => ?_) fun _ _ q => q) ht
  obtain ⟨l, xs, rfl, hl, hsz, hne, q⟩ := q
  obtain ⟨vs, hi, hv⟩ := atI hl
  rw [evalPart_some]
  refine wpAny_Constant_int ?_
  rw [evalPart_none]
  refine wpAny_pure ⟨l, vs.toArray, some 1, none, rfl, hv.list, by simp only [List.size_toArray]; rw [hi.length]; exact hsz, .int _ _, .none, ?_⟩
  have hpos : 1 ≤ xs.length := List.length_pos_iff.mpr hne
  have hsl := slice_ints_from hi (x := 1) (by decide) (by omega)
  obtain ⟨n1, e1, _⟩ := newAdd (o := { cls := .type "slice", data := .fields #[.int 1 s₁.toks, .none, .none] }) rfl (P := fun _ => True) trivial (h₁ := s₁.heap)
  obtain ⟨n2, e2, a2⟩ := newAdd (o := { cls := .type "list", data := .seq (slicePick vs.toArray (some 1) none none) }) rfl (P := IsI (xs.drop 1)) ⟨_, ⟨0, by simp⟩, hsl⟩ (h₁ := s₁.heap.push { cls := .type "slice", data := .fields #[.int 1 s₁.toks, .none, .none] })
  rw [Heap.size_push] at n2 a2
  refine q _ (s₁.heap.objs.size + 1) ⟨_, _, rfl⟩ (e1.trans e2) ?_ a2
  cases e : s₁.heap.get? (s₁.heap.objs.size + 1) with
  | none => rfl
  | some o => exact absurd (Heap.lt_size e) (Nat.not_lt.mpr (Nat.le_succ _))

theorem delHead {s₀ : Shared} {B : Base} {L D : Addr} {m : Str → Option Value} {own : Own} {xs : List Int} {x : Int} {t : Tok} {Q : Unit → Shared → Prop} (X : FS s₀ B L m ((D, IsI (x :: xs)) :: own) s) (hsz : xs.length < sizeLine)
    (h : ∀ s', FS s₀ B L m ((D, IsI xs) :: own) s' → Q () s') : wpAny (Md w) A (delItem (.ref D) (.int 0 t)) Q E s := by
  obtain ⟨vs, hi, Y⟩ := X.openI
  cases hi with
  | cons _ u hi =>
    rename_i vs
    refine wpAny_delItem_plain (k := 0) (Y.at' (P := IsL _) (.head _)).plain (by decide) (by simp [seqIndex?]) (fun h' hl hs => h _ (FS.closeI (Y.upd (t := s.toks) hs ?_) hi)) (by simp; rw [hi.length]; exact hsz)
    have := At.ofPlain hl
    simpa using this

/-- a def of the top that may raise -/
theorem enterR (a : Addr) {oc : Value} {od : Option Addr} {osl : Array (Option Value)} {body : List Stmt} {vals : List Value} {Q : Value → Shared → Prop} (binds : List (Str × Value)) (hroom : A.depth < recursionLimit) (g : GdH w s.heap)
    (hl : (hd.heap_39 w.params).lookup a = some ⟨oc, od, .func (fnAt w a), osl⟩) (hcd : codeIn (hd.heap_39 w.params) (fnAt w a).code (fnAt w a).qualname = true) (hbody : (fnAt w a).body = .stmts body)
    (hbind : BindsTo s (fnAt w a) ⟨vals, []⟩ binds) (hclo : (fnAt w a).closure = []) (hkind : (binds.all fun y => (fnAt w a).scope.names.lookup y.1 == some .local || (fnAt w a).scope.names.lookup y.1 == some .cell) = true)
    (hnd : ((cellsFrom 0 (fnAt w a).scope.names []).map (·.1)).Nodup)
    (h : ∀ L s', FS s s.heap.get? L (bindL (callEnvC (fnAt w a) L a).kindOf binds fun _ => none)
        (cellOwn (cellsFrom (L + 1) (fnAt w a).scope.names []) (bindC (callEnvC (fnAt w a) L a).kindOf binds fun _ => none)) s' →
      wpAny (Md w) (A.deeper (callEnvC (fnAt w a) L a)) (execs body (callEnvC (fnAt w a) L a)) (fun f s' => Q (retv f) s')
        (fun e s' => wpAny (Md w) (A.deeper (callEnvC (fnAt w a) L a)) (leaving (callEnvC (fnAt w a) L a) e) (fun _ s'' => E e s'') E s') s')
    (hco : (fnAt w a).scope.isCoroutine = false := by rfl) (hgen : (fnAt w a).scope.isGenerator = false := by rfl) (hk : (fnAt w a).scope.kind = .function := by rfl) : wpAny (Md w) A (call (.ref a) vals) Q E s := by
  have hlim : s.heap.NoLimit := let ⟨_, _, _, _, _, T⟩ := g.T; T.nolimit
  refine wpAny_call (codeAny_call_function hroom (g.X _ _ hl) rfl hco hgen hbody (codeRec_of g.X hcd) (hbind _ _ _ _ ?_))
  rw [hclo]
  refine wpAny_newFunctionEnv_cells hk (kindsX hkind _) fun env' he s' x => ?_
  subst he
  refine ⟨hlim.keeps x.toInCall.keep, codeAny_func ?_⟩
  have hn : s.heap.get? s.heap.objs.size = none := by
    cases e : s.heap.get? s.heap.objs.size with
    | none => rfl
    | some o => exact absurd (Heap.lt_size e) (Nat.lt_irrefl _)
  have hnew : ∀ c, s.heap.objs.size ≤ c → s.heap.get? c = none := fun c hc => by
    cases e : s.heap.get? c with
    | none => rfl
    | some o => exact absurd (Heap.lt_size e) (Nat.not_lt.mpr hc)
  refine wpAny_mono (h s.heap.objs.size s' ⟨x.toInCall.same, x.toInCall.ns, x.toInCall.keep, hn, fun p hp => ?_, ?_⟩) (fun f s' q => by cases f <;> exact q) fun e s' q => wpAny_mono q (fun _ _ q => q) fun _ _ q => q
  · obtain ⟨⟨n, c⟩, hm, rfl⟩ := List.mem_map.mp hp
    have hab : s.heap.objs.size < c := x.above n c hm
    exact ⟨Nat.ne_of_gt hab, hnew _ (Nat.le_of_lt hab), x.cell n c (lookup_of_mem_nodup (cellsFrom_names (fnAt w a).scope.names 0 (s.heap.objs.size + 1) [] [] rfl ▸ hnd) hm)⟩
  · have := x.apart
    unfold cellOwn
    rw [List.map_map]
    show (List.map (fun (nc : Str × Addr) => nc.2) _).Nodup
    rw [List.Nodup, List.pairwise_map]
    exact this
end
end Mine

end
section
open PySem PySem.W PyProof.Rows
set_option Elab.async false
set_option maxRecDepth 100000
set_option autoImplicit false
set_option linter.unusedVariables false
set_option maxHeartbeats 4000000
namespace Mine

/-- all but the rows -/
def offZ (h : Heap) (zs : List Addr) : Base := fun b => if b ∈ zs then none else h.get? b
theorem offZ_sub {h : Heap} {zs : List Addr} {b : Addr} {o : Obj} (e : offZ h zs b = some o) : h.get? b = some o := by
  unfold offZ at e; split at e
  · cases e
  · exact e
theorem offZ_of {h : Heap} {zs : List Addr} {b : Addr} {o : Obj} (hb : b ∉ zs) (e : h.get? b = some o) : offZ h zs b = some o := by
  unfold offZ; rw [if_neg hb]; exact e

/-- the refusal, as the caller meets it -/
def Flew (s : Shared) (zs : List Addr) (outer : List Env) (e t : Addr) (s' : Shared) : Prop :=
  Same s s' ∧ (∃ base tk, Heap.FlyingW base outer e (.type "RuntimeError") (.ref t) s'.heap ∧ s'.heap.TupAt t [.str "Inconsistent hierarchy" tk] ∧ base.get? t = none ∧
    (∀ b o, b ∉ zs → b ∉ outer.filterMap (·.frame) → s.heap.get? b = some o → base.get? b = some o)) ∧
  ∀ b o, b ∉ zs → s.heap.get? b = some o → (∀ vs, o.data ≠ .fields vs) → ∃ sl, s'.heap.get? b = some { o with slots := sl }

theorem funFrames_some {base h h' : Heap} : ∀ {l : List Env}, h.FunFrames base l → (∀ env ∈ l, ∀ b o, env.frame = some b → h.get? b = some o → h'.get? b = some o) → h'.FunFrames base l
  | [], _, _ => trivial
  | env :: _, ⟨hk, ⟨L, o, hf, hn, ho, hd⟩, hr⟩, H => ⟨hk, ⟨L, o, hf, hn, H env (.head _) L o hf ho, hd⟩, funFrames_some hr fun e he => H e (.tail _ he)⟩

theorem gb_RuntimeError (w : World) : nsIn (hd.heap_39 w.params) mainGlobals "RuntimeError" = some none := by kernel_rfl

theorem zFull (zz : List (Addr × List Int)) : (zz.filter fun p => !p.2.isEmpty).map (·.2) = fullOnes (zz.map (·.2)) := by
  unfold fullOnes; rw [List.filter_map]; rfl

/-- a loop with no else: what holds behind it, however it was left -/
theorem for_srcK {w : World} {A : Around} {s₀ s : Shared} {B : Base} {m : Str → Option Value} {own : Own} {env : Env} {I : Addr} {n : Nat} {P : Nat → Value → Prop} {St : Nat → Heap → Prop} {x : Str} {px : Pos} {body : List Stmt} {R : Result → Shared → Prop} {L : Addr}
    (S : Src w A B I n P St) (X : FS s₀ B L m ((I, fun _ => True) :: own) s) (hst : St 0 s.heap)
    (J : Nat → (Str → Option Value) → Own → Prop) (Kb K : (Str → Option Value) → Own → Prop) (h0 : J 0 m own)
    (turn : ∀ i v B' m own s, (∀ b o, B b = some o → B' b = some o) → i < n → P i v → J i m own → FS s₀ B' L m own s →
      wpAny (Md w) A (storeName env x v) (fun _ s => wpAny (Md w) A (execs body env)
        (fun f s' => ∃ m' own', FS s₀ B' L m' own' s' ∧ (match f with | .next => J (i + 1) m' own' | .cont => J (i + 1) m' own' | .brk => Kb m' own' | .ret v => False)) (fun _ _ => False) s) (fun _ _ => False) s)
    (hd : ∀ m own, J n m own → K m own) (hb : ∀ m own, Kb m own → K m own) (after : ∀ m own s, K m own → FS s₀ B L m own s → R (.ok .next) s) :
    codeAny (Md w) A (.forLoop (.Name x px) (.ref I) body [] env) R s :=
  for_src S X hst J Kb (fun _ _ _ => False) h0 turn (fun m own s j Y => wpAny_execs_nil (after m own s (hd m own j) Y)) (fun m own s j Y => after m own s (hb m own j) Y) fun _ _ _ _ q => q.elim

section
variable {w : World} {A : Around} {E : Value → Shared → Prop} {s : Shared} {env : Env}

theorem c3_call {ra : Addr} {z : List (Addr × List Int)} {n : Nat} {outer : List Env} {base₀ : Heap} {Q : Value → Shared → Prop} (r : Rm A 1 60) (g : GdB w (offZ s.heap (z.map (·.1)))) (hnd : (z.map (·.1)).Nodup) (hz : ∀ p ∈ z, At s.heap p.1 (IsI p.2))
    (hra : AtB (offZ s.heap (z.map (·.1))) ra (IsL (zRef z))) (hn : (z.map (·.2)).flatten.length ≤ n) (hn1 : n ≤ 1000) (hz1 : z.length ≤ 1000)
    (hfr : A.frames = some outer) (hff : s.heap.FunFrames base₀ outer) (hfz : ∀ env ∈ outer, ∀ b, env.frame = some b → b ∉ z.map (·.1))
    (hok : ∀ os, c3 n (z.map (·.2)) = some os → ∀ s' a, Same s s' → (∀ b o, b ∉ z.map (·.1) → s.heap.get? b = some o → s'.heap.get? b = some o) → s.heap.get? a = none → LIB s'.heap.get? a os → Q (.ref a) s')
    (herr : c3 n (z.map (·.2)) = none → ∀ e t s', Flew s (z.map (·.1)) outer e t s' → E (.ref e) s') : wpAny (Md w) A (call (.ref 28) [.ref ra]) Q E s := by
  refine enterR 28 [("sequences", .ref ra)] (by have := r.dp; omega) (g _ fun b o e => offZ_sub e) rfl rfl rfl (BindsTo.of_eq rfl) rfl rfl (of_decide_eq_true rfl) fun L s' X => ?_
  have r' : Rm (A.deeper (callEnvC (fnAt w 28) L 28)) 0 57 := r.deeper (callEnvC (fnAt w 28) L 28)
  have hfr' : (A.deeper (callEnvC (fnAt w 28) L 28)).frames = some (callEnvC (fnAt w 28) L 28 :: outer) := Around.frames_deeper hfr
  generalize A.deeper (callEnvC (fnAt w 28) L 28) = A' at r' hfr' ⊢
  replace X : FS s s.heap.get? L _ [] s' := X
  have hLn : s.heap.get? L = none := X.hL
  have h8 : sizeLine = 16777216 := by decide
  have X₀ : FS s (offZ s.heap (z.map (·.1))) L _ (zOwn z) s' := X.rebase (fun b o e => offZ_sub e) (fun p hp => by
    obtain ⟨q, hq, rfl⟩ := List.mem_map.mp hp
    refine ⟨?_, hz q hq⟩
    dsimp only
    unfold offZ; rw [if_pos (List.mem_map.mpr ⟨q, hq, rfl⟩)]) (by unfold zOwn; rw [List.map_map]; exact hnd)
  have hext : ∀ b o, s.heap.get? b = some o → s'.heap.get? b = some o := X.keep
  clear X
  generalize hB : offZ s.heap (z.map (·.1)) = B at g hra X₀
  refine wpAny_execs_cons (wpAny_Assign_Name (List_ (spliced_none (newL X₀ (Nat.le_of_ble_eq_true rfl) (fun res s₁ X₁ hresn _ => stL X₁ fun s₂ X₂ => ?_) (X₀.gd g)))))
  replace X₂ := X₂.closeI .nil
  refine wpAny_execs_cons (wpAny_While ?_)
  refine codeAny_whileLoop (fun k s' => ∃ Bi zz os m sq, (∀ b o, B b = some o → Bi b = some o) ∧ FS s Bi L m ((res, IsI os) :: zOwn zz) s' ∧ m "result" = some (.ref res) ∧ m "sequences" = some (.ref sq) ∧ AtB Bi sq (IsL (zRef zz)) ∧
    (c3 k (zz.map (·.2))).map (os ++ ·) = c3 n (z.map (·.2)) ∧ (zz.map (·.2)).flatten.length ≤ k ∧ os.length + k ≤ n ∧ zz.length ≤ z.length) ?_ n
    ⟨B, z, [], _, ra, fun _ _ e => e, X₂, rfl, rfl, hra, by simp, hn, by simp, Nat.le_refl _⟩
  rintro k s₃ ⟨Bi, zz, os, m, sq, hBi, Y, hmr, hms, hsq, hc3, htot, hos, hzz⟩
  refine wpAny_passesOwn PassesOwn.leaving (isTrue_plain (wpAny_Constant_bool (wpAny_truthy_bool ?_)))
  rw [if_pos rfl]
  refine wpAny_passesOwn PassesOwn.leaving ?_
  have hrow : ∀ p ∈ zz, p.2.length ≤ 1000 := fun p hp => by
    have h1 : p.2.length ≤ (zz.map (·.2)).flatten.length := by
      have : p.2 ∈ zz.map (·.2) := List.mem_map.mpr ⟨p, hp, rfl⟩
      exact (List.sublist_flatten_of_mem this).length_le
    omega
  refine wpAny_execs_cons (comp_exec rfl rfl (nmL Y hms (it_list r'.hh Y hsq fun I s₄ St Y₄ _ _ _ S hst => ?_)))
  refine comp1s S Y₄ hst (fun C i ys own => i ≤ zz.length ∧ ys = zRef ((zz.take i).filter fun p => !p.2.isEmpty) ∧ own = []) (fun C => ⟨Nat.zero_le _, rfl, rfl⟩) ?_ (by rw [zRef_len]; omega) ?_ ?_
  · rintro C i ys own ⟨h1, rfl, rfl⟩
    rw [zRef_len]
    exact Nat.le_trans (List.length_filter_le _ _) (List.length_take_le _ _)
  · rintro C i v ys B3 m3 own3 s₅ hown hsub3 hi3 hP3 ⟨_, rfl, rfl⟩ V
    obtain ⟨p, hp, rfl⟩ := zRef_at hP3
    have hpz := List.mem_of_getElem? hp
    rw [zRef_len] at hi3
    refine stL V fun s₆ V₁ => wpAny_tests_one (isTrue_plain (nmL V₁ rfl (truthyI ((hown _ (.tail _ (zOwn_mem hpz))).at V₁.keep) (by have := hrow p hpz; omega) ?_)))
    have V₂ := V₁.tok (s₆.toks + 1 + 1)
    have hfilt : (zz.take (i + 1)).filter (fun p => !p.2.isEmpty) = (zz.take i).filter (fun p => !p.2.isEmpty) ++ (if (!p.2.isEmpty) = true then [p] else []) := by
      rw [List.take_add_one, hp, List.filter_append]
      simp only [Option.toList_some, List.filter_cons, List.filter_nil]
    by_cases hpe : (!p.2.isEmpty) = true
    · rw [if_pos hpe]
      refine nmL V₂ rfl ⟨_, _, V₂, hi3, ?_, rfl⟩
      rw [hfilt, if_pos hpe, zRef_append]; rfl
    · rw [if_neg hpe]
      refine ⟨_, _, V₂, hi3, ?_, rfl⟩
      rw [hfilt, if_neg hpe, List.append_nil]
  · rintro C D ys new s₅ ⟨_, rfl, rfl⟩ W
    rw [zRef_len, List.take_length] at W
    generalize hzf : (zz.filter fun p => !p.2.isEmpty) = zf at W
    have hzfs : zf.Sublist zz := by rw [← hzf]; exact List.filter_sublist
    have ht : zf.map (·.2) = fullOnes (zz.map (·.2)) := by rw [← hzf]; exact zFull zz
    have hzfl : zf.length ≤ 1000 := Nat.le_trans hzfs.length_le (by omega)
    have hne : ∀ p ∈ zf, ∃ x xs, p.2 = x :: xs := fun p hp => by
      rw [← hzf] at hp
      have := (List.mem_filter.mp hp).2
      cases h : p.2 with
      | nil => rw [h] at this; cases this
      | cons x xs => exact ⟨x, xs, rfl⟩
    replace W : FS s Bi L _ ((D, IsL (zRef zf)) :: (res, IsI os) :: zOwn zf) s₅ := W.subl (List.Sublist.cons_cons _ (List.Sublist.cons_cons _ (hzfs.map _)))
    obtain ⟨oD, hoD, hDn, _, Wf⟩ := W.freeze
    have hDA : AtB (FS.addB Bi D oD) D (IsL (zRef zf)) := ⟨oD, by unfold FS.addB; rw [if_pos rfl], hoD⟩
    have hB2 : ∀ b o, B b = some o → FS.addB Bi D oD b = some o := fun b o e => FS.addB_sub hDn b o (hBi b o e)
    clear W
    generalize FS.addB Bi D oD = B2 at Wf hDA hB2
    refine wpAny_execs_cons (wpAny_If (isTrue_not (isTrue_plain (nmL Wf rfl (truthyL (hDA.at Wf.keep) (by rw [zRef_len]; omega) ?_)))))
    replace Wf := Wf.tok (s₅.toks + 1 + 1)
    have hresn' : s.heap.get? res = none := by
      cases e : s.heap.get? res with
      | none => rfl
      | some o => rw [hext _ _ e] at hresn; cases hresn
    by_cases hze : zf = []
    · subst hze
      rw [if_pos (by rfl)]
      refine wpAny_execs_cons (wpAny_Return_some (nmL Wf hmr ?_))
      exact hok os (by rw [← hc3, c3_done ht.symm]; simp) _ res Wf.same (fun b o hb e => Wf.keep b o (hB2 b o (by rw [← hB]; exact offZ_of hb e))) hresn' (LIB.of (Wf.at' (.head _)))
    cases k with
    | zero =>
      exfalso
      cases zf with
      | nil => exact hze rfl
      | cons p q =>
        obtain ⟨x, xs, hx⟩ := hne p (.head _)
        have h1 := full_len (zz.map (·.2))
        rw [← ht] at h1
        simp only [List.map_cons, List.flatten_cons, List.length_append, hx, List.length_cons] at h1
        omega
    | succ k =>
    have hzne : (zRef zf).isEmpty = false := by
      cases zf with
      | nil => exact absurd rfl hze
      | cons p q => rfl
    rw [hzne]
    simp only [Bool.not_false, Bool.not_true, Bool.false_eq_true, if_false]
    refine wpAny_execs_nil ?_
    have hrow2 : ∀ p ∈ zf, p.2.length ≤ 1000 := fun p hp => hrow p (hzfs.subset hp)
    have htne : fullOnes (zz.map (·.2)) ≠ [] := by rw [← ht]; simpa using hze
    rw [← ht] at htne
    refine wpAny_execs_cons (wpAny_For (nmL Wf rfl (it_list r'.hh Wf hDA fun I2 s₆ St2 W₆ _ _ _ S2 hst2 => ?_)))
    refine for_srcK S2 W₆ hst2
      (fun i m own => m "result" = some (.ref res) ∧ m "sequences" = some (.ref D) ∧ own = (res, IsI os) :: zOwn zf ∧ (0 < i → m "candidate" = some .none) ∧ pick (zf.map (·.2)) ((zf.map (·.2)).drop i) = pick (zf.map (·.2)) (zf.map (·.2)))
      (fun m own => m "result" = some (.ref res) ∧ m "sequences" = some (.ref D) ∧ own = (res, IsI os) :: zOwn zf ∧ ∃ c tc, m "candidate" = some (.int c tc) ∧ pick (zf.map (·.2)) (zf.map (·.2)) = some c)
      (fun m own => m "result" = some (.ref res) ∧ m "sequences" = some (.ref D) ∧ own = (res, IsI os) :: zOwn zf ∧ ((∃ c tc, m "candidate" = some (.int c tc) ∧ pick (zf.map (·.2)) (zf.map (·.2)) = some c) ∨ (m "candidate" = some .none ∧ pick (zf.map (·.2)) (zf.map (·.2)) = none)))
      ⟨hmr, rfl, rfl, fun h => absurd h (Nat.lt_irrefl _), rfl⟩ ?_ ?_ (fun m own ⟨h1, h2, h3, h4⟩ => ⟨h1, h2, h3, .inl h4⟩) ?_
    · rintro i v B3 m₁ own₁ s₇ hsub hi hP ⟨hm1, hm2, rfl, hcand, hpk⟩ V
      obtain ⟨p, hp, rfl⟩ := zRef_at hP
      have hpz := List.mem_of_getElem? hp
      obtain ⟨x, xs, hx⟩ := hne p hpz
      have hti : (zf.map (·.2))[i]? = some (x :: xs) := by rw [List.getElem?_map, hp, Option.map_some, hx]
      have hdrop : (zf.map (·.2)).drop i = (x :: xs) :: (zf.map (·.2)).drop (i + 1) := by
        have h1 : i < (zf.map (·.2)).length := (List.getElem?_eq_some_iff.mp hti).1
        rw [List.drop_eq_getElem_cons h1]
        congr 1
        exact (List.getElem?_eq_some_iff.mp hti).2
      have hpx : At s₇.heap p.1 (IsI (x :: xs)) := by rw [← hx]; exact V.at' (.tail _ (zOwn_mem hpz))
      refine stL V fun s₈ V₁ => wpAny_execs_cons (wpAny_Assign_Name (Subscript_ (nmL V₁ rfl (wpAny_Constant_int (item0 (by rw [← hx]; exact (V₁.tok _).at' (.tail _ (zOwn_mem hpz))) fun tx => stL (V₁.tok _) fun s₉ V₂ => ?_)))))
      refine wpAny_execs_cons (wpAny_For (nmL V₂ hm2 (it_list r'.hh V₂ (hDA.sub hsub) fun I3 s₁₀ St3 V₃ _ _ _ S3 hst3 => ?_)))
      refine for_src S3 V₃ hst3
        (fun j m own => m "result" = some (.ref res) ∧ m "sequences" = some (.ref D) ∧ own = (res, IsI os) :: zOwn zf ∧ m "candidate" = some (.int x tx) ∧ anyTail ((zf.map (·.2)).take j) x = false)
        (fun m own => m "result" = some (.ref res) ∧ m "sequences" = some (.ref D) ∧ own = (res, IsI os) :: zOwn zf ∧ m "candidate" = some .none ∧ anyTail (zf.map (·.2)) x = true)
        (fun _ _ _ => False) ⟨hm1, hm2, rfl, rfl, rfl⟩ ?_ ?_ ?_ (fun _ _ _ _ q => q.elim)
      · rintro j v B4 m₂ own₂ s₁₁ hsub2 hj hP2 ⟨hm1, hm2, rfl, hmc, hat⟩ U
        obtain ⟨p2, hp2, rfl⟩ := zRef_at hP2
        have hpz2 := List.mem_of_getElem? hp2
        obtain ⟨y, ys, hy⟩ := hne p2 hpz2
        refine stL U fun s₁₂ U₁ => wpAny_execs_cons (wpAny_If (wpAny_isTrue_Compare1 (nmL U₁ hmc (slice1 (nmL U₁ rfl ⟨p2.1, p2.2, rfl, U₁.at' (.tail _ (zOwn_mem hpz2)), by have := hrow2 p2 hpz2; omega, by rw [hy]; simp, fun s₁₃ a hs he hn ha => ?_⟩)))))
        obtain ⟨as, hai, hal⟩ := atI ha
        refine in_list_ints hal.list hai (wpAny_truthy_bool ?_)
        have U₂ := U₁.ext hs he
        have htj : (zf.map (·.2))[j]? = some p2.2 := by rw [List.getElem?_map, hp2]; rfl
        have hstep : anyTail ((zf.map (·.2)).take (j + 1)) x = (p2.2.drop 1).any (· == x) := by
          unfold anyTail at hat ⊢
          rw [List.take_add_one, htj, List.any_append, hat]
          simp
        by_cases hin : (p2.2.drop 1).any (· == x) = true
        · rw [if_pos hin]
          refine wpAny_execs_cons (wpAny_Assign_Name (wpAny_Constant_none (stL U₂ fun s₁₄ U₃ => wpAny_execs_cons (wpAny_Break ⟨_, _, U₃, hm1, hm2, rfl, rfl, ?_⟩))))
          unfold anyTail
          exact List.any_eq_true.mpr ⟨p2.2, List.mem_map.mpr ⟨p2, hpz2, rfl⟩, hin⟩
        · rw [if_neg hin]
          refine wpAny_execs_nil (wpAny_execs_nil ⟨_, _, U₂, hm1, hm2, rfl, hmc, ?_⟩)
          rw [hstep]; exact (Bool.not_eq_true _).mp hin
      · rintro m₂ own₂ s₁₁ ⟨hm1, hm2, rfl, hmc, hat⟩ U
        rw [zRef_len, List.take_of_length_le (by simp)] at hat
        refine wpAny_execs_cons (wpAny_Break ⟨_, _, U, hm1, hm2, rfl, x, tx, hmc, ?_⟩)
        rw [← hpk, hdrop]
        unfold pick
        rw [if_neg (by simp [hat])]; rfl
      · rintro m₂ own₂ s₁₁ ⟨hm1, hm2, rfl, hmc, hat⟩ U
        refine wpAny_execs_nil ⟨_, _, U, hm1, hm2, rfl, fun _ => hmc, ?_⟩
        rw [← hpk, hdrop]
        conv => rhs; unfold pick
        rw [if_pos (by simpa using hat)]
    · rintro m₁ own₁ ⟨hm1, hm2, rfl, hcand, hpk⟩
      refine ⟨hm1, hm2, rfl, .inr ⟨hcand ?_, ?_⟩⟩
      · rw [zRef_len]; exact List.length_pos_iff.mpr hze
      · rw [← hpk, zRef_len, List.drop_of_length_le (by simp)]; rfl
    · rintro m₁ own₁ s₇ ⟨hm1, hm2, rfl, hcase⟩ V
      dsimp only
      rcases hcase with ⟨c, tc, hmc, hpk⟩ | ⟨hmc, hpk⟩
      · refine wpAny_execs_cons (wpAny_If (wpAny_isTrue_Compare1 (nmL V hmc (wpAny_Constant_none (is_int_none (wpAny_truthy_bool ?_))))))
        rw [if_neg (by decide)]
        obtain ⟨rv, hri, V'⟩ := V.openI
        refine wpAny_execs_nil (wpAny_execs_cons (mAppend (nmL V hm1 ⟨res, rv, rfl, V'.at' (.head _), nmL V hmc (appendI V (by omega) fun s₈ V₁ => ⟨rfl, ?_⟩)⟩)))
        have hmem := pick_head _ _ _ hpk (fun s hs => by obtain ⟨p, hp, rfl⟩ := List.mem_map.mp hs; obtain ⟨x, xs, hx⟩ := hne p hp; rw [hx]; simp)
        refine wpAny_execs_cons (wpAny_For (nmL V₁ hm2 (it_list r'.hh V₁ hDA fun I3 s₉ St3 V₂ _ _ _ S3 hst3 => ?_)))
        refine for_srcK S3 V₂ hst3
          (fun i m own => m "result" = some (.ref res) ∧ m "sequences" = some (.ref D) ∧ m "candidate" = some (.int c tc) ∧ own = (res, IsI (os ++ [c])) :: zOwn ((zf.take i).map (fun p => (p.1, dropHead c p.2)) ++ zf.drop i))
          (fun _ _ => False) (fun m own => m "result" = some (.ref res) ∧ m "sequences" = some (.ref D) ∧ own = (res, IsI (os ++ [c])) :: zOwn (zf.map fun p => (p.1, dropHead c p.2))) ⟨hm1, hm2, hmc, rfl⟩ ?_ ?_ (fun _ _ q => q.elim) ?_
        · rintro i v B3 m₂ own₂ s₁₀ hsub hi hP ⟨hm1, hm2, hmc, rfl⟩ U
          obtain ⟨p, hp, rfl⟩ := zRef_at hP
          have hpz := List.mem_of_getElem? hp
          obtain ⟨x, xs, hx⟩ := hne p hpz
          have hil : i < zf.length := (List.getElem?_eq_some_iff.mp hp).1
          have hdrop : zf.drop i = p :: zf.drop (i + 1) := by
            rw [List.drop_eq_getElem_cons hil]
            congr 1
            exact (List.getElem?_eq_some_iff.mp hp).2
          have htake : (zf.take (i + 1)).map (fun p => (p.1, dropHead c p.2)) = (zf.take i).map (fun p => (p.1, dropHead c p.2)) ++ [(p.1, dropHead c p.2)] := by
            rw [List.take_add_one, hp]; simp
          generalize hpre : (zf.take i).map (fun p => (p.1, dropHead c p.2)) = pre at U htake
          rw [hdrop, zOwn_append, zOwn_cons] at U
          have U₁ := U.perm (List.perm_middle (l₁ := (res, IsI (os ++ [c])) :: zOwn pre))
          rw [hx] at U₁
          refine stL U₁ fun s₁₁ U₂ => wpAny_execs_cons (wpAny_If (wpAny_isTrue_Compare1 (Subscript_ (nmL U₂ rfl (wpAny_Constant_int (item0 ((U₂.tok _).at' (.head _)) fun tx => nmL (U₂.tok _) hmc (eq_int (wpAny_truthy_bool ?_))))))))
          have fin : ∀ s₁₂ xs', xs' = dropHead c p.2 → FS s B3 L (fun y => if y = "seq" then some (.ref p.1) else m₂ y) ((p.1, IsI xs') :: ((res, IsI (os ++ [c])) :: zOwn pre ++ zOwn (zf.drop (i + 1)))) s₁₂ →
              ∃ m' own', FS s B3 L m' own' s₁₂ ∧ m' "result" = some (.ref res) ∧ m' "sequences" = some (.ref D) ∧ m' "candidate" = some (.int c tc) ∧ own' = (res, IsI (os ++ [c])) :: zOwn ((zf.take (i + 1)).map (fun p => (p.1, dropHead c p.2)) ++ zf.drop (i + 1)) := fun s₁₂ xs' hxs U₃ => by
            refine ⟨_, _, U₃.perm ?_, hm1, hm2, hmc, rfl⟩
            rw [htake, List.append_assoc, List.singleton_append, zOwn_append, zOwn_cons, hxs]
            exact (List.perm_middle (l₁ := (res, IsI (os ++ [c])) :: zOwn pre)).symm
          by_cases hxc : x = c
          · rw [if_pos (by simpa using hxc)]
            refine wpAny_execs_cons (wpAny_Delete (wpAny_deleteEach_cons (wpAny_delete_Subscript (nmL (U₂.tok _) rfl (wpAny_Constant_int (delHead ((U₂.tok _).tok _) (by have := hrow2 p hpz; rw [hx, List.length_cons] at this; omega) fun s₁₂ U₃ => wpAny_deleteEach_nil ?_))))))
            refine wpAny_execs_nil (wpAny_execs_nil (fin s₁₂ xs ?_ U₃))
            unfold dropHead; rw [hx, hxc]; simp
          · rw [if_neg (by simpa using hxc)]
            refine wpAny_execs_nil (wpAny_execs_nil (fin _ (x :: xs) ?_ (U₂.tok _)))
            unfold dropHead; rw [hx, if_neg (by simpa using hxc)]
        · rintro m₂ own₂ ⟨hm1, hm2, hmc, rfl⟩
          refine ⟨hm1, hm2, ?_⟩
          rw [zRef_len, List.take_length, List.drop_length, List.append_nil]
        · rintro m₂ own₂ s₁₀ ⟨hm1, hm2, rfl⟩ U
          refine wpAny_execs_nil ⟨k, Nat.lt_succ_self _, B2, zf.map fun p => (p.1, dropHead c p.2), os ++ [c], m₂, D, hB2, U, hm1, hm2, ?_, ?_, ?_, ?_, ?_⟩
          · have e : zRef (zf.map fun p => (p.1, dropHead c p.2)) = zRef zf := by unfold zRef; rw [List.map_map]; rfl
            rw [e]; exact hDA
          · rw [← hc3, c3_some (by rw [← ht]; exact htne) (by rw [← ht]; exact hpk), ← ht, Option.map_map, List.map_map, List.map_map]
            congr 1
            funext l
            simp
          · have h1 := drop_lt c (zf.map (·.2)) hmem
            have h2 := full_len (zz.map (·.2))
            rw [← ht] at h2
            have e : (zf.map fun p => (p.1, dropHead c p.2)).map (·.2) = (zf.map (·.2)).map (dropHead c) := by rw [List.map_map, List.map_map]; rfl
            rw [e]; omega
          · rw [List.length_append]; simp only [List.length_cons, List.length_nil]; omega
          · rw [List.length_map]; exact Nat.le_trans hzfs.length_le hzz
      · refine wpAny_execs_cons (wpAny_If (wpAny_isTrue_Compare1 (nmL V hmc (wpAny_Constant_none (is_none_none (wpAny_truthy_bool ?_))))))
        rw [if_pos rfl]
        refine wpAny_execs_cons (Raise_madeB F.excCall_RuntimeError F.excRaise_RuntimeError r'.hh (nmB (V.gd (g.sub hB2)) (gb_RuntimeError w) Boot.«RuntimeError» ⟨rfl, arg1 (wpAny_Constant_str ⟨Nat.le_of_ble_eq_true rfl, fun h' e hx => ?_⟩)⟩))
        have hbz : ∀ b o, b ∉ z.map (·.1) → s.heap.get? b = some o → s₇.heap.get? b = some o := fun b o hb e => V.keep b o (hB2 b o (by rw [← hB]; exact offZ_of hb e))
        have hff' : s₇.heap.FunFrames base₀ outer := funFrames_some hff fun env he b o hf e => hbz b o (hfz env he b hf) e
        obtain ⟨oL, es, ep, hoL, hdL, _⟩ := id V.ns
        have hmemL : L ∈ (callEnvC (fnAt w 28) L 28 :: outer).filterMap (·.frame) := List.mem_filterMap.mpr ⟨_, .head _, rfl⟩
        have hF : s₇.heap.FunFrames (hideAll s₇.heap ((callEnvC (fnAt w 28) L 28 :: outer).filterMap (·.frame))) (callEnvC (fnAt w 28) L 28 :: outer) :=
          ⟨(fun q => by have q' : ScopeKind.function = ScopeKind.module := q; cases q'), ⟨L, oL, rfl, hideAll_none _ hmemL, hoL, fun vs q => by rw [hdL] at q; cases q⟩, funFrames_hide hff' fun env he a hf => List.mem_filterMap.mpr ⟨env, .tail _ he, hf⟩⟩
        refine wpAny_leaves_madeW (h := s₇.heap) hfr' rfl (fun b o q => of_hideAll _ q) hF hx.of fun h'' t x1 x2 x3 x4 => ?_
        refine herr ?_ e t _ ⟨V.same.mk' _ _, ⟨_, _, x1, x2, x3, fun b o hb hbf q => hideAll_get _ (hbz b o hb q) fun hm => ?_⟩, fun b o hb q hnf => x4 b o (hx.keeps b o (hbz b o hb q)) hnf⟩
        · rw [← hc3, c3_none (by rw [← ht]; exact htne) (by rw [← ht]; exact hpk)]; rfl
        · obtain ⟨env, he, hf⟩ := List.mem_filterMap.mp hm
          rcases List.mem_cons.mp he with rfl | he
          · have e : L = b := Option.some.inj hf
            rw [← e, hLn] at q; cases q
          · exact hbf (List.mem_filterMap.mpr ⟨env, he, hf⟩)
end
end Mine

end
section
open PySem PySem.W PyProof.Rows
set_option Elab.async false
set_option maxRecDepth 100000
set_option autoImplicit false
set_option linter.unusedVariables false
set_option maxHeartbeats 4000000
namespace Mine
section
variable {w : World} {A : Around} {E : Value → Shared → Prop} {s : Shared} {env : Env}

theorem callT {f : Str} {T : String} {p pos : Pos} {e : Expr} {rest : List Expr} {Q : Value → Shared → Prop} (g : GdH w s.heap) (en : nsIn (hd.heap_39 w.params) mainGlobals f = some none) (hv : bootBuiltins f = some (.type T))
    (h : wpAny (Md w) A (spliced (backTo pos (starEach (e :: rest) env))) (fun vs s₁ => wpAny (Md w) A (call (.type T) vs) Q E s₁) E s)
    (hn : f ≠ "__name__" := by decide) (he : starEach (e :: rest) env = (false, eval e env) :: starEach rest env := by rfl) (hplain : (backTo pos (starEach rest env)).any (·.1) = false := by rfl)
    (hk : env.scope.kind = .function := by rfl) (hx : env.kindOf f = some .globalImplicit := by rfl) (hg : env.globals = mainGlobals := by rfl) (hb : env.builtins = builtinsNs := by rfl) (hd : (f == ("__debug__" : Str)) = false := by decide) :
    wpAny (Md w) A (eval (.Call (.Name f p) (e :: rest) [] pos) env) Q E s :=
  wpAny_Call_NameR (nmB g en hv (callWith_type1 h he hplain) hn hk hx hg hb hd)

theorem listI {l : Addr} {xs : List Int} {Q : Value → Shared → Prop} (hl : At s.heap l (IsI xs)) (hsz : xs.length ≤ sizeLine)
    (h : ∀ s' a, Same s s' → Ext s.heap s'.heap → s.heap.get? a = none → At s'.heap a (IsI xs) → Q (.ref a) s') : wpAny (Md w) A (call (.type "list") [.ref l]) Q E s := by
  obtain ⟨vs, hi, hv⟩ := atI hl
  obtain ⟨o, ho, hc, n, hd⟩ := hv.list
  refine call_list_seq l (.inl rfl) ho hc hd (fun h' c' hk hD => h _ _ ⟨_, _, rfl⟩ hk ?_ ⟨_, hD, vs, ⟨c', rfl⟩, hi⟩) (by simp only [List.size_toArray]; rw [hi.length]; exact hsz)
  cases e : s.heap.get? s.heap.objs.size with
  | none => rfl
  | some o => exact absurd (Heap.lt_size e) (Nat.lt_irrefl _)

theorem sumI {l : Addr} {xs : List Int} {Q : Value → Shared → Prop} (hh : A.handled = none) (hl : At s.heap l (IsI xs)) (h : ∀ s' N t, Same s s' → Ext s.heap s'.heap → Q (.int N t) s') : wpAny (Md w) A (call (.builtin "sum") [.ref l]) Q E s := by
  obtain ⟨vs, hi, hv⟩ := atI hl
  have hall := hi.allInts
  have hl' := hv.list
  obtain ⟨ys, hys⟩ := hall.items
  rw [hys] at hl'
  exact sum_intListG hh hl' fun h' tk t' hk => h _ _ _ ⟨_, _, rfl⟩ hk

theorem sliceN {value lo : Expr} {p pos : Pos} {k : Nat} {p1 : Pos} {i : Int} {Q : Value → Shared → Prop}
    (h : wpAny (Md w) A (eval value env) (fun o s₁ => ∃ l xs, o = .ref l ∧ (∃ vs : List Value, s₁.heap.IsList l vs.toArray ∧ IntsAre vs xs) ∧ xs.length ≤ 1000 ∧ ∀ s' a ys, ys.length ≤ 1000 → Same s₁ s' → Ext s₁.heap s'.heap → s₁.heap.get? a = none → At s'.heap a (IsI ys) → Q (.ref a) s') E s)
    (ht : ∀ o r, letTemporaryGo value o r = pure () := by intro _ _; rfl) :
    wpAny (Md w) A (eval (.Subscript value (.Slice none (some (.Constant (.int i) k p1)) none p) pos) env) Q E s := by
  have h8 : sizeLine = 16777216 := by decide
  refine wpAny_Subscript_list_slice (wpAny_mono h (fun o s₁ q => ?_) fun _ _ q => q) ht
  obtain ⟨l, xs, rfl, hl, hsz, q⟩ := q
  obtain ⟨vs, hv, hi⟩ := hl
  rw [evalPart_none]
  refine wpAny_pure ?_
  rw [evalPart_some]
  refine wpAny_Constant_int ⟨l, vs.toArray, none, some i, rfl, hv, by simp only [List.size_toArray]; rw [hi.length]; omega, .none, .int _ _, ?_⟩
  have hsl := hi.pick none (some i) none
  have hle := slicePick_size_le vs.toArray none (some i) none
  obtain ⟨n1, e1, _⟩ := newAdd (o := { cls := .type "slice", data := .fields #[.none, .int i s₁.toks, .none] }) rfl (P := fun _ => True) trivial (h₁ := s₁.heap)
  obtain ⟨n2, e2, a2⟩ := newAdd (o := { cls := .type "list", data := .seq (slicePick vs.toArray none (some i) none) }) rfl (P := IsI (pickNums xs none (some i) none)) ⟨_, ⟨0, by simp⟩, hsl⟩ (h₁ := s₁.heap.push { cls := .type "slice", data := .fields #[.none, .int i s₁.toks, .none] })
  rw [Heap.size_push] at n2 a2
  refine q _ (s₁.heap.objs.size + 1) _ ?_ ⟨_, _, rfl⟩ (e1.trans e2) ?_ a2
  · rw [← hsl.length]
    simp only [List.size_toArray] at hle
    rw [hi.length] at hle
    rw [Array.length_toList]; omega
  · cases e : s₁.heap.get? (s₁.heap.objs.size + 1) with
    | none => rfl
    | some o => exact absurd (Heap.lt_size e) (Nat.not_lt.mpr (Nat.le_succ _))

/-- x[e::c] -/
theorem sliceS {value lo : Expr} {p pos : Pos} {k : Nat} {p1 : Pos} {c : Int} {Q : Value → Shared → Prop} (hc : c ≠ 0)
    (h : wpAny (Md w) A (eval value env) (fun o s₁ => wpAny (Md w) A (eval lo env) (fun v s₂ => ∃ l xs i t, o = .ref l ∧ v = .int i t ∧ At s₂.heap l (IsI xs) ∧ xs.length ≤ 1000 ∧ ∀ s' a ys, ys.length ≤ 1000 → Same s₂ s' → Ext s₂.heap s'.heap → s₂.heap.get? a = none → At s'.heap a (IsI ys) → Q (.ref a) s') E s₁) E s)
    (ht : ∀ o r, letTemporaryGo value o r = pure () := by intro _ _; rfl) :
    wpAny (Md w) A (eval (.Subscript value (.Slice (some lo) none (some (.Constant (.int c) k p1)) p) pos) env) Q E s := by
  have h8 : sizeLine = 16777216 := by decide
  refine wpAny_Subscript_Slice_step (T := "list") list_getitem_lookup (wpAny_mono h (fun o s₁ q => wpAny_Slice ?_) fun _ _ q => q) ht
  rw [evalPart_some]
  refine wpAny_mono q (fun v s₂ q => ?_) fun _ _ q => q
  obtain ⟨l, xs, i, t, rfl, rfl, hl, hsz, q⟩ := q
  obtain ⟨vs, hi, hv⟩ := atI hl
  rw [evalPart_none]
  refine wpAny_pure ?_
  rw [evalPart_some]
  have hsl := hi.pick (some i) none (some c)
  have hle := slicePick_size_le vs.toArray (some i) none (some c)
  refine wpAny_Constant_int ⟨(hv.list.push _).typeIs, wpAny_getItem_list_slice (hv.list.push _) (Heap.IsSliceOf.new ..) (.int _ _) .none (.int c s₂.toks) (by simpa using hc) ?_ (by simp only [List.size_toArray]; rw [hi.length]; omega)⟩
  obtain ⟨n1, e1, _⟩ := newAdd (o := { cls := .type "slice", data := .fields #[.int i t, .none, .int c s₂.toks] }) rfl (P := fun _ => True) trivial (h₁ := s₂.heap)
  obtain ⟨n2, e2, a2⟩ := newAdd (o := { cls := .type "list", data := .seq (slicePick vs.toArray (some i) none (some c)) }) rfl (P := IsI (pickNums xs (some i) none (some c))) ⟨_, ⟨0, by simp⟩, hsl⟩ (h₁ := s₂.heap.push { cls := .type "slice", data := .fields #[.int i t, .none, .int c s₂.toks] })
  rw [Heap.size_push] at n2 a2
  show Q (.ref (s₂.heap.push { cls := .type "slice", data := .fields #[.int i t, .none, .int c s₂.toks] }).objs.size) _
  rw [Heap.size_push]
  refine q _ (s₂.heap.objs.size + 1) _ ?_ ⟨_, _, rfl⟩ (e1.trans e2) ?_ a2
  · rw [← hsl.length]
    simp only [List.size_toArray] at hle
    rw [hi.length] at hle
    rw [Array.length_toList]; omega
  · cases e : s₂.heap.get? (s₂.heap.objs.size + 1) with
    | none => rfl
    | some o => exact absurd (Heap.lt_size e) (Nat.not_lt.mpr (Nat.le_succ _))

theorem it_range {s₀ : Shared} {B : Base} {L : Addr} {m : Str → Option Value} {own : Own} {r : Addr} {a b : Int} {t u v : Tok} {n : Nat} {Q : Value → Shared → Prop} (hh : A.handled = none) (X : FS s₀ B L m own s) (hr : IsRange s.heap r a b 1 t u v)
    (hs : Builtin.Range.small a b 1 = true) (hn : Builtin.Range.rangeSize a b 1 = n)
    (h : ∀ I s' St, FS s₀ B L m ((I, fun _ => True) :: own) s' → Src w A B I n (fun i v => ∃ t, v = .int (a + i * 1) t) St → St 0 s'.heap → Q (.ref I) s') :
    wpAny (Md w) A (pyIter (.ref r)) Q E s := by
  refine wpAny_pyIter_range hr hs ?_
  rw [hn]
  refine h _ _ (fun i h => IsRangeIter h s.heap.objs.size (a + (i : Nat) * 1) ((n : Int) - (i : Nat)) 1) (X.push rfl trivial) ⟨⟨[s.heap.objs.size], Walks.range hh _ a 1 n, fun b hb => .inl (List.mem_singleton.mp hb)⟩, fun i h st => ⟨_, st⟩⟩ ?_
  show IsRangeIter _ _ (a + ((0 : Nat) : Int) * 1) ((n : Int) - ((0 : Nat) : Int)) 1
  have e1 : a + ((0 : Nat) : Int) * 1 = a := by simp
  have e2 : (n : Int) - ((0 : Nat) : Int) = n := by simp
  rw [e1, e2]
  exact Heap.get?_push_size _ rfl

theorem range1 {s₀ : Shared} {B : Base} {L : Addr} {m : Str → Option Value} {own : Own} {n : Int} {t : Tok} {Q : Value → Shared → Prop} (X : FS s₀ B L m own s)
    (h : ∀ s' r t u v, FS s₀ B L m own s' → IsRange s'.heap r 0 n 1 t u v → Q (.ref r) s') : wpAny (Md w) A (call (.type "range") [.int n t]) Q E s := by
  refine call_range_1 (h _ _ _ _ _ (X.ext (s' := { s with heap := s.heap.push { cls := .type "range", data := .fields #[.int 0 s.toks, .int n t, .int 1 (s.toks + 1)] }, toks := s.toks + 1 + 1 }) ⟨_, _, rfl⟩ fun b o e => Heap.get?_push_of_some _ e) (IsRange.new ..))
theorem range2 {s₀ : Shared} {B : Base} {L : Addr} {m : Str → Option Value} {own : Own} {a n : Int} {t u : Tok} {Q : Value → Shared → Prop} (X : FS s₀ B L m own s)
    (h : ∀ s' r t u v, FS s₀ B L m own s' → IsRange s'.heap r a n 1 t u v → Q (.ref r) s') : wpAny (Md w) A (call (.type "range") [.int a t, .int n u]) Q E s := by
  refine call_range_2 (h _ _ _ _ _ (X.ext (s' := { s with heap := s.heap.push { cls := .type "range", data := .fields #[.int a t, .int n u, .int 1 s.toks] }, toks := s.toks + 1 }) ⟨_, _, rfl⟩ fun b o e => Heap.get?_push_of_some _ e) (IsRange.new ..))

theorem modI {a b : Int} {t u : Tok} {Q : Value → Shared → Prop} (hb : b ≠ 0) (h : Q (.int (a.fmod b) s.toks) { s with toks := s.toks + 1 }) : wpAny (Md w) A (binaryOp .Mod (.int a t) (.int b u)) Q E s :=
  AutoIntOps.mod_1 (by simpa using hb) h
theorem divI {a b : Int} {t u : Tok} {Q : Value → Shared → Prop} (hb : b ≠ 0) (hb' : b.natAbs < 1000) (h : Q (.int (a.fdiv b) s.toks) { s with toks := s.toks + 1 }) : wpAny (Md w) A (binaryOp .FloorDiv (.int a t) (.int b u)) Q E s := by
  refine AutoIntOps.floordiv_1 (by simpa using hb) ?_ h
  unfold Builtin.divisionGoesByPylong
  have h1 : b.natAbs.log2 < 10 := by
    rw [Nat.log2_lt (by omega)]; omega
  have h2 : ¬ ((if (b == 0) = true then 0 else b.natAbs.log2 / 30 + 1) > 300) := by
    rw [if_neg (by simpa using hb)]; omega
  show ¬ ((decide ((if (b == 0) = true then 0 else b.natAbs.log2 / 30 + 1) > 300) && _) = true)
  rw [decide_eq_false h2]; simp

theorem newDict_FS {s₀ : Shared} {B : Base} {L : Addr} {m : Str → Option Value} {own : Own} {pos : Pos} {Q : Value → Shared → Prop} (X : FS s₀ B L m own s) (g : GdH w s.heap)
    (h : ∀ a s', FS s₀ B L m ((a, IsD w []) :: own) s' → s.heap.get? a = none → (a == sysModules) = false → Q (.ref a) s') : wpAny (Md w) A (eval (.Dict [] [] pos) env) Q E s := by
  have h2 : 2 < s.heap.objs.size := by
    obtain ⟨_, _, _, _, _, T⟩ := g.T
    obtain ⟨mc, ⟨o, _, _, ho, _⟩, _⟩ := T.nolimit
    exact Heap.lt_size ho
  have hdo : IsD w [] { cls := .type "dict", data := .dict #[] } := by
    obtain ⟨o, ho, hd⟩ := Heap.dictOf_iff.mp (Heap.DictOf.new (knd := intKind Challenge.rw_mq0099_01.row.prog w) s.heap)
    rw [Heap.get?_push_size _ rfl] at ho
    exact (Option.some.inj ho) ▸ hd
  refine wpAny_Dict_empty (h _ _ (X.push (o := { cls := .type "dict", data := .dict #[] }) rfl hdo) ?_ ?_)
  · cases e : s.heap.get? s.heap.objs.size with
    | none => rfl
    | some o => exact absurd (Heap.lt_size e) (Nat.lt_irrefl _)
  · rw [beq_eq_false_iff_ne]; show s.heap.objs.size ≠ 1; exact Nat.ne_of_gt (Nat.lt_of_lt_of_le (by decide) (Nat.le_of_lt h2))
end
end Mine

end
section
set_option autoImplicit false
namespace Mine

/-- the names of the levels -/
def nmOf (c : Int) (j : Int) : Int := 255 + (j * c).fmod 7
theorem nm_big (c j : Int) (hc : 1 ≤ c ∧ c ≤ 6) (hj : 1 ≤ j ∧ j ≤ 6) : 256 ≤ nmOf c j := by
  unfold nmOf
  rw [Int.fmod_eq_emod_of_nonneg _ (by decide)]
  have h1 : c = 1 ∨ c = 2 ∨ c = 3 ∨ c = 4 ∨ c = 5 ∨ c = 6 := by omega
  rcases h1 with rfl | rfl | rfl | rfl | rfl | rfl <;> omega
theorem nm_inj (c j k : Int) (hc : 1 ≤ c ∧ c ≤ 6) (hj : 1 ≤ j ∧ j ≤ 6) (hk : 1 ≤ k ∧ k ≤ 6) (h : nmOf c j = nmOf c k) : j = k := by
  unfold nmOf at h
  rw [Int.fmod_eq_emod_of_nonneg _ (by decide), Int.fmod_eq_emod_of_nonneg _ (by decide)] at h
  have h1 : c = 1 ∨ c = 2 ∨ c = 3 ∨ c = 4 ∨ c = 5 ∨ c = 6 := by omega
  rcases h1 with rfl | rfl | rfl | rfl | rfl | rfl <;> omega
theorem mod6 (x : Int) : 0 ≤ x.fmod 6 ∧ x.fmod 6 < 6 := by
  rw [Int.fmod_eq_emod_of_nonneg _ (by decide)]; omega
theorem mod7 (x : Int) : 0 ≤ x.fmod 7 ∧ x.fmod 7 < 7 := by
  rw [Int.fmod_eq_emod_of_nonneg _ (by decide)]; omega

def okSym (c : Int) (y : Int) : Prop := y < 256 ∨ ∃ j, 1 ≤ j ∧ j ≤ 6 ∧ y = nmOf c j
def okRule (c : Int) (ys : List Int) : Prop := ys.length ≤ 3 ∧ ∀ y ∈ ys, okSym c y

theorem gram_of {R : List (Int × List Int)} {c : Int} (hc : 1 ≤ c ∧ c ≤ 6) (hk : keysOf R = (List.range 6).map fun (j : Nat) => nmOf c (1 + (j : Int) * 1)) (hr : ∀ kv ∈ R, okRule c kv.2) : Gram R := by
  have hmem : ∀ j : Int, 1 ≤ j → j ≤ 6 → nmOf c j ∈ keysOf R := fun j h1 h2 => by
    rw [hk]
    refine List.mem_map.mpr ⟨(j - 1).toNat, List.mem_range.mpr (by omega), ?_⟩
    congr 1; omega
  refine ⟨?_, ?_, fun kv h => (hr kv h).1, ?_, ?_⟩
  · rw [hk, List.Nodup, List.pairwise_map]
    refine List.Pairwise.imp_of_mem (R := fun a b : Nat => a ≠ b) ?_ (List.nodup_range (n := 6))
    intro a b ha hb hab h
    rw [List.mem_range] at ha hb
    have := nm_inj c _ _ hc (by omega) (by omega) h
    omega
  · intro k h
    rw [hk] at h
    obtain ⟨j, hj, rfl⟩ := List.mem_map.mp h
    rw [List.mem_range] at hj
    exact nm_big c _ hc (by omega)
  · intro kv h y hy
    rcases (hr kv h).2 y hy with h | ⟨j, h1, h2, rfl⟩
    · exact .inl h
    · exact .inr (hmem j h1 h2)
  · have := congrArg List.length hk
    unfold keysOf at this
    simp at this
    omega
end Mine

end
section
open PySem PySem.W PyProof.Rows
set_option Elab.async false
set_option maxRecDepth 100000
set_option autoImplicit false
set_option linter.unusedVariables false
set_option maxHeartbeats 4000000
namespace Mine

abbrev QL := List (Int × Addr × List Int)
def qKvs (q : QL) : List (Int × Value) := q.map fun e => (e.1, .ref e.2.1)
def qR (q : QL) : List (Int × List Int) := q.map fun e => (e.1, e.2.2)
def qOwn (q : QL) : Own := q.map fun e => (e.2.1, IsI e.2.2)
theorem qFa {B : Base} {q : QL} (h : ∀ e ∈ q, AtB B e.2.1 (IsI e.2.2)) : Fa2 (fun kv r => kv.1 = r.1 ∧ ∃ a, kv.2 = .ref a ∧ LIB B a r.2) (qKvs q) (qR q) := by
  induction q with
  | nil => exact .nil
  | cons p z ih => exact .cons ⟨rfl, _, rfl, LIB.of (h p (.head _))⟩ (ih fun q hq => h q (.tail _ hq))

theorem qAbsent {q : QL} {k : Int} (h : k ∉ q.map (·.1)) : valueAt (qKvs q) k = none := by
  unfold valueAt
  rw [List.find?_eq_none.mpr]
  · rfl
  · intro x hx
    obtain ⟨e, he, rfl⟩ := List.mem_map.mp hx
    simp only [decide_eq_true_eq]
    exact fun e' => h (List.mem_map.mpr ⟨e, he, e'⟩)

theorem ints_snoc {ys : List Value} {f : Nat → Int} {i : Nat} {x : Int} {t : Tok} (h : IntsAre ys ((List.range i).map f)) (hx : x = f i) : IntsAre (ys ++ [.int x t]) ((List.range (i + 1)).map f) := by
  rw [List.range_succ, List.map_append]
  exact IntsAre.append' h (by rw [hx]; exact .cons _ _ .nil)

theorem gb_list (w : World) : nsIn (hd.heap_39 w.params) mainGlobals "list" = some none := by kernel_rfl
theorem gb_sum (w : World) : nsIn (hd.heap_39 w.params) mainGlobals "sum" = some none := by kernel_rfl
theorem gb_range (w : World) : nsIn (hd.heap_39 w.params) mainGlobals "range" = some none := by kernel_rfl
theorem gb_len (w : World) : nsIn (hd.heap_39 w.params) mainGlobals "len" = some none := by kernel_rfl

section
variable {w : World} {A : Around} {E : Value → Shared → Prop} {s : Shared} {env : Env}

theorem itemI {value slice : Expr} {l : Addr} {xs : List Int} {x k : Int} {t : Tok} {Q : Value → Shared → Prop} (hl : At s.heap l (IsI xs)) (h0 : 0 ≤ k) (hk : k < 2 ^ 63) (hx : xs[k.toNat]? = some x) (h : ∀ t, Q (.int x t) s)
    (hs : subscripted slice false (.ref l) (.int k t) = operate [.ref l, .int k t] (getItem (.ref l) (.int k t)) := by rfl) :
    wpAny (Md w) A (subscriptTail value slice (.ref l) (.int k t)) Q E s := by
  obtain ⟨vs, hi, hv⟩ := atI hl
  obtain ⟨u, hu⟩ := hi.get _ _ hx
  exact item_at hv h0 hk hu (h u) hs

theorem newT {s₀ : Shared} {B : Base} {L : Addr} {m : Str → Option Value} {own : Own} {vs : List Value} {Q : Value → Shared → Prop} (X : FS s₀ B L m own s) (hsz : vs.length ≤ sizeLine)
    (h : ∀ a s', FS s₀ B L m ((a, IsT vs) :: own) s' → Q (.ref a) s') : wpAny (Md w) A (newTuple vs) Q E s :=
  wpAny_newObj_type (h _ _ (X.push (o := { cls := .type "tuple", data := .seq vs.toArray }) rfl ⟨rfl, 0, rfl⟩)) (by show vs.toArray.size ≤ sizeLine; rw [List.size_toArray]; exact hsz)

theorem rules_call {sa : Addr} {ns : List Int} {Q : Value → Shared → Prop} (r : Rm A 1 40) (g : GdH w s.heap) (hs : ∃ vs : List Value, s.heap.IsList sa vs.toArray ∧ IntsAre vs ns) (hns : ns.length ≤ 1000)
    (h : ∀ s' d R, Gram R → R.length = 6 → Same s s' → Ext s.heap s'.heap → RulesB w (newOnly s.heap s'.heap) d R → Q (.ref d) s') : wpAny (Md w) A (call (.ref 47) [.ref sa]) Q E s := by
  refine enterN 47 [("script", .ref sa)] (by have := r.dp; omega) g rfl rfl rfl (BindsTo.of_eq rfl) rfl rfl (of_decide_eq_true rfl) fun L s' X => ?_
  have r' : Rm (A.deeper (callEnvC (fnAt w 47) L 47)) 0 37 := r.deeper (callEnvC (fnAt w 47) L 47)
  generalize A.deeper (callEnvC (fnAt w 47) L 47) = A' at r' ⊢
  replace X : FS s s.heap.get? L _ [(L + 1, IsC none)] s' := X
  have G := GdB.of g
  have h8 : sizeLine = 16777216 := by decide
  refine wpAny_execs_cons (wpAny_Assign_Name (callT (X.gd G) (gb_list w) boot_list (arg1 (sliceN (lo := .Constant .none 0 default) (nmL X rfl ⟨sa, ns, rfl, (let ⟨vs, h1, h2⟩ := hs; ⟨vs, h1.at fun o q => X.keep _ _ q, h2⟩), hns, fun s₁ a nums hnl hs1 he1 hn1 ha1 => listI ha1 (by omega) fun s₂ nb hs2 he2 hn2 hb2 => ?_⟩)))))
  have X₁ := (X.ext hs1 he1).add hs2 he2 hn2 hb2
  refine stL X₁ fun s₃ X₂ => ?_
  refine wpAny_execs_cons (wpAny_Assign_Name (callB (X₂.gd G) (gb_sum w) boot_sum (arg1 (nmL X₂ rfl (sumI r'.hh (X₂.at' (.head _)) fun s₄ N tN hs4 he4 => ?_)))))
  refine stC ((X₂.ext hs4 he4).perm (List.Perm.swap _ _ _)) fun s₅ X₃ => ?_
  have hc : 1 ≤ 1 + (N + 2).fmod 6 ∧ 1 + (N + 2).fmod 6 ≤ 6 := by have := mod6 (N + 2); omega
  generalize hcc : 1 + (N + 2).fmod 6 = c at hc
  refine wpAny_execs_cons (comp_exec rfl rfl (callT (X₃.gd G) (gb_range w) boot_range (arg1 (wpAny_Constant_int (range1 (X₃.tok _) fun s₆ ra t u v X₄ hr => it_range (n := 7) r'.hh X₄ hr (by decide) (by decide) fun I s₇ St X₅ S hst => ?_)))))
  refine comp1s S X₅ hst (fun C i ys own => i ≤ 7 ∧ IntsAre ys ((List.range i).map fun (j : Nat) => nmOf c (j : Int)) ∧ own = []) (fun C => ⟨Nat.zero_le _, .nil, rfl⟩) ?_ (by omega) ?_ ?_
  · rintro C i ys own ⟨h1, h2, _⟩
    rw [h2.length]; simp
  · rintro C i v ys B' m' own' s₈ hown hsub' hi' ⟨ti, rfl⟩ ⟨_, hJ, rfl⟩ V
    refine stL V fun s₉ V₁ => wpAny_tests_nil ?_
    rw [if_pos rfl]
    have hval : 255 + ((0 + (i : Int) * 1) * (1 + (N + 2).fmod 6)).fmod 7 = nmOf c (i : Int) := by
      unfold nmOf
      rw [← hcc, Int.zero_add, Int.mul_one]
    have hmul : ∀ b, IntMulOk (0 + (i : Int) * 1) b := fun b => IntMulOk.of_left (by
      have h1 : i = 0 ∨ i = 1 ∨ i = 2 ∨ i = 3 ∨ i = 4 ∨ i = 5 ∨ i = 6 := by omega
      rcases h1 with rfl | rfl | rfl | rfl | rfl | rfl | rfl <;> decide)
    refine wpAny_BinOp (wpAny_Constant_int (wpAny_BinOp (wpAny_BinOp (nmL (V₁.tok _) rfl (wpAny_BinOp (wpAny_Constant_int (wpAny_BinOp (wpAny_BinOp (nmC ((hown _ (.head _)).at V₁.keep) (wpAny_Constant_int (add_int ?_)))))))))))
    refine wpAny_Constant_int (modI (by decide) (add_int (mul_int ?_ (hmul _))))
    refine wpAny_Constant_int (modI (by decide) (add_int ⟨_, _, V₁.tok _, hi', ?_, rfl⟩))
    exact ints_snoc hJ hval
  · rintro C na ys new s₈ ⟨_, hJ, rfl⟩ W
    replace W : FS s s.heap.get? L _ [(na, IsI ((List.range 7).map fun (j : Nat) => nmOf c (j : Int))), (L + 1, IsC (some (.int N tN))), (nb, IsI nums)] s₈ := W.closeI hJ
    refine wpAny_execs_cons (wpAny_Assign_Name (newDict_FS W (W.gd G) fun d s₉ W₁ hdn hsys => stL W₁ fun s₁₀ W₂ => ?_))
    refine wpAny_execs_cons (wpAny_For (callT (W₂.gd G) (gb_range w) boot_range (arg2 (wpAny_Constant_int (wpAny_Constant_int (range2 ((W₂.tok _).tok _) fun s₁₁ ra t u v W₃ hr => it_range (n := 6) r'.hh W₃ hr (by decide) (by decide) fun I s₁₂ St W₄ S hst => ?_))))))
    refine for_src S W₄ hst (fun i m own => m "numbers" = some (.ref nb) ∧ m "names" = some (.ref na) ∧ m "rules" = some (.ref d) ∧ ∃ q : QL, own = (d, IsD w (qKvs q)) :: (na, IsI ((List.range 7).map fun (j : Nat) => nmOf c (j : Int))) :: (L + 1, IsC (some (.int N tN))) :: (nb, IsI nums) :: qOwn q ∧
        q.map (·.1) = (List.range i).map (fun (j : Nat) => nmOf c (1 + (j : Int) * 1)) ∧ ∀ e ∈ q, okRule c e.2.2) (fun _ _ => False) (fun _ _ _ => False) ⟨rfl, rfl, rfl, [], rfl, rfl, fun _ he => by cases he⟩ ?_ ?_ (fun _ _ _ q => q.elim) (fun _ _ _ _ q => q.elim)
    · rintro i v B' m₁ own₁ s₁₃ hsub hi ⟨ti, rfl⟩ ⟨hm1, hm2, hm3, q, rfl, hqk, hqr⟩ Z
      have hnm : ∀ j : Int, 0 ≤ j → j < 7 → ((List.range 7).map fun (j : Nat) => nmOf c (j : Int))[j.toNat]? = some (nmOf c j) := fun j h0 h7 => by
        have e : ((j.toNat : Nat) : Int) = j := by omega
        have h1 : j.toNat < 7 := by omega
        rw [List.getElem?_map, List.getElem?_range h1, Option.map_some, e]
      generalize ((List.range 7).map fun (j : Nat) => nmOf c (j : Int)) = NM at hnm Z
      have GB : GdB w B' := G.sub hsub
      have hi6 : i = 0 ∨ i = 1 ∨ i = 2 ∨ i = 3 ∨ i = 4 ∨ i = 5 := by omega
      refine stL Z fun s₁ Z₁ => ?_
      refine wpAny_execs_cons <| wpAny_Assign_Name <| wpAny_BinOp <| callB (Z₁.gd GB) (gb_sum w) boot_sum <| arg1 <| sliceS (by decide) <| nmL Z₁ hm1 <| wpAny_BinOp <| nmL Z₁ rfl <| wpAny_Constant_int <| sub_int ⟨nb, nums, _, _, rfl, rfl, Z₁.at' (.tail _ (.tail _ (.tail _ (.head _)))), hnl, fun s₂ a ys hyl hs2 he2 hn2 ha2 => sumI r'.hh ha2 fun s₃ N2 t2 hs3 he3 => ?_⟩
      have Z₂ := ((Z₁.tok (s₁.toks + 1 + 1)).ext hs2 he2).ext hs3 he3
      refine Subscript_ <| Tuple_ <| spliced_more <| wpAny_Constant_int <| spliced_more <| wpAny_Constant_int <| spliced_more <| wpAny_Constant_int <| spliced_more <| wpAny_Constant_int <| spliced_more <| wpAny_Constant_int <| spliced_more <| wpAny_Constant_int <| spliced_none <| newT (Z₂.tok _) (Nat.le_of_ble_eq_true rfl) fun ta s₄ Z₃ => ?_
      have hta := Z₃.at' (a := ta) (.head _)
      replace Z₃ := Z₃.tail rfl
      refine wpAny_BinOp <| nmL Z₃ rfl <| wpAny_Constant_int <| sub_int ?_
      obtain ⟨N3, t3, hN3⟩ : ∃ N3 t3, ([.int 13 s₃.toks, .int 25 (s₃.toks + 1), .int 8 (s₃.toks + 1 + 1), .int 17 (s₃.toks + 1 + 1 + 1), .int 19 (s₃.toks + 1 + 1 + 1 + 1), .int 0 (s₃.toks + 1 + 1 + 1 + 1 + 1)] : List Value)[i]? = some (.int N3 t3) := by
        rcases hi6 with rfl | rfl | rfl | rfl | rfl | rfl <;> exact ⟨_, _, rfl⟩
      refine item_tupleT (j := i) (l := [.int 13 s₃.toks, .int 25 (s₃.toks + 1), .int 8 (s₃.toks + 1 + 1), .int 17 (s₃.toks + 1 + 1 + 1), .int 19 (s₃.toks + 1 + 1 + 1 + 1), .int 0 (s₃.toks + 1 + 1 + 1 + 1 + 1)]) hta ?_ ?_ ?_ hN3 ?_
      · omega
      · omega
      · rcases hi6 with rfl | rfl | rfl | rfl | rfl | rfl <;> rfl
      refine add_int <| stL (Z₃.tok _) fun s₅ Z₄ => ?_
      generalize N2 + N3 = M at Z₄
      refine wpAny_execs_cons <| wpAny_Assign_Name <| List_ <| spliced_none <| newL Z₄ (Nat.le_of_ble_eq_true rfl) (fun rl s₆ Z₅ _ _ => stL (Z₅.closeI .nil) fun s₇ Z₆ => ?_) (Z₄.gd GB)
      refine wpAny_execs_cons <| wpAny_For <| Tuple_ <| arg2 <| wpAny_BinOp <| nmL Z₆ rfl <| wpAny_Constant_int <| modI (by decide) <| wpAny_BinOp <| wpAny_BinOp <| nmL (Z₆.tok _) rfl <| wpAny_Constant_int <| divI (by decide) (by decide) <| wpAny_Constant_int <| modI (by decide) <| newT (Z₆.tok _) (Nat.le_of_ble_eq_true rfl) fun tt s₈ Z₇ => ?_
      obtain ⟨ott, hott, httn, _, Zf⟩ := Z₇.freeze
      have httA : AtB (FS.addB B' tt ott) tt (IsT _) := ⟨ott, by unfold FS.addB; rw [if_pos rfl], hott⟩
      have GBf : GdB w (FS.addB B' tt ott) := GB.sub (FS.addB_sub httn)
      have hd1 := mod6 M
      have hd2 := mod6 (M.fdiv 6)
      refine it_tuple r'.hh Zf httA fun I2 s₉ St2 Z₈ _ _ _ S2 hst2 => ?_
      have hdig : ∀ (j : Nat) (v : Value), ([.int (M.fmod 6) (s₇.toks + 1), .int ((M.fdiv 6).fmod 6) (s₇.toks + 1 + 1 + 1 + 1 + 1)] : List Value)[j]? = some v → ∃ dg tg, v = .int dg tg ∧ 0 ≤ dg ∧ dg < 6 := fun j v hv => by
        match j, hv with
        | 0, hv => cases hv; exact ⟨_, _, rfl, hd1⟩
        | 1, hv => cases hv; exact ⟨_, _, rfl, hd2⟩
        | j + 2, hv => simp at hv
      refine for_src S2 Z₈ hst2 (fun j m own => m "numbers" = some (.ref nb) ∧ m "names" = some (.ref na) ∧ m "rules" = some (.ref d) ∧ m "level" = some (.int (1 + (i : Int) * 1) ti) ∧ m "rule" = some (.ref rl) ∧
          ∃ ys, own = (rl, IsI ys) :: (d, IsD w (qKvs q)) :: (na, IsI NM) :: (L + 1, IsC (some (.int N tN))) :: (nb, IsI nums) :: qOwn q ∧ ys.length ≤ j ∧ ∀ y ∈ ys, okSym c y) (fun _ _ => False) (fun _ _ _ => False)
        ⟨hm1, hm2, hm3, rfl, rfl, [], rfl, Nat.le_refl _, fun _ h => by cases h⟩ ?_ ?_ (fun _ _ _ q => q.elim) (fun _ _ _ _ q => q.elim)
      · rintro j v B'' m₂ own₂ s₁₀ hsub2 hj hP ⟨hm1, hm2, hm3, hm4, hm5, ys, rfl, hyl, hys⟩ Y
        obtain ⟨dg, tg, rfl, hdg0, hdg6⟩ := hdig j v hP
        have hj2 : j < 2 := hj
        have snoc : ∀ (y : Int), okSym c y → ∀ z ∈ ys ++ [y], okSym c z := fun y hy z hz => by
          rcases List.mem_append.mp hz with hz | hz
          · exact hys z hz
          · rw [List.mem_singleton.mp hz]; exact hy
        refine stL Y fun s₁₁ Y₁ => wpAny_execs_cons <| wpAny_If <| wpAny_isTrue_Compare1 <| nmL Y₁ rfl <| wpAny_Constant_int <| gt_int <| wpAny_truthy_bool ?_
        replace Y₁ := Y₁.tok (s₁₁.toks + 1)
        obtain ⟨yv, hyi, Yv⟩ := Y₁.openI
        by_cases h3 : dg > 3
        · rw [if_pos (by simpa using h3)]
          refine wpAny_execs_cons <| mAppend <| nmL Y₁ hm5 ⟨rl, yv, rfl, Yv.at' (.head _), wpAny_BinOp <| nmL Y₁ rfl <| wpAny_Constant_int <| sub_int <| appendI (Y₁.tok _) (by omega) fun s₁₂ W => ⟨rfl, wpAny_execs_nil (wpAny_execs_nil ⟨_, _, W, hm1, hm2, hm3, hm4, hm5, _, rfl, ?_, ?_⟩)⟩⟩
          · rw [List.length_append]; simp only [List.length_cons, List.length_nil]; omega
          · exact snoc _ (.inl (by omega))
        · rw [if_neg (by simpa using h3)]
          refine wpAny_execs_cons <| wpAny_If <| wpAny_isTrue_Compare1 <| nmL Y₁ rfl <| wpAny_Constant_int <| gt_int <| wpAny_truthy_bool ?_
          replace Y₁ := Y₁.tok (s₁₁.toks + 1 + 1)
          obtain ⟨yv, hyi, Yv⟩ := Y₁.openI
          by_cases h0 : dg > 0
          · rw [if_pos (by simpa using h0)]
            refine wpAny_execs_cons <| mAppend <| nmL Y₁ hm5 ⟨rl, yv, rfl, Yv.at' (.head _), IfExp_ <| wpAny_isTrue_Compare1 <| wpAny_BinOp <| nmL Y₁ hm4 <| nmL Y₁ rfl <| add_int <| wpAny_Constant_int <| lt_int <| wpAny_truthy_bool ?_⟩
            by_cases h7 : (1 + (i : Int) * 1) + dg < 7
            · rw [if_pos (by simpa using h7)]
              refine Subscript_ <| nmL (Y₁.tok _) hm2 <| wpAny_BinOp <| nmL (Y₁.tok _) hm4 <| nmL (Y₁.tok _) rfl <| add_int <| itemI (Y₁.at' (.tail _ (.tail _ (.head _)))) (by omega) (by omega) (hnm _ (by omega) h7) fun tx => appendI (Y₁.tok _) (by omega) fun s₁₂ W => ⟨rfl, wpAny_execs_nil (wpAny_execs_nil (wpAny_execs_nil ⟨_, _, W, hm1, hm2, hm3, hm4, hm5, _, rfl, ?_, ?_⟩))⟩
              · rw [List.length_append]; simp only [List.length_cons, List.length_nil]; omega
              · exact snoc _ (.inr ⟨_, by omega, by omega, rfl⟩)
            · rw [if_neg (by simpa using h7)]
              refine wpAny_Constant_int <| appendI (Y₁.tok _) (by omega) fun s₁₂ W => ⟨rfl, wpAny_execs_nil (wpAny_execs_nil (wpAny_execs_nil ⟨_, _, W, hm1, hm2, hm3, hm4, hm5, _, rfl, ?_, ?_⟩))⟩
              · rw [List.length_append]; simp only [List.length_cons, List.length_nil]; omega
              · exact snoc _ (.inl (by decide))
          · rw [if_neg (by simpa using h0)]
            exact wpAny_execs_nil (wpAny_execs_nil (wpAny_execs_nil ⟨_, _, Y₁, hm1, hm2, hm3, hm4, hm5, ys, rfl, by omega, hys⟩))
      · rintro m₂ own₂ s₁₀ ⟨hm1, hm2, hm3, hm4, hm5, ys, rfl, hyl, hys⟩ Y
        refine wpAny_execs_nil ?_
        replace Y := (Y.thaw (P := fun _ => True) trivial httn).tail rfl
        have hyl2 : ys.length ≤ 2 := hyl
        refine wpAny_execs_cons (wpAny_mono (Q := fun f s' => f = Flow.next ∧ ∃ ys, FS s B' L m₂ ((rl, IsI ys) :: (d, IsD w (qKvs q)) :: (na, IsI NM) :: (L + 1, IsC (some (.int N tN))) :: (nb, IsI nums) :: qOwn q) s' ∧ okRule c ys) ?_ ?_ fun _ _ q => q)
        · refine wpAny_If <| isTrue_and <| wpAny_isTrue_Compare1 <| wpAny_BinOp <| nmC (Y.at' (.tail _ (.tail _ (.tail _ (.head _))))) <| wpAny_Constant_int <| modI (by decide) <| wpAny_Constant_int <| ne_int <| wpAny_truthy_bool ?_
          by_cases hz : N.fmod 7 = 0
          · rw [if_neg (by simpa using hz), if_neg (by decide)]
            exact wpAny_execs_nil ⟨rfl, ys, Y.tok _, by omega, hys⟩
          · rw [if_pos (by simpa using hz)]
            refine isTrue_and <| wpAny_isTrue_Compare1 <| nmL (Y.tok _) hm4 <| wpAny_BinOp <| wpAny_Constant_int <| wpAny_BinOp <| callB ((Y.tok _).gd GB) (gb_len w) boot_len <| arg1 <| nmL (Y.tok _) hm1 ?_
            obtain ⟨nv, hni, hnv⟩ := atI (Y.at' (a := nb) (.tail _ (.tail _ (.tail _ (.tail _ (.head _))))))
            refine Calls.call_len_list hnv.list (by simp only [List.size_toArray]; rw [hni.length]; omega) ?_
            refine wpAny_Constant_int <| modI (by decide) <| add_int <| eq_int <| wpAny_truthy_bool ?_
            split
            · refine isTrue_and_nil ?_
              rw [if_pos rfl]
              obtain ⟨yv, hyi, Yv⟩ := Y.openI
              have h7 := mod7 N
              refine wpAny_execs_cons <| mAppend <| nmL (Y.tok _) hm5 ⟨rl, yv, rfl, Yv.at' (.head _), Subscript_ <| nmL (Y.tok _) hm2 <| wpAny_BinOp <| nmC (Y.at' (.tail _ (.tail _ (.tail _ (.head _))))) <| wpAny_Constant_int <| modI (by decide) <| itemI (Y.at' (.tail _ (.tail _ (.head _)))) h7.1 (by omega) (hnm _ h7.1 h7.2) fun tx => appendI (Y.tok _) (by omega) fun s₁₂ W => ⟨rfl, wpAny_execs_nil ⟨rfl, _, W, ?_, ?_⟩⟩⟩
              · rw [List.length_append]; simp only [List.length_cons, List.length_nil]; omega
              · intro y hy
                rcases List.mem_append.mp hy with hy | hy
                · exact hys y hy
                · rw [List.mem_singleton.mp hy]; exact .inr ⟨_, by omega, by omega, rfl⟩
            · rw [if_neg (by decide)]
              exact wpAny_execs_nil ⟨rfl, ys, Y.tok _, by omega, hys⟩
        · rintro f s₁₁ ⟨rfl, ys, W, hok⟩
          dsimp only
          have hkey : nmOf c (1 + (i : Int) * 1) ∉ q.map (·.1) := fun hm => by
            rw [hqk] at hm
            obtain ⟨j, hj, e⟩ := List.mem_map.mp hm
            rw [List.mem_range] at hj
            have := nm_inj c _ _ hc (by omega) (by omega) e
            omega
          refine wpAny_execs_cons <| wpAny_Assign_Subscript <| nmL W hm5 <| nmL W hm3 <| Subscript_ <| nmL W hm2 <| nmL W hm4 <| itemI (W.at' (.tail _ (.tail _ (.head _)))) (by omega) (by omega) (hnm _ (by omega) (by omega)) fun tx => ?_
          have W₁ := W.perm (List.Perm.swap _ _ _)
          have hql : (qKvs q).length ≤ 6 := by
            have := congrArg List.length hqk
            unfold qKvs
            rw [List.length_map] at this ⊢
            rw [List.length_map, List.length_range] at this
            omega
          refine wpAny_setItem_pairs (knd := intKind Challenge.rw_mq0099_01.row.prog w) (intKind_is _ _ _ _) (W₁.at' (a := d) (P := IsD w (qKvs q)) (.head _)).dict (fun h' hd' hs' => ?_) (by omega)
          rw [stored_absent (qAbsent hkey)] at hd'
          have W₂ := W₁.upd (t := s₁₁.toks + 1) hs' (Heap.dictOf_iff.mp hd')
          refine wpAny_execs_nil ⟨_, _, W₂.perm ?_, hm1, hm2, hm3, q ++ [(nmOf c (1 + (i : Int) * 1), rl, ys)], rfl, ?_, ?_⟩
          · have e1 : qKvs (q ++ [(nmOf c (1 + (i : Int) * 1), rl, ys)]) = qKvs q ++ [(nmOf c (1 + (i : Int) * 1), .ref rl)] := by unfold qKvs; rw [List.map_append]; rfl
            have e2 : qOwn (q ++ [(nmOf c (1 + (i : Int) * 1), rl, ys)]) = qOwn q ++ [(rl, IsI ys)] := by unfold qOwn; rw [List.map_append]; rfl
            rw [e1, e2]
            refine List.Perm.cons _ ?_
            exact (List.perm_append_singleton (rl, IsI ys) ((na, IsI NM) :: (L + 1, IsC (some (.int N tN))) :: (nb, IsI nums) :: qOwn q)).symm
          · rw [List.map_append, hqk, List.range_succ, List.map_append]; rfl
          · intro e he
            rcases List.mem_append.mp he with he | he
            · exact hqr e he
            · rw [List.mem_singleton.mp he]; exact hok
    · rintro m₁ own₁ s₁₃ ⟨hm1, hm2, hm3, q, rfl, hqk, hqr⟩ Z
      refine wpAny_execs_nil (wpAny_execs_cons (wpAny_Return_some (nmL Z hm3 ?_)))
      have hk : keysOf (qR q) = (List.range 6).map (fun (j : Nat) => nmOf c (1 + (j : Int) * 1)) := by
        rw [← hqk]; unfold keysOf qR; rw [List.map_map]; rfl
      have hgr : Gram (qR q) := gram_of hc hk fun kv hkv => by
        obtain ⟨e, he, rfl⟩ := List.mem_map.mp hkv
        exact hqr e he
      refine h s₁₃ d (qR q) hgr ?_ Z.same Z.keep ⟨qKvs q, Z.newB (.head _), hsys, qFa fun e he => Z.newB (.tail _ (.tail _ (.tail _ (.tail _ (List.mem_map.mpr ⟨e, he, rfl⟩)))))⟩
      have := congrArg List.length hk
      unfold keysOf at this
      simpa using this
end
end Mine

end
section
set_option autoImplicit false
set_option linter.unusedVariables false
namespace Mine

/-- the rows tell the rules -/
structure Inv (R : List (Int × List Int)) (t : List (List Int)) : Prop where
  ch : ∀ s ∈ t, ∀ pre a b post, s = pre ++ a :: b :: post → b ∈ ruleOf R a
  ed : ∀ y c, y ∈ t.flatten → c ∈ ruleOf R y → ∃ s ∈ t, ∃ pre post, s = pre ++ y :: c :: post

theorem anyTail_true {t : List (List Int)} {c : Int} : anyTail t c = true ↔ ∃ s ∈ t, c ∈ s.drop 1 := by
  unfold anyTail
  rw [List.any_eq_true]
  constructor
  · rintro ⟨s, h1, h2⟩
    obtain ⟨x, hx, e⟩ := List.any_eq_true.mp h2
    have e' : x = c := by simpa using e
    exact ⟨s, h1, e' ▸ hx⟩
  · rintro ⟨s, h1, h2⟩
    exact ⟨s, h1, List.any_eq_true.mpr ⟨c, h2, by simp⟩⟩

theorem last_split {α : Type} : ∀ (x : α) (p : List α), ∃ p' a, x :: p = p' ++ [a]
  | x, [] => ⟨[], x, rfl⟩
  | x, y :: p => by
    obtain ⟨p', a, e⟩ := last_split y p
    exact ⟨x :: p', a, by rw [e]; rfl⟩

theorem anyTail_iff {R : List (Int × List Int)} {t : List (List Int)} (I : Inv R t) (c : Int) : anyTail t c = true ↔ ∃ y ∈ t.flatten, c ∈ ruleOf R y := by
  rw [anyTail_true]
  constructor
  · rintro ⟨s, hs, hc⟩
    cases s with
    | nil => cases hc
    | cons x xs =>
      have hc' : c ∈ xs := hc
      obtain ⟨p, q, rfl⟩ := List.append_of_mem hc'
      obtain ⟨p', a, e⟩ := last_split x p
      have e2 : x :: (p ++ c :: q) = p' ++ a :: c :: q := by
        rw [← List.cons_append, e, List.append_assoc]; rfl
      exact ⟨a, List.mem_flatten.mpr ⟨_, hs, by rw [e2]; simp⟩, I.ch _ hs _ _ _ _ e2⟩
  · rintro ⟨y, hy, hc⟩
    obtain ⟨s, hs, pre, post, rfl⟩ := I.ed y c hy hc
    refine ⟨_, hs, ?_⟩
    cases pre with
    | nil => simp
    | cons a b => simp

theorem showOne_mem (acc : List Int) (x z : Int) : z ∈ showOne acc x ↔ z ∈ acc ∨ z = x := by
  unfold showOne
  split
  · rename_i h
    obtain ⟨y, hy, e⟩ := List.any_eq_true.mp h
    have e' : y = x := by simpa using e
    subst e'
    exact ⟨.inl, fun h => h.elim id fun e => e ▸ hy⟩
  · simp
theorem showAll_mem (z : Int) : ∀ (l acc : List Int), z ∈ showAll acc l ↔ z ∈ acc ∨ z ∈ l
  | [], acc => by simp [showAll]
  | x :: l, acc => by
    show z ∈ showAll (showOne acc x) l ↔ _
    rw [showAll_mem z l, showOne_mem, List.mem_cons, or_assoc]
theorem showAll_nodup : ∀ (l acc : List Int), acc.Nodup → (showAll acc l).Nodup
  | [], acc, h => h
  | x :: l, acc, h => by
    refine showAll_nodup l (showOne acc x) ?_
    unfold showOne
    split
    · exact h
    · rename_i hx
      rw [List.nodup_append]
      refine ⟨h, by simp, fun a ha b hb e => hx ?_⟩
      rw [List.mem_singleton.mp hb] at e
      exact List.any_eq_true.mpr ⟨a, ha, by simp [e]⟩
theorem find_showAll (p : Int → Bool) : ∀ (l acc : List Int), (showAll acc l).find? p = (acc ++ l).find? p
  | [], acc => by simp [showAll]
  | x :: l, acc => by
    show (showAll (showOne acc x) l).find? p = _
    rw [find_showAll p l]
    unfold showOne
    split
    · rename_i h
      obtain ⟨y, hy, e⟩ := List.any_eq_true.mp h
      have e' : y = x := by simpa using e
      subst e'
      rw [List.find?_append, List.find?_append, List.find?_cons]
      cases hf : acc.find? p with
      | some z => rfl
      | none =>
        have := List.find?_eq_none.mp hf y hy
        simp only [Option.none_or]
        rw [Bool.not_eq_true] at this
        rw [this]
    · simp
theorem filter_showAll (p : Int → Bool) : ∀ (l acc : List Int), (showAll acc l).filter p = showAll (acc.filter p) (l.filter p)
  | [], acc => by simp [showAll]
  | x :: l, acc => by
    show (showAll (showOne acc x) l).filter p = _
    rw [filter_showAll p l, List.filter_cons]
    cases hp : p x with
    | true =>
      show _ = showAll (showOne (acc.filter p) x) (l.filter p)
      congr 1
      unfold showOne
      by_cases h : acc.any (· == x) = true
      · have h2 : (acc.filter p).any (· == x) = true := by
          obtain ⟨y, hy, e⟩ := List.any_eq_true.mp h
          have e' : y = x := by simpa using e
          subst e'
          exact List.any_eq_true.mpr ⟨y, List.mem_filter.mpr ⟨hy, hp⟩, by simp⟩
        rw [if_pos h, if_pos h2]
      · have h2 : ¬ (acc.filter p).any (· == x) = true := fun h3 => h (by
          obtain ⟨y, hy, e⟩ := List.any_eq_true.mp h3
          exact List.any_eq_true.mpr ⟨y, (List.mem_filter.mp hy).1, e⟩)
        rw [if_neg h, if_neg h2, List.filter_append, List.filter_cons, hp]; rfl
    | false =>
      simp only [Bool.false_eq_true, if_false]
      congr 1
      unfold showOne
      split
      · rfl
      · rw [List.filter_append, List.filter_cons, hp]; simp

theorem pick_find (t : List (List Int)) : ∀ (l : List (List Int)), (∀ s ∈ l, s ∈ t ∧ s ≠ []) → pick t l = l.flatten.find? fun x => !anyTail t x
  | [], _ => rfl
  | s :: r, H => by
    have h1 := H s (.head _)
    cases s with
    | nil => exact absurd rfl h1.2
    | cons x xs =>
      unfold pick
      rw [pick_find t r fun s hs => H s (.tail _ hs)]
      show _ = (x :: (xs ++ r.flatten)).find? _
      rw [List.find?_cons]
      show (if anyTail t x = true then _ else some x) = _
      cases hx : anyTail t x with
      | false => simp
      | true =>
        simp only [if_true, Bool.not_true]
        have hnone : xs.find? (fun x => !anyTail t x) = none := List.find?_eq_none.mpr fun z hz => by
          have : anyTail t z = true := anyTail_true.mpr ⟨_, h1.1, hz⟩
          simp [this]
        rw [List.find?_append, hnone]
        simp

theorem full_flat : ∀ (t : List (List Int)), (fullOnes t).flatten = t.flatten
  | [] => rfl
  | s :: r => by
    have h := full_flat r
    unfold fullOnes at h ⊢
    rw [List.filter_cons]
    cases s with
    | nil => simpa using h
    | cons x xs => simp [h]
theorem Inv.full {R : List (Int × List Int)} {t : List (List Int)} (I : Inv R t) : Inv R (fullOnes t) := by
  refine ⟨fun s hs => I.ch s (List.mem_filter.mp hs).1, fun y c hy hc => ?_⟩
  rw [full_flat] at hy
  obtain ⟨s, hs, pre, post, e⟩ := I.ed y c hy hc
  refine ⟨s, List.mem_filter.mpr ⟨hs, ?_⟩, pre, post, e⟩
  rw [e]; cases pre <;> rfl

theorem dropHead_filter {t : List (List Int)} {c : Int} (h : anyTail t c = false) {s : List Int} (hs : s ∈ t) : dropHead c s = s.filter fun x => x != c := by
  cases s with
  | nil => rfl
  | cons x xs =>
    have hx : c ∉ xs := fun hm => by
      have : anyTail t c = true := anyTail_true.mpr ⟨_, hs, hm⟩
      rw [h] at this; cases this
    have hxs : xs.filter (fun x => x != c) = xs := List.filter_eq_self.mpr fun a ha => by
      simp only [bne_iff_ne]; exact fun e => hx (e ▸ ha)
    unfold dropHead
    rw [List.filter_cons, hxs]
    by_cases e : x = c
    · subst e; simp
    · simp [e]
theorem drop_flat {t : List (List Int)} {c : Int} (h : anyTail t c = false) : (t.map (dropHead c)).flatten = t.flatten.filter fun x => x != c := by
  rw [List.filter_flatten, List.map_congr_left fun s hs => dropHead_filter h hs]
theorem Inv.drop {R : List (Int × List Int)} {t : List (List Int)} (I : Inv R t) {c : Int} (h : anyTail t c = false) : Inv R (t.map (dropHead c)) := by
  refine ⟨fun s hs pre a b post e => ?_, fun y d hy hd => ?_⟩
  · obtain ⟨s', hs', rfl⟩ := List.mem_map.mp hs
    unfold dropHead at e
    split at e
    · cases s' with
      | nil => cases pre <;> cases e
      | cons x xs => exact I.ch _ hs' (x :: pre) a b post (by rw [List.cons_append, ← e]; rfl)
    · exact I.ch _ hs' _ _ _ _ e
  · rw [drop_flat h] at hy
    obtain ⟨hy1, hy2⟩ := List.mem_filter.mp hy
    have hyc : y ≠ c := by simpa using hy2
    obtain ⟨s, hs, pre, post, rfl⟩ := I.ed y d hy1 hd
    refine ⟨_, List.mem_map.mpr ⟨_, hs, rfl⟩, ?_⟩
    unfold dropHead
    split
    · rename_i hh
      cases pre with
      | nil => exact absurd (Option.some.inj hh) hyc
      | cons a p => exact ⟨p, post, rfl⟩
    · exact ⟨pre, post, rfl⟩

theorem preds_nil {R : List (Int × List Int)} {t : List (List Int)} (I : Inv R t) (x : Int) : decide (preds R (showAll [] t.flatten) x = []) = !anyTail t x := by
  have key : preds R (showAll [] t.flatten) x = [] ↔ ¬ anyTail t x = true := by
    rw [anyTail_iff I]
    unfold preds
    rw [List.filter_eq_nil_iff]
    constructor
    · rintro h ⟨y, hy, hx⟩
      exact h y ((showAll_mem y _ _).mpr (.inr hy)) (List.any_eq_true.mpr ⟨x, hx, by simp⟩)
    · intro h y hy h2
      obtain ⟨z, hz, e⟩ := List.any_eq_true.mp h2
      have e' : z = x := by simpa using e
      subst e'
      exact h ⟨y, ((showAll_mem y _ _).mp hy).resolve_left (by simp), hz⟩
  by_cases h : anyTail t x = true
  · rw [decide_eq_false (fun q => key.mp q h), h]; rfl
  · rw [decide_eq_true (key.mpr h)]
    rw [Bool.not_eq_true] at h
    rw [h]; rfl
theorem free_head {R : List (Int × List Int)} {t : List (List Int)} (I : Inv R t) (hne : ∀ s ∈ t, s ≠ []) : (freeOf R (showAll [] t.flatten)).head? = pick t t := by
  unfold freeOf
  rw [List.head?_filter]
  have e : (fun x => decide (preds R (showAll [] t.flatten) x = [])) = fun x => !anyTail t x := funext fun x => preds_nil I x
  rw [e, find_showAll, List.nil_append, pick_find t t fun s hs => ⟨hs, hne s hs⟩]

theorem c3_order {R : List (Int × List Int)} : ∀ (n : Nat) (t : List (List Int)), t.flatten.length ≤ n → Inv R t → c3 n t = orderOf R (showAll [] t.flatten).length (showAll [] t.flatten)
  | 0, t, hn, I => by
    have : t.flatten = [] := List.length_eq_zero_iff.mp (by omega)
    rw [this]; rfl
  | n + 1, t, hn, I => by
    have hf := I.full
    rw [← full_flat t]
    rw [← full_flat t] at hn
    by_cases he : fullOnes t = []
    · rw [c3_done he, he]; rfl
    · have hne := full_ne t
      have hh := free_head hf hne
      have hshow : ∃ y ys, showAll [] (fullOnes t).flatten = y :: ys := by
        cases hq : showAll [] (fullOnes t).flatten with
        | cons y ys => exact ⟨y, ys, rfl⟩
        | nil =>
          exfalso
          cases hft : fullOnes t with
          | nil => exact he hft
          | cons s r =>
            have hs := hne s (by rw [hft]; exact .head _)
            cases s with
            | nil => exact hs rfl
            | cons x xs =>
              have : x ∈ showAll [] (fullOnes t).flatten := (showAll_mem x _ _).mpr (.inr (by rw [hft]; simp))
              rw [hq] at this; cases this
      obtain ⟨y, ys, hy⟩ := hshow
      cases hp : pick (fullOnes t) (fullOnes t) with
      | none =>
        rw [c3_none he hp, hy]
        rw [hy, hp] at hh
        have : freeOf R (y :: ys) = [] := List.head?_eq_none_iff.mp hh
        unfold orderOf
        simp only [List.length_cons, this]
      | some c =>
        rw [c3_some he hp]
        rw [hp] at hh
        have hfree : anyTail (fullOnes t) c = false := by
          have h1 := pick_find (fullOnes t) (fullOnes t) fun s hs => ⟨hs, hne s hs⟩
          rw [hp] at h1
          have h2 := List.find?_some h1.symm
          simpa using h2
        have hlt := drop_lt c (fullOnes t) (pick_head _ _ _ hp hne)
        rw [c3_order n _ (by omega) (hf.drop hfree), drop_flat hfree]
        have hnd := showAll_nodup (fullOnes t).flatten [] (by simp)
        have her : showAll [] ((fullOnes t).flatten.filter fun x => x != c) = (showAll [] (fullOnes t).flatten).erase c := by
          have := filter_showAll (fun x => x != c) (fullOnes t).flatten []
          rw [hnd.erase_eq_filter]
          simpa using this.symm
        rw [her]
        have hcin : c ∈ showAll [] (fullOnes t).flatten := by
          have : c ∈ freeOf R (showAll [] (fullOnes t).flatten) := List.mem_of_mem_head? hh
          exact (List.mem_filter.mp this).1
        have hlen := List.length_erase_of_mem hcin
        rw [hy] at hh hcin hlen ⊢
        cases hfr : freeOf R (y :: ys) with
        | nil => rw [hfr] at hh; cases hh
        | cons z zs =>
          rw [hfr] at hh
          have hz : z = c := Option.some.inj hh
          subst hz
          conv => rhs; unfold orderOf
          simp only [List.length_cons, hfr]
          rw [hlen]
          simp
end Mine

end
section
set_option autoImplicit false
set_option linter.unusedVariables false
namespace Mine

def Chn (R : List (Int × List Int)) : List Int → Prop
  | [] => True
  | [_] => True
  | a :: b :: l => b ∈ ruleOf R a ∧ Chn R (b :: l)
theorem Chn.split {R : List (Int × List Int)} : ∀ (pre : List Int) {a b : Int} {post : List Int}, Chn R (pre ++ a :: b :: post) → b ∈ ruleOf R a
  | [], _, _, _, h => h.1
  | [_], _, _, _, h => Chn.split [] h.2
  | _ :: y :: pre, _, _, _, h => Chn.split (y :: pre) h.2
theorem Chn.snoc {R : List (Int × List Int)} {k c : Int} (hc : c ∈ ruleOf R k) : ∀ (r : List Int), Chn R r → r.getLast? = some k → Chn R (r ++ [c])
  | [], _, h => by cases h
  | [x], _, h => by
    have : x = k := by simpa using h
    subst this
    exact ⟨hc, trivial⟩
  | x :: y :: r, hr, h => ⟨hr.1, Chn.snoc hc (y :: r) hr.2 (by simpa using h)⟩

theorem last_eq {α : Type} {r : List α} {k : α} (h : r.getLast? = some k) : ∃ p, r = p ++ [k] := by
  cases r with
  | nil => cases h
  | cons x xs =>
    obtain ⟨p, a, e⟩ := last_split x xs
    rw [e] at h ⊢
    simp at h
    exact ⟨p, by rw [h]⟩

theorem addSym_chn {R : List (Int × List Int)} {k c : Int} (hc : c ∈ ruleOf R k) : ∀ (xss : List (List Int)), (∀ r ∈ xss, Chn R r) → ∀ r ∈ addSym xss k c, Chn R r
  | [], _, r, hr => by
    simp only [addSym, List.mem_singleton] at hr
    subst hr
    exact ⟨hc, trivial⟩
  | r₀ :: rs, H, r, hr => by
    unfold addSym at hr
    split at hr
    · rename_i hl
      rcases List.mem_cons.mp hr with rfl | hr
      · exact Chn.snoc hc r₀ (H _ (.head _)) hl
      · exact H r (.tail _ hr)
    · rcases List.mem_cons.mp hr with rfl | hr
      · exact H _ (.head _)
      · exact addSym_chn hc rs (fun r h => H r (.tail _ h)) r hr
/-- a row stays, longer perhaps -/
theorem addSym_keeps {k c : Int} : ∀ (xss : List (List Int)) (r : List Int), r ∈ xss → ∃ ext, r ++ ext ∈ addSym xss k c
  | r₀ :: rs, r, hr => by
    unfold addSym
    rcases List.mem_cons.mp hr with rfl | hr
    · split
      · exact ⟨[c], .head _⟩
      · exact ⟨[], by simp⟩
    · split
      · exact ⟨[], by simp [hr]⟩
      · obtain ⟨ext, h⟩ := addSym_keeps rs r hr
        exact ⟨ext, .tail _ h⟩
theorem addSym_new {k c : Int} : ∀ (xss : List (List Int)), ∃ r ∈ addSym xss k c, ∃ pre, r = pre ++ k :: c :: []
  | [] => ⟨_, .head _, [], rfl⟩
  | r₀ :: rs => by
    unfold addSym
    split
    · rename_i h
      obtain ⟨p, rfl⟩ := last_eq h
      exact ⟨_, .head _, p, by simp⟩
    · obtain ⟨r, h1, h2⟩ := addSym_new (k := k) (c := c) rs
      exact ⟨r, .tail _ h1, h2⟩
theorem addSym_elem {k c : Int} (x : Int) : ∀ (xss : List (List Int)), x ∈ (addSym xss k c).flatten → x ∈ xss.flatten ∨ x = k ∨ x = c
  | [], h => by
    simp [addSym] at h; exact .inr h
  | r₀ :: rs, h => by
    unfold addSym at h
    split at h
    · simp only [List.flatten_cons, List.append_assoc, List.mem_append, List.mem_singleton] at h ⊢
      rcases h with h | h | h
      · exact .inl (.inl h)
      · exact .inr (.inr h)
      · exact .inl (.inr h)
    · simp only [List.flatten_cons, List.mem_append] at h ⊢
      rcases h with h | h
      · exact .inl (.inl h)
      · rcases addSym_elem x rs h with h | h
        · exact .inl (.inr h)
        · exact .inr h
theorem addAll_chn {R : List (Int × List Int)} : ∀ (ps : List (Int × Int)) (xss : List (List Int)), (∀ p ∈ ps, p.2 ∈ ruleOf R p.1) → (∀ r ∈ xss, Chn R r) → ∀ r ∈ addAll xss ps, Chn R r
  | [], xss, _, H => H
  | p :: ps, xss, hp, H => addAll_chn ps (addSym xss p.1 p.2) (fun q hq => hp q (.tail _ hq)) (addSym_chn (hp p (.head _)) xss H)
def Edged (xss : List (List Int)) (k c : Int) : Prop := ∃ r ∈ xss, ∃ pre post, r = pre ++ k :: c :: post
theorem Edged.add {xss : List (List Int)} {k c : Int} (h : Edged xss k c) (k' c' : Int) : Edged (addSym xss k' c') k c := by
  obtain ⟨r, hr, pre, post, rfl⟩ := h
  obtain ⟨ext, h⟩ := addSym_keeps (k := k') (c := c') xss _ hr
  exact ⟨_, h, pre, post ++ ext, by simp⟩
theorem Edged.addAll {k c : Int} : ∀ (ps : List (Int × Int)) {xss : List (List Int)}, Edged xss k c → Edged (addAll xss ps) k c
  | [], _, h => h
  | p :: ps, xss, h => Edged.addAll ps (h.add p.1 p.2)
theorem addAll_edge {k c : Int} : ∀ (ps : List (Int × Int)) (xss : List (List Int)), (k, c) ∈ ps → Edged (addAll xss ps) k c
  | p :: ps, xss, h => by
    show Edged (addAll (addSym xss p.1 p.2) ps) k c
    rcases List.mem_cons.mp h with e | h
    · obtain ⟨r, hr, pre, e2⟩ := addSym_new (k := p.1) (c := p.2) xss
      refine Edged.addAll ps ⟨r, hr, pre, [], ?_⟩
      rw [e2, ← e]
    · exact addAll_edge ps _ h
theorem addAll_elem (x : Int) : ∀ (ps : List (Int × Int)) (xss : List (List Int)), x ∈ (addAll xss ps).flatten → x ∈ xss.flatten ∨ ∃ p ∈ ps, x = p.1 ∨ x = p.2
  | [], xss, h => .inl h
  | p :: ps, xss, h => by
    rcases addAll_elem x ps (addSym xss p.1 p.2) h with h | ⟨q, hq, h⟩
    · rcases addSym_elem x xss h with h | h
      · exact .inl h
      · exact .inr ⟨p, .head _, h⟩
    · exact .inr ⟨q, .tail _ hq, h⟩
theorem addAll_first (x : Int) : ∀ (ps : List (Int × Int)) (xss : List (List Int)), x ∈ xss.flatten → x ∈ (addAll xss ps).flatten
  | [], xss, h => h
  | p :: ps, xss, h => by
    refine addAll_first x ps (addSym xss p.1 p.2) ?_
    obtain ⟨r, hr, hx⟩ := List.mem_flatten.mp h
    obtain ⟨ext, h⟩ := addSym_keeps (k := p.1) (c := p.2) xss _ hr
    exact List.mem_flatten.mpr ⟨_, h, List.mem_append.mpr (.inl hx)⟩

theorem pairs_rule {R : List (Int × List Int)} (G : Gram R) {k c : Int} : (k, c) ∈ pairsOf R ↔ k ∈ keysOf R ∧ c ∈ ruleOf R k := by
  unfold pairsOf
  rw [List.mem_flatMap]
  constructor
  · rintro ⟨kv, hkv, h⟩
    obtain ⟨y, hy, e⟩ := List.mem_map.mp h
    cases e
    exact ⟨List.mem_map.mpr ⟨kv, hkv, rfl⟩, by rw [ruleOf_eq G.nd (ys := kv.2) (by exact hkv)]; exact hy⟩
  · rintro ⟨hk, hc⟩
    exact ⟨_, ruleOf_mem hk, List.mem_map.mpr ⟨c, hc, rfl⟩⟩
theorem rule_key {R : List (Int × List Int)} {k c : Int} (h : c ∈ ruleOf R k) : k ∈ keysOf R := by
  unfold ruleOf at h
  cases hf : R.find? fun z => z.1 = k with
  | none => rw [hf] at h; cases h
  | some z =>
    have h1 := List.mem_of_find?_eq_some hf
    have h2 := List.find?_some hf
    simp at h2
    exact List.mem_map.mpr ⟨z, h1, h2⟩
theorem rows_inv {R : List (Int × List Int)} (G : Gram R) : Inv R (rowsOf R) := by
  refine ⟨fun s hs pre a b post e => ?_, fun y c hy hc => ?_⟩
  · have := addAll_chn (R := R) (pairsOf R) (alone (srt (keysOf R))) (fun p hp => ((pairs_rule G).mp (show (p.1, p.2) ∈ pairsOf R from hp)).2) (fun r hr => by
      obtain ⟨k, _, rfl⟩ := List.mem_map.mp hr; trivial) s hs
    rw [e] at this
    exact Chn.split pre this
  · exact addAll_edge (pairsOf R) _ ((pairs_rule G).mpr ⟨rule_key hc, hc⟩)
theorem rows_key {R : List (Int × List Int)} {k : Int} (h : k ∈ keysOf R) : k ∈ (rowsOf R).flatten :=
  addAll_first k _ _ (List.mem_flatten.mpr ⟨[k], List.mem_map.mpr ⟨k, (srt_perm _).mem_iff.mpr h, rfl⟩, .head _⟩)
theorem rows_sym {R : List (Int × List Int)} (G : Gram R) {x : Int} (h : x ∈ (rowsOf R).flatten) : x < 256 ∨ x ∈ keysOf R := by
  rcases addAll_elem x _ _ h with h | ⟨p, hp, h⟩
  · obtain ⟨r, hr, hx⟩ := List.mem_flatten.mp h
    obtain ⟨k, hk, rfl⟩ := List.mem_map.mp hr
    rw [List.mem_singleton.mp hx]
    exact .inr ((srt_perm _).mem_iff.mp hk)
  · obtain ⟨h1, h2⟩ := (pairs_rule G).mp (show (p.1, p.2) ∈ pairsOf R from hp)
    rcases h with rfl | rfl
    · exact .inr h1
    · exact G.sym _ (ruleOf_mem h1) _ h2
theorem flatten_len {k : Nat} : ∀ (l : List (List Int)), (∀ r ∈ l, r.length ≤ k) → l.flatten.length ≤ l.length * k
  | [], _ => by simp
  | r :: l, H => by
    have h1 := flatten_len l fun r h => H r (.tail _ h)
    have h2 := H r (.head _)
    rw [List.flatten_cons, List.length_append, List.length_cons, Nat.succ_mul]; omega
theorem rows_len {R : List (Int × List Int)} (G : Gram R) : (rowsOf R).length ≤ 24 ∧ (rowsOf R).flatten.length ≤ 500 := by
  have h1 := pairsOf_len R G.few
  have h2 := G.len
  have h3 := addAll_len (pairsOf R) (alone (srt (keysOf R)))
  have h4 : (alone (srt (keysOf R))).length = R.length := by
    unfold alone; rw [List.length_map, (srt_perm _).length_eq]; unfold keysOf; rw [List.length_map]
  have h5 := addAll_row (pairsOf R) (alone (srt (keysOf R))) 0 (alone_row _)
  have h6 : (rowsOf R).length ≤ 24 := by unfold rowsOf; omega
  refine ⟨h6, ?_⟩
  have h7 := flatten_len (k := 19) (rowsOf R) fun r hr => by have := (h5 r hr).2; omega
  omega
end Mine

end
section
set_option autoImplicit false
set_option linter.unusedVariables false
namespace Mine

def Topo (R : List (Int × List Int)) : List Int → Prop
  | [] => True
  | x :: l => (∀ y ∈ x :: l, x ∉ ruleOf R y) ∧ Topo R l
theorem order_topo {R : List (Int × List Int)} : ∀ (n : Nat) (shown os : List Int), orderOf R n shown = some os → os.Perm shown ∧ Topo R os
  | n, [], os, h => by
    have : os = [] := by
      unfold orderOf at h
      cases n <;> exact (Option.some.inj h).symm
    subst this
    exact ⟨.nil, trivial⟩
  | 0, y :: ys, os, h => by cases h
  | n + 1, y :: ys, os, h => by
    unfold orderOf at h
    cases hf : freeOf R (y :: ys) with
    | nil => rw [hf] at h; cases h
    | cons x xs =>
      rw [hf] at h
      obtain ⟨os', h1, h2⟩ := Option.map_eq_some_iff.mp h
      subst h2
      have hx : x ∈ freeOf R (y :: ys) := by rw [hf]; exact .head _
      obtain ⟨hxin, hxp⟩ := List.mem_filter.mp hx
      have hxp' : preds R (y :: ys) x = [] := by simpa using hxp
      obtain ⟨hp, ht⟩ := order_topo n _ os' h1
      have hperm : (x :: os').Perm (y :: ys) := (hp.cons x).trans (List.perm_cons_erase hxin).symm
      refine ⟨hperm, fun z hz hxz => ?_, ht⟩
      have hz' := hperm.mem_iff.mp hz
      have h3 := List.filter_eq_nil_iff.mp (show (y :: ys).filter _ = [] from hxp') z hz'
      exact h3 (List.any_eq_true.mpr ⟨x, hxz, by simp⟩)

theorem topo_before {R : List (Int × List Int)} : ∀ (pre : List Int) {x : Int} {l : List Int} {y : Int}, Topo R (pre ++ x :: l) → y ∈ pre → y ∉ ruleOf R x
  | z :: pre, x, l, y, h, hy => by
    rcases List.mem_cons.mp hy with rfl | hy
    · exact h.1 x (by simp)
    · exact topo_before pre h.2 hy
theorem topo_suffix {R : List (Int × List Int)} : ∀ (pre : List Int) {l : List Int}, Topo R (pre ++ l) → Topo R l
  | [], _, h => h
  | _ :: pre, _, h => topo_suffix pre h.2
/-- each symbol of a rule comes later -/
def Later (R : List (Int × List Int)) : List Int → Prop
  | [] => True
  | x :: l => (∀ y ∈ ruleOf R x, y ∈ l) ∧ Later R l
theorem later_of {R : List (Int × List Int)} : ∀ (l pre : List Int), Topo R (pre ++ l) → (∀ x ∈ pre ++ l, ∀ y ∈ ruleOf R x, y ∈ pre ++ l) → Later R l
  | [], _, _, _ => trivial
  | x :: l, pre, ht, hc => by
    refine ⟨fun y hy => ?_, ?_⟩
    · rcases List.mem_append.mp (hc x (by simp) y hy) with h | h
      · exact absurd hy (topo_before pre ht h)
      · rcases List.mem_cons.mp h with rfl | h
        · exact absurd hy ((topo_suffix pre ht).1 y (.head _))
        · exact h
    · exact later_of l (pre ++ [x]) (by simpa using ht) (by simpa using hc)

theorem Fits.mono {R : List (Int × List Int)} {n : Nat} : ∀ {m : Nat} {x : Int}, Fits R n x → n ≤ m → Fits R m x := by
  induction n with
  | zero => intro m x h; exact h.elim
  | succ n ih =>
    intro m x h hle
    cases m with
    | zero => exact absurd hle (by omega)
    | succ m => exact h.imp id fun ⟨h1, h2⟩ => ⟨h1, fun y hy => ih (h2 y hy) (by omega)⟩
def nK (l : List Int) : Nat := (l.filter fun x => decide (256 ≤ x)).length
theorem fits_of {R : List (Int × List Int)} : ∀ (l : List Int), Later R l → (∀ x ∈ l, x < 256 ∨ x ∈ keysOf R) → ∀ x ∈ l, Fits R (1 + nK l) x
  | z :: l, hl, hs, x, hx => by
    have ih := fits_of l hl.2 fun x h => hs x (.tail _ h)
    have hle : nK l ≤ nK (z :: l) := by
      unfold nK; rw [List.filter_cons]; split <;> simp
    rcases List.mem_cons.mp hx with rfl | hx
    · by_cases h : x < 256
      · rw [Nat.add_comm]; exact .inl h
      · have e : 1 + nK (x :: l) = (1 + nK l) + 1 := by
          unfold nK
          rw [List.filter_cons, if_pos (by simp; omega), List.length_cons]; omega
        rw [e]
        exact .inr ⟨(hs x (.head _)).resolve_left h, fun y hy => ih y (hl.1 y hy)⟩
    · exact (ih x hx).mono (by omega)
theorem nodup_len : ∀ (l m : List Int), l.Nodup → (∀ x ∈ l, x ∈ m) → l.length ≤ m.length
  | [], _, _, _ => by simp
  | x :: l, m, hn, hs => by
    have hx := hs x (.head _)
    have hn' := List.nodup_cons.mp hn
    have := nodup_len l (m.erase x) hn'.2 fun y hy => (List.mem_erase_of_ne (fun (e : y = x) => hn'.1 (e ▸ hy))).mpr (hs y (.tail _ hy))
    rw [List.length_erase_of_mem hx] at this
    have hpos := List.length_pos_of_mem hx
    rw [List.length_cons]; omega

theorem word_stable {R : List (Int × List Int)} {n : Nat} : ∀ {m : Nat} {x : Int}, Fits R n x → n ≤ m → word R m x = word R n x := by
  induction n with
  | zero => intro m x h; exact h.elim
  | succ n ih =>
    intro m x h hle
    cases m with
    | zero => exact absurd hle (by omega)
    | succ m =>
      unfold word
      by_cases hx : x < 256
      · rw [if_pos hx, if_pos hx]
      · rw [if_neg hx, if_neg hx]
        obtain ⟨_, h2⟩ := h.resolve_left hx
        unfold List.flatMap
        congr 1
        exact List.map_congr_left fun y hy => ih (h2 y hy) (by omega)

/-- what the order gives -/
structure Good (R : List (Int × List Int)) (os : List Int) : Prop where
  nd : os.Nodup
  later : Later R os
  topo : Topo R os
  sym : ∀ x ∈ os, x < 256 ∨ x ∈ keysOf R
  key : ∀ k ∈ keysOf R, k ∈ os
  fits : ∀ x ∈ os, Fits R 7 x
  len : os.length ≤ 500
  nk : nK os ≤ 6
theorem good_of {R : List (Int × List Int)} (G : Gram R) {os : List Int} (h : orderOf R (showAll [] (rowsOf R).flatten).length (showAll [] (rowsOf R).flatten) = some os) : Good R os := by
  obtain ⟨hp, ht⟩ := order_topo _ _ _ h
  have hmem : ∀ x, x ∈ os ↔ x ∈ (rowsOf R).flatten := fun x => by
    rw [hp.mem_iff, showAll_mem]; simp
  have hnd : os.Nodup := hp.nodup_iff.mpr (showAll_nodup _ _ (by simp))
  have hsym : ∀ x ∈ os, x < 256 ∨ x ∈ keysOf R := fun x hx => rows_sym G ((hmem x).mp hx)
  have hlater : Later R os := later_of os [] ht fun x hx y hy => by
    rw [List.nil_append] at hx ⊢
    obtain ⟨s, hs, pre, post, e⟩ := (rows_inv G).ed x y ((hmem x).mp hx) hy
    exact (hmem y).mpr (List.mem_flatten.mpr ⟨s, hs, by rw [e]; simp⟩)
  have hnk : nK os ≤ 6 := by
    unfold nK
    refine Nat.le_trans (nodup_len _ (keysOf R) (hnd.filter _) fun x hx => ?_) (by unfold keysOf; rw [List.length_map]; exact G.len)
    obtain ⟨h1, h2⟩ := List.mem_filter.mp hx
    have h2' : 256 ≤ x := by simpa using h2
    exact (hsym x h1).resolve_left (by omega)
  refine ⟨hnd, hlater, ht, hsym, fun k hk => (hmem k).mpr (rows_key hk), fun x hx => (fits_of os hlater hsym x hx).mono (by omega), ?_, hnk⟩
  rw [hp.length_eq]
  have h1 := (rows_len G).2
  have h2 : ∀ (l acc : List Int), (showAll acc l).length ≤ acc.length + l.length := fun l => by
    induction l with
    | nil => intro acc; simp [showAll]
    | cons x l ih =>
      intro acc
      have h3 := ih (showOne acc x)
      have h4 : (showOne acc x).length ≤ acc.length + 1 := by unfold showOne; split <;> simp
      show (showAll (showOne acc x) l).length ≤ _
      rw [List.length_cons]; omega
  have := h2 (rowsOf R).flatten []
  simp only [List.length_nil] at this
  omega

theorem word_rule {R : List (Int × List Int)} {os : List Int} (O : Good R os) {x : Int} (hx : x ∈ os) (hk : ¬ x < 256) : word R 7 x = (ruleOf R x).flatMap (word R 7) := by
  have hf := O.fits x hx
  obtain ⟨_, h2⟩ := hf.resolve_left hk
  conv => lhs; unfold word
  rw [if_neg hk]
  unfold List.flatMap
  congr 1
  exact List.map_congr_left fun y hy => (word_stable (n := 6) (m := 7) (h2 y hy) (by decide)).symm
theorem word_term {R : List (Int × List Int)} {x : Int} (hx : x < 256) : word R 7 x = [x] := by
  unfold word; rw [if_pos hx]
end Mine

end
section
set_option autoImplicit false
set_option linter.unusedVariables false
namespace Mine

def tolds (R : List (Int × List Int)) (ks row : List Int) : List Int := ks.foldl (fun row k => expand R k row) row
def nonT (os : List Int) : List Int := os.filter fun x => decide (256 ≤ x)

theorem expand_words {R : List (Int × List Int)} {os : List Int} (O : Good R os) {k : Int} (hk : k ∈ os) (hb : ¬ k < 256) (row : List Int) : (expand R k row).flatMap (word R 7) = row.flatMap (word R 7) := by
  unfold expand
  rw [List.flatMap_assoc]
  unfold List.flatMap
  congr 1
  refine List.map_congr_left fun x _ => ?_
  split
  · rename_i e
    rw [e, word_rule O hk hb]; rfl
  · simp
theorem tolds_words {R : List (Int × List Int)} {os : List Int} (O : Good R os) : ∀ (ks : List Int) (row : List Int), (∀ k ∈ ks, k ∈ os ∧ ¬ k < 256) → (tolds R ks row).flatMap (word R 7) = row.flatMap (word R 7)
  | [], _, _ => rfl
  | k :: ks, row, h => by
    show (tolds R ks (expand R k row)).flatMap (word R 7) = _
    rw [tolds_words O ks _ fun q hq => h q (.tail _ hq), expand_words O (h k (.head _)).1 (h k (.head _)).2]
theorem tolds_term {R : List (Int × List Int)} : ∀ (l row : List Int), Later R l → (∀ x ∈ row, x < 256 ∨ x ∈ l) → ∀ x ∈ tolds R (nonT l) row, x < 256
  | [], row, _, h, x, hx => (h x hx).resolve_right (by simp)
  | k :: l, row, hl, h, x, hx => by
    unfold nonT at hx
    rw [List.filter_cons] at hx
    split at hx
    · rename_i hk
      refine tolds_term l (expand R k row) hl.2 (fun z hz => ?_) x hx
      unfold expand at hz
      obtain ⟨y, hy, hz⟩ := List.mem_flatMap.mp hz
      split at hz
      · exact .inr (hl.1 z hz)
      · rename_i hne
        rw [List.mem_singleton.mp hz]
        rcases h y hy with h | h
        · exact .inl h
        · exact .inr ((List.mem_cons.mp h).resolve_left hne)
    · rename_i hk
      have hk' : k < 256 := by simp at hk; omega
      refine tolds_term l row hl.2 (fun z hz => ?_) x hx
      rcases h z hz with h | h
      · exact .inl h
      · rcases List.mem_cons.mp h with rfl | h
        · exact .inl hk'
        · exact .inr h
theorem flatMap_term {R : List (Int × List Int)} : ∀ (l : List Int), (∀ x ∈ l, x < 256) → l.flatMap (word R 7) = l
  | [], _ => rfl
  | x :: l, h => by
    rw [List.flatMap_cons, word_term (h x (.head _)), flatMap_term l fun y hy => h y (.tail _ hy)]; rfl
theorem nonT_ok {R : List (Int × List Int)} {os : List Int} (O : Good R os) : ∀ k ∈ nonT os, k ∈ os ∧ ¬ k < 256 := fun k hk => by
  obtain ⟨h1, h2⟩ := List.mem_filter.mp hk
  have : 256 ≤ k := by simpa using h2
  exact ⟨h1, by omega⟩
theorem told_all {R : List (Int × List Int)} {os : List Int} (O : Good R os) : ∀ x ∈ tolds R (nonT os) (srt (keysOf R)), x < 256 :=
  tolds_term os _ O.later fun x hx => .inr (O.key x ((srt_perm _).mem_iff.mp hx))
theorem told_eq {R : List (Int × List Int)} {os : List Int} (O : Good R os) : tolds R (nonT os) (srt (keysOf R)) = (srt (keysOf R)).flatMap (word R 7) := by
  rw [← tolds_words O (nonT os) _ (nonT_ok O), flatMap_term _ (told_all O)]
theorem expand_len {R : List (Int × List Int)} (G : Gram R) (k : Int) (row : List Int) : (expand R k row).length ≤ 3 * row.length := by
  have := flatMap_len (fun x => if x = k then ruleOf R k else [x]) 3 row fun x _ => by
    split
    · exact ruleOf_len G k
    · simp
  unfold expand; omega
theorem tolds_len {R : List (Int × List Int)} (G : Gram R) : ∀ (ks row : List Int), (tolds R ks row).length ≤ 3 ^ ks.length * row.length
  | [], row => by simp [tolds]
  | k :: ks, row => by
    have h1 := tolds_len G ks (expand R k row)
    have h2 := expand_len G k row
    show (tolds R ks (expand R k row)).length ≤ _
    rw [List.length_cons, Nat.pow_succ]
    calc _ ≤ 3 ^ ks.length * (expand R k row).length := h1
      _ ≤ 3 ^ ks.length * (3 * row.length) := Nat.mul_le_mul_left _ h2
      _ = 3 ^ ks.length * 3 * row.length := by rw [Nat.mul_assoc]
theorem keys_len {R : List (Int × List Int)} (G : Gram R) : (srt (keysOf R)).length ≤ 6 := by
  rw [(srt_perm _).length_eq]; unfold keysOf; rw [List.length_map]; exact G.len
theorem tolds_small {R : List (Int × List Int)} {os : List Int} (G : Gram R) (O : Good R os) (i : Nat) : (tolds R ((nonT os).take i) (srt (keysOf R))).length ≤ 100000 := by
  have h1 := tolds_len G ((nonT os).take i) (srt (keysOf R))
  have h2 : ((nonT os).take i).length ≤ 6 := Nat.le_trans (List.length_take_le' _ _) O.nk
  have h3 : 3 ^ ((nonT os).take i).length ≤ 3 ^ 6 := Nat.pow_le_pow_right (by decide) h2
  have h4 := keys_len G
  have h5 : 3 ^ ((nonT os).take i).length * (srt (keysOf R)).length ≤ 3 ^ 6 * 6 := Nat.mul_le_mul h3 h4
  have h6 : (3 : Nat) ^ 6 * 6 = 4374 := by decide
  omega
theorem tolds_step {R : List (Int × List Int)} {ks row : List Int} {i : Nat} {k : Int} (h : ks[i]? = some k) : tolds R (ks.take (i + 1)) row = expand R k (tolds R (ks.take i) row) := by
  unfold tolds
  rw [List.take_add_one, h, List.foldl_append]; rfl

/-- the table of a suffix of the order -/
def tabOf (R : List (Int × List Int)) : List Int → List (Int × List Int)
  | [] => []
  | x :: l => tabOf R l ++ [(x, laid R (tabOf R l) x)]
theorem tab_keys (R : List (Int × List Int)) : ∀ (l : List Int), keysOf (tabOf R l) = l.reverse
  | [] => rfl
  | x :: l => by
    unfold tabOf keysOf
    rw [List.map_append, List.reverse_cons]
    have := tab_keys R l
    unfold keysOf at this
    rw [this]; rfl
theorem ruleOf_append_old {T : List (Int × List Int)} {x z : Int} {ys : List Int} (h : z ∈ keysOf T) : ruleOf (T ++ [(x, ys)]) z = ruleOf T z := by
  unfold ruleOf
  rw [List.find?_append]
  cases hf : T.find? fun kv => kv.1 = z with
  | some q => rfl
  | none =>
    obtain ⟨kv, hkv, e⟩ := List.mem_map.mp h
    have := List.find?_eq_none.mp hf kv hkv
    simp [e] at this
theorem ruleOf_append_new {T : List (Int × List Int)} {x : Int} {ys : List Int} (h : x ∉ keysOf T) : ruleOf (T ++ [(x, ys)]) x = ys := by
  unfold ruleOf
  rw [List.find?_append, List.find?_eq_none.mpr]
  · simp
  · intro kv hkv
    simp only [decide_eq_true_eq]
    exact fun e => h (List.mem_map.mpr ⟨kv, hkv, e⟩)
theorem tab_words {R : List (Int × List Int)} {os : List Int} (O : Good R os) : ∀ (l : List Int), (∀ x ∈ l, x ∈ os) → l.Nodup → Later R l → ∀ x ∈ l, ruleOf (tabOf R l) x = word R 7 x
  | k :: l, hs, hn, hl, x, hx => by
    have hn' := List.nodup_cons.mp hn
    have ih := tab_words O l (fun x h => hs x (.tail _ h)) hn'.2 hl.2
    unfold tabOf
    rcases List.mem_cons.mp hx with rfl | hx
    · rw [ruleOf_append_new (by rw [tab_keys, List.mem_reverse]; exact hn'.1)]
      unfold laid
      by_cases hk : x < 256
      · rw [if_pos hk, word_term hk]
      · rw [if_neg hk, word_rule O (hs x (.head _)) hk]
        unfold List.flatMap
        congr 1
        exact List.map_congr_left fun y hy => ih y (hl.1 y hy)
    · rw [ruleOf_append_old (by rw [tab_keys, List.mem_reverse]; exact hx)]
      exact ih x hx
theorem later_drop {R : List (Int × List Int)} : ∀ (n : Nat) (l : List Int), Later R l → Later R (l.drop n)
  | 0, _, h => h
  | _ + 1, [], _ => trivial
  | n + 1, _ :: l, h => later_drop n l h.2
theorem tab_final {R : List (Int × List Int)} {os : List Int} (O : Good R os) : (srt (keysOf R)).flatMap (ruleOf (tabOf R os)) = (srt (keysOf R)).flatMap (word R 7) := by
  unfold List.flatMap
  congr 1
  exact List.map_congr_left fun y hy => tab_words O os (fun _ h => h) O.nd O.later y (O.key y ((srt_perm _).mem_iff.mp hy))
theorem tab_small {R : List (Int × List Int)} {os : List Int} (G : Gram R) (O : Good R os) (n : Nat) (x : Int) : (ruleOf (tabOf R (os.drop n)) x).length ≤ 100000 := by
  by_cases hx : x ∈ os.drop n
  · rw [tab_words O (os.drop n) (fun _ h => List.mem_of_mem_drop h) (O.nd.sublist (List.drop_sublist _ _)) (later_drop n os O.later) x hx]
    have := word_len G 7 x
    have h7 : (3 : Nat) ^ 7 = 2187 := by decide
    omega
  · have hk : x ∉ keysOf (tabOf R (os.drop n)) := by rw [tab_keys, List.mem_reverse]; exact hx
    have : ruleOf (tabOf R (os.drop n)) x = [] := by
      cases h : ruleOf (tabOf R (os.drop n)) x with
      | nil => rfl
      | cons y ys => exact absurd (rule_key (show y ∈ ruleOf (tabOf R (os.drop n)) x by rw [h]; exact .head _)) hk
    rw [this]; simp
theorem words_small {R : List (Int × List Int)} (G : Gram R) : ∀ (l : List Int), (l.flatMap (word R 7)).length ≤ l.length * 2187 := fun l => flatMap_len (word R 7) 2187 l fun x _ => word_len G 7 x
end Mine

end
section
open PySem PySem.W PyProof.Rows
set_option Elab.async false
set_option maxRecDepth 100000
set_option autoImplicit false
set_option linter.unusedVariables false
set_option maxHeartbeats 4000000
namespace Mine

def joinB (B N : Base) : Base := fun b => match B b with | some o => some o | none => N b
theorem joinB_l {B N : Base} {b : Addr} {o : Obj} (e : B b = some o) : joinB B N b = some o := by unfold joinB; rw [e]
theorem joinB_cases {B N : Base} {b : Addr} {o : Obj} (e : joinB B N b = some o) : B b = some o ∨ (B b = none ∧ N b = some o) := by
  unfold joinB at e
  cases h : B b with
  | some x => rw [h] at e; exact .inl e
  | none => rw [h] at e; exact .inr ⟨rfl, e⟩
theorem newOnly_some {h h' : Heap} {b : Addr} {o : Obj} (e : newOnly h h' b = some o) : h.get? b = none ∧ h'.get? b = some o := by
  unfold newOnly at e; split at e
  · rename_i q; exact ⟨q, e⟩
  · cases e
theorem joinB_r {B : Base} {h h' : Heap} (k : ∀ b o, B b = some o → h.get? b = some o) {b : Addr} {o : Obj} (e : newOnly h h' b = some o) : joinB B (newOnly h h') b = some o := by
  unfold joinB
  cases q : B b with
  | none => exact e
  | some x => have := (newOnly_some e).1; rw [k b x q] at this; cases this
theorem join_grown {B : Base} {h h' : Heap} (k : ∀ b o, B b = some o → h'.get? b = some o) : Grown B (joinB B (newOnly h h')) h h' :=
  ⟨fun b o e => joinB_l e, fun b o e => (joinB_cases e).elim (fun e => ⟨k b o e, .inl e⟩) fun e => ⟨(newOnly_some e.2).2, .inr (newOnly_some e.2).1⟩⟩
theorem FS.join {s₀ s s' : Shared} {B : Base} {L : Addr} {m : Str → Option Value} {own : Own} (X : FS s₀ B L m own s) (hs : Same s s') (e : Ext s.heap s'.heap) : FS s₀ (joinB B (newOnly s.heap s'.heap)) L m own s' :=
  X.grown hs e (join_grown fun b o q => e b o (X.keep b o q))
theorem FS.fresh_new {s s' : Shared} {a : Addr} {P : Obj → Prop} (hn : s.heap.get? a = none) (ha : At s'.heap a P) : AtB (newOnly s.heap s'.heap) a P := by
  obtain ⟨o, ho, hP⟩ := ha
  exact ⟨o, by unfold newOnly; rw [if_pos hn]; exact ho, hP⟩

/-- the same, one owned object being turned by the call -/
theorem FS.joinT {s₀ s s' : Shared} {B : Base} {L t : Addr} {m : Str → Option Value} {own : Own} {P P' : Obj → Prop} (X : FS s₀ B L m ((t, P) :: own) s) (hs : Same s s') (e : ∀ b o, b ≠ t → s.heap.get? b = some o → s'.heap.get? b = some o) (ht : At s'.heap t P') :
    FS s₀ (joinB B (newOnly s.heap s'.heap)) L m ((t, P') :: own) s' := by
  have hT := X.own' (t, P) (.head _)
  have hne : ∀ p ∈ own, p.1 ≠ t := fun p hp q => (List.nodup_cons.mp X.nd).1 (List.mem_map.mpr ⟨p, hp, q⟩)
  have hn : ∀ b, B b = none → (∃ o, s.heap.get? b = some o) → joinB B (newOnly s.heap s'.heap) b = none := fun b h1 ⟨o, h2⟩ => by
    cases q : joinB B (newOnly s.heap s'.heap) b with
    | none => rfl
    | some x =>
      rcases joinB_cases q with q | ⟨_, q⟩
      · rw [h1] at q; cases q
      · have := (newOnly_some q).1; rw [h2] at this; cases this
  obtain ⟨oL, es, ep, hoL, rL⟩ := X.ns
  refine ⟨X.same.trans hs, ⟨oL, es, ep, e L oL (Ne.symm hT.1) hoL, rL⟩, fun b o q => ?_, hn L X.hL ⟨oL, hoL⟩, fun p hp => ?_, X.nd⟩
  · rcases joinB_cases q with q | ⟨_, q⟩
    · refine e b o (fun h => ?_) (X.keep b o q)
      rw [h, hT.2.1] at q; cases q
    · exact (newOnly_some q).2
  · rcases List.mem_cons.mp hp with rfl | hp
    · obtain ⟨o, ho, _⟩ := hT.2.2
      exact ⟨hT.1, hn t hT.2.1 ⟨o, ho⟩, ht⟩
    · have Z := X.own' p (.tail _ hp)
      obtain ⟨o, ho, hP⟩ := Z.2.2
      exact ⟨Z.1, hn _ Z.2.1 ⟨o, ho⟩, o, e _ o (hne p hp) ho, hP⟩

/-- some owned objects are given up -/
theorem FS.lose {s₀ s s' : Shared} {B : Base} {L : Addr} {m : Str → Option Value} {zs own : Own} (X : FS s₀ B L m (zs ++ own) s) (hs : Same s s') (e : ∀ b o, b ∉ zs.map (·.1) → s.heap.get? b = some o → s'.heap.get? b = some o) : FS s₀ B L m own s' := by
  have hz : ∀ p ∈ zs, p.1 ≠ L ∧ B p.1 = none := fun p hp => ⟨(X.own' p (List.mem_append.mpr (.inl hp))).1, (X.own' p (List.mem_append.mpr (.inl hp))).2.1⟩
  have hL : L ∉ zs.map (·.1) := fun h => by
    obtain ⟨p, hp, q⟩ := List.mem_map.mp h
    exact (hz p hp).1 q
  have hnd := X.nd
  rw [List.map_append, List.nodup_append] at hnd
  obtain ⟨oL, es, ep, hoL, rL⟩ := X.ns
  refine ⟨X.same.trans hs, ⟨oL, es, ep, e L oL hL hoL, rL⟩, fun b o q => e b o (fun h => ?_) (X.keep b o q), X.hL, fun p hp => ?_, hnd.2.1⟩
  · obtain ⟨p, hp, r⟩ := List.mem_map.mp h
    have := (hz p hp).2
    rw [r, q] at this; cases this
  · have Z := X.own' p (List.mem_append.mpr (.inr hp))
    obtain ⟨o, ho, hP⟩ := Z.2.2
    refine ⟨Z.1, Z.2.1, o, e _ o (fun h => ?_) ho, hP⟩
    exact hnd.2.2 _ h _ (List.mem_map.mpr ⟨p, hp, rfl⟩) rfl

section
variable {w : World} {A : Around} {E : Value → Shared → Prop} {s : Shared} {env : Env}
theorem arg3 {e f i : Expr} {pos : Pos} {Q : List Value → Shared → Prop} (h : wpAny (Md w) A (eval e env) (fun v s₁ => wpAny (Md w) A (eval f env) (fun u s₂ => wpAny (Md w) A (eval i env) (fun x s₃ => Q [v, u, x] s₃) E s₂) E s₁) E s)
    (he : starEach [e, f, i] env = (false, eval e env) :: starEach [f, i] env := by rfl) (hf : starEach [f, i] env = (false, eval f env) :: starEach [i] env := by rfl) (hi : starEach [i] env = (false, eval i env) :: starEach [] env := by rfl) :
    wpAny (Md w) A (spliced (backTo pos (starEach [e, f, i] env))) Q E s := spliced_more (wpAny_mono h (fun _ _ q => arg2 q hf hi) fun _ _ q => q) he

/-- x[::-1] -/
theorem sliceR {value : Expr} {p pos p1 p2 : Pos} {k : Nat} {Q : Value → Shared → Prop}
    (h : wpAny (Md w) A (eval value env) (fun o s₂ => ∃ l xs, o = .ref l ∧ At s₂.heap l (IsI xs) ∧ xs.length ≤ 1000 ∧ ∀ s' a, Same s₂ s' → Ext s₂.heap s'.heap → s₂.heap.get? a = none → At s'.heap a (IsI xs.reverse) → Q (.ref a) s') E s)
    (ht : ∀ o r, letTemporaryGo value o r = pure () := by intro _ _; rfl) :
    wpAny (Md w) A (eval (.Subscript value (.Slice none none (some (.UnaryOp .USub (.Constant (.int 1) k p1) p2)) p) pos) env) Q E s := by
  have h8 : sizeLine = 16777216 := by decide
  refine wpAny_Subscript_Slice_step (T := "list") list_getitem_lookup (wpAny_mono h (fun o s₂ q => wpAny_Slice ?_) fun _ _ q => q) ht
  obtain ⟨l, xs, rfl, hl, hsz, q⟩ := q
  obtain ⟨vs, hi, hv⟩ := atI hl
  rw [evalPart_none]
  refine wpAny_pure ?_
  refine wpAny_pure ?_
  rw [evalPart_some]
  have hsl : IntsAre (slicePick vs.toArray none none (some (-1))).toList xs.reverse := by
    rw [krv_pick]
    exact IntsAre.reverse hi
  refine UnaryOp_ <| wpAny_Constant_int <| neg_int ⟨(hv.list.push _).typeIs, wpAny_getItem_list_slice (hv.list.push _) (Heap.IsSliceOf.new ..) .none .none (.int (-1) _) (by decide) ?_ (by simp only [List.size_toArray]; rw [hi.length]; omega)⟩
  obtain ⟨n1, e1, _⟩ := newAdd (o := { cls := .type "slice", data := .fields #[.none, .none, .int (-1) (s₂.toks + 1)] }) rfl (P := fun _ => True) trivial (h₁ := s₂.heap)
  obtain ⟨n2, e2, a2⟩ := newAdd (o := { cls := .type "list", data := .seq (slicePick vs.toArray none none (some (-1))) }) rfl (P := IsI xs.reverse) ⟨_, ⟨0, by simp⟩, hsl⟩ (h₁ := s₂.heap.push { cls := .type "slice", data := .fields #[.none, .none, .int (-1) (s₂.toks + 1)] })
  rw [Heap.size_push] at n2 a2
  show Q (.ref (s₂.heap.push { cls := .type "slice", data := .fields #[.none, .none, .int (-1) (s₂.toks + 1)] }).objs.size) _
  rw [Heap.size_push]
  refine q _ (s₂.heap.objs.size + 1) ⟨_, _, rfl⟩ (e1.trans e2) ?_ a2
  cases e : s₂.heap.get? (s₂.heap.objs.size + 1) with
  | none => rfl
  | some o => exact absurd (Heap.lt_size e) (Nat.not_lt.mpr (Nat.le_succ _))
end
end Mine

end
section
open PySem PySem.W PyProof.Rows
set_option Elab.async false
set_option maxRecDepth 100000
set_option autoImplicit false
set_option linter.unusedVariables false
set_option maxHeartbeats 4000000
namespace Mine

noncomputable abbrev lenv (w : World) (L fa : Addr) (cd : Value) : Env := envOfC (fnAt w 81).name (fnAt w 81).scope L fa cd
noncomputable def lawB (w : World) : List Stmt := match (fnAt w 81).body with | .stmts b => b | _ => []

theorem gn_reduce (w : World) : nsIn (hd.heap_39 w.params) mainGlobals "reduce" = some (some (.ref 23)) := by kernel_rfl
theorem gn_writer (w : World) : nsIn (hd.heap_39 w.params) mainGlobals "_law_writer" = some (some (.ref 69)) := by kernel_rfl
theorem gn_layer (w : World) : nsIn (hd.heap_39 w.params) mainGlobals "_law_layer" = some (some (.ref 76)) := by kernel_rfl
theorem gn_ISN (w : World) : nsIn (hd.heap_39 w.params) mainGlobals "ISNONTERMINAL" = some (some (.ref 42)) := by kernel_rfl

theorem addB_self {B : Base} {a : Addr} {o : Obj} : FS.addB B a o a = some o := by unfold FS.addB; rw [if_pos rfl]

section
variable {w : World} {A : Around} {E : Value → Shared → Prop} {s : Shared}

/-- words = ... -/
theorem words_step {s₀ : Shared} {B : Base} {L fa d : Addr} {cd : Value} {m : Str → Option Value} {own : Own} {R : List (Int × List Int)} {rest : List Stmt} {st : Stmt} {Q : Flow → Shared → Prop} (GR : Gram R) (r : Rm A 12 150) (G : GdB w B) (hR : RulesB w B d R) (hfit : ∀ k ∈ keysOf R, Fits R 7 k)
    (X : FS s₀ B L m own s) (hc : (L + 1, IsC (some (.ref d))) ∈ own) (hst : (lawB w).drop 5 = st :: rest)
    (h : ∀ s' wa B', (∀ b o, B b = some o → B' b = some o) → LIB B' wa ((srt (keysOf R)).flatMap (word R 7)) → FS s₀ B' L (fun q => if q = "words" then some (.ref wa) else m q) own s' → Q .next s') :
    wpAny (Md w) A (exec st (lenv w L fa cd)) Q E s := by
  obtain ⟨kvs, hkv, hsys, hfa⟩ := id hR
  have h8 : sizeLine = 16777216 := by decide
  have hkl := hfa.length
  have hR6 := GR.len
  have hkeys : kvs.map (·.1) = keysOf R := hfa.keys
  cases hst
  refine comp_exec rfl rfl <| callB (X.gd G) (gb_sorted w) boot_sorted <| arg1 <| nmC (X.at' hc) <| sorted_dict r.hh (hkv.at X.keep) hsys (by omega) fun s₁ a vs hs he hn ha hi => ?_
  rw [hkeys] at hi
  have hsub : ∀ b o, B b = some o → joinB B (newOnly s.heap s₁.heap) b = some o := fun b o e => joinB_l e
  have X₁ := X.join hs he
  have hA : AtB (joinB B (newOnly s.heap s₁.heap)) a (IsL vs) := (FS.fresh_new hn ha).sub fun b o e => joinB_r X.keep e
  generalize joinB B (newOnly s.heap s₁.heap) = B₁ at hsub X₁ hA
  refine it_list r.hh X₁ hA fun I s₂ St X₂ _ _ _ S hst => ?_
  have hvl : vs.length ≤ 6 := by rw [hi.length]; exact keys_len GR
  refine comp2s r.hh S X₂ hst (fun C i ys own => i ≤ vs.length ∧ IntsAre ys (((srt (keysOf R)).take i).flatMap (word R 7))) (fun C => ⟨Nat.zero_le _, .nil⟩) ?_ ?_
  · rintro C i v ys B' m' own' s' hown hsub' hi' hP ⟨_, hJ⟩ Z
    obtain ⟨y, ty, rfl, hy⟩ := hi.at i v hP
    refine stL Z fun s₃ Z₃ => ?_
    have hsub2 : ∀ b o, B b = some o → s₃.heap.get? b = some o := fun b o e => Z₃.keep b o (hsub' b o (hsub b o e))
    have G₃ : GdH w s₃.heap := G _ hsub2
    refine callG 62 G₃ (gn_word w) rfl <| arg2 <| nmC ((hown _ hc).at Z₃.keep) <| nmL Z₃ rfl ⟨G₃, ?_⟩
    refine word_call GR 7 (by omega) (r.le (by omega) (by omega)) G₃ (hR.sub hsub2) (hfit y ((srt_perm _).mem_iff.mp (List.mem_of_getElem? hy))) fun s₄ a hs he hn ⟨ws, hwa, hwi⟩ => ?_
    refine ⟨a, ws, _, _, rfl, Z₃.add hs he hn hwa, .inr (.head _), ⟨hi', ?_⟩, ?_⟩
    · rw [List.take_add_one, hy]
      simp only [Option.toList_some, List.flatMap_append, List.flatMap_cons, List.flatMap_nil, List.append_nil]
      exact IntsAre.append' hJ hwi
    · have h1 := hJ.length
      have h2 := hwi.length
      have h3 := word_len GR 7 y
      have h4 := words_small GR ((srt (keysOf R)).take i)
      have h5 := List.length_take_le' i (srt (keysOf R))
      have h6 := keys_len GR
      have h7 : (3 : Nat) ^ 7 = 2187 := by decide
      omega
  · rintro C D ys new s' ⟨_, hJ⟩ W
    rw [hi.length, List.take_length] at hJ
    replace W := W.subl (own' := (D, IsL ys) :: own) (List.Sublist.cons_cons _ (List.sublist_append_right _ _))
    obtain ⟨o, ho, hDn, _, Wf⟩ := W.freeze
    exact h s' D _ (fun b o e => FS.addB_sub hDn b o (hsub b o e)) ⟨ys, ⟨o, addB_self, ho⟩, hJ⟩ Wf

/-- told = ... -/
theorem told_step {s₀ : Shared} {B : Base} {L fa d oa : Addr} {cd : Value} {m : Str → Option Value} {own : Own} {R : List (Int × List Int)} {os : List Int} {rest : List Stmt} {st : Stmt} {Q : Flow → Shared → Prop} (GR : Gram R) (O : Good R os) (r : Rm A 12 150) (G : GdB w B) (hR : RulesB w B d R)
    (ho : LIB B oa os) (hm : m "order" = some (.ref oa)) (c68 : ∀ h : Heap, (∀ b o, B b = some o → h.get? b = some o) → CodeHd h 68 64)
    (X : FS s₀ B L m ((64, fun x => x = tabObj #[]) :: own) s) (hc : (L + 1, IsC (some (.ref d))) ∈ own) (hst : (lawB w).drop 6 = st :: rest)
    (h : ∀ s' ta B' ps, (∀ b o, B b = some o → B' b = some o) → LIB B' ta (tolds R (nonT os) (srt (keysOf R))) → FS s₀ B' L (fun q => if q = "told" then some (.ref ta) else m q) ((64, fun x => x = tabObj ps) :: own) s' → Q .next s') :
    wpAny (Md w) A (exec st (lenv w L fa cd)) Q E s := by
  obtain ⟨kvs, hkv, hsys, hfa⟩ := id hR
  have h8 : sizeLine = 16777216 := by decide
  have hkl := hfa.length
  have hR6 := GR.len
  have hkeys : kvs.map (·.1) = keysOf R := hfa.keys
  have hol := O.len
  cases hst
  have h64 : s.heap.get? 64 = some (tabObj #[]) := by obtain ⟨o, q, e⟩ := X.at' (a := 64) (.head _); rw [q, e]
  refine wpAny_Assign_Name <| callG 23 (X.gd G) (gn_reduce w) rfl <| arg3 <| callG 69 (X.gd G) (gn_writer w) rfl <| arg1 <| nmC (X.at' (.tail _ hc)) ⟨X.gd G, writer_call (r.le (by omega) (by omega)) (X.gd G) (c68 _ X.keep) h64 fun s₁ f ps hs1 hk1 ht1 hW => ?_⟩
  have hsub1 : ∀ b o, B b = some o → joinB B (newOnly s.heap s₁.heap) b = some o := fun b o e => joinB_l e
  have X₁ := X.joinT hs1 hk1 (P' := fun x => x = tabObj ps) ⟨_, ht1, rfl⟩
  replace hW : WriteAt w (joinB B (newOnly s.heap s₁.heap)) f d := by
    obtain ⟨q1, q2, q3, q4, q5, q6, e1, e2, q7, q8, q9, e3, e4⟩ := hW
    exact ⟨q1, q2, q3, q4, q5, q6, joinB_r X.keep e1, e2.sub fun b o e => joinB_r X.keep e, q7, q8, q9, joinB_r X.keep e3, e4⟩
  generalize joinB B (newOnly s.heap s₁.heap) = B₁ at hsub1 X₁ hW
  have G₁ := G.sub hsub1
  obtain ⟨ov, hov, hoi⟩ := ho.sub hsub1
  refine comp1_eval <| nmL X₁ hm <| it_list r.hh X₁ hov fun I s₂ St X₂ _ _ _ S hst => ?_
  refine comp1 S X₂ hst (fun C i ys own => i ≤ ov.length ∧ IntsAre ys ((os.take i).filter fun x => decide (256 ≤ x)) ∧ own = []) (fun C => ⟨Nat.zero_le _, .nil, rfl⟩) ?_ (by rw [hoi.length]; omega) ?_ ?_
  · rintro C i ys own ⟨h1, h2, _⟩
    rw [h2.length]
    exact Nat.le_trans (List.length_filter_le _ _) (List.length_take_le _ _)
  · rintro C i v ys B' m' own' s' hown hsub' hi' hP ⟨_, hJ, rfl⟩ Z
    obtain ⟨y, ty, rfl, hy⟩ := hoi.at i v hP
    refine stL Z fun s₃ Z₃ => ?_
    have G₃ : GdH w s₃.heap := Z₃.gd (G₁.sub hsub')
    refine wpAny_tests_one <| isTrue_plain <| callG 42 G₃ (gn_ISN w) rfl <| arg1 <| nmL Z₃ rfl ⟨G₃, isnonterm (r.le (by omega) (by omega)) G₃ fun s₄ hs4 he4 => wpAny_truthy_bool ?_⟩
    have Z₄ := Z₃.ext hs4 he4
    have hfilt : (os.take (i + 1)).filter (fun x => decide (256 ≤ x)) = (os.take i).filter (fun x => decide (256 ≤ x)) ++ (if 256 ≤ y then [y] else []) := by
      rw [List.take_add_one, hy, List.filter_append]
      simp only [Option.toList_some, List.filter_cons, List.filter_nil, decide_eq_true_eq]
    by_cases hb : 256 ≤ y
    · rw [if_pos (by simpa using hb)]
      refine nmL Z₄ rfl ⟨_, _, Z₄, hi', ?_, rfl⟩
      rw [hfilt, if_pos hb]
      exact IntsAre.append' hJ (.cons _ _ .nil)
    · rw [if_neg (by simpa using hb)]
      refine ⟨_, _, Z₄, hi', ?_, rfl⟩
      rw [hfilt, if_neg hb, List.append_nil]; exact hJ
  · rintro C D ys new s₃ ⟨_, hJ, rfl⟩ W
    rw [hoi.length, List.take_length] at hJ
    have hJn : IntsAre ys (nonT os) := hJ
    obtain ⟨oD, hoD, hDn, _, Wf⟩ := W.freeze
    have hsub2 : ∀ b o, B₁ b = some o → FS.addB B₁ D oD b = some o := FS.addB_sub hDn
    have hDA : AtB (FS.addB B₁ D oD) D (IsL ys) := ⟨oD, addB_self, hoD⟩
    generalize FS.addB B₁ D oD = B₂ at hsub2 hDA Wf
    have hsubB2 : ∀ b o, B b = some o → B₂ b = some o := fun b o e => hsub2 b o (hsub1 b o e)
    have G₂ := G.sub hsubB2
    refine callB (Wf.gd G₂) (gb_sorted w) boot_sorted <| arg1 <| nmC (Wf.at' (.tail _ hc)) <| sorted_dict r.hh (hkv.at fun b o e => Wf.keep b o (hsubB2 b o e)) hsys (by omega) fun s₄ a vs hs4 he4 hn4 ha4 hi4 => ?_
    rw [hkeys] at hi4
    have hsub3 : ∀ b o, B₂ b = some o → joinB B₂ (newOnly s₃.heap s₄.heap) b = some o := fun b o e => joinB_l e
    have X₄ := Wf.join hs4 he4
    have hA : AtB (joinB B₂ (newOnly s₃.heap s₄.heap)) a (IsL vs) := (FS.fresh_new hn4 ha4).sub fun b o e => joinB_r Wf.keep e
    generalize joinB B₂ (newOnly s₃.heap s₄.heap) = B₃ at hsub3 X₄ hA
    have hsubB3 : ∀ b o, B b = some o → B₃ b = some o := fun b o e => hsub3 b o (hsubB2 b o e)
    have G₄ := G.sub hsubB3
    refine ⟨X₄.gd G₄, ?_⟩
    have hW4 : ∀ {B'}, (∀ b o, B₃ b = some o → B' b = some o) → WriteAt w B' f d := fun {B'} k => by
      have k1 : ∀ b o, B₁ b = some o → B' b = some o := fun b o e => k b o (hsub3 b o (hsub2 b o e))
      obtain ⟨q1, q2, q3, q4, q5, q6, e1, e2, q7, q8, q9, e3, e4⟩ := hW
      exact ⟨q1, q2, q3, q4, q5, q6, k1 _ _ e1, e2.sub k1, q7, q8, q9, k1 _ _ e3, e4⟩
    obtain ⟨oa4, hoa4, hPa4⟩ := hA
    refine reduce_call (vs := ys) (fun i v Bi => ∃ b, v = .ref b ∧ LIB Bi b (tolds R ((nonT os).take i) (srt (keysOf R))) ∧ (b = a ∨ s₄.heap.get? b = none)) (r.le (by omega) (by omega)) (X₄.gd G₄) ?_ (hDA.sub fun b o e => X₄.keep b o (hsub3 b o e)) ⟨a, rfl, ⟨vs, ⟨oa4, X₄.keep _ _ hoa4, hPa4⟩, hi4⟩, .inl rfl⟩ ⟨a, oa4, rfl, ?_, X₄.keep _ _ hoa4, ?_⟩ ?_ ?_
    · obtain ⟨q1, q2, q3, q4, q5, q6, e1, _⟩ := hW4 (B' := s₄.heap.get?) X₄.keep
      exact ⟨_, _, _, _, e1⟩
    · intro e
      rw [e] at hoa4
      have h1 := X₄.keep _ _ hoa4
      have h2 := (X₄.gd G₄).X 15 _ rfl
      rw [h2] at h1
      obtain ⟨n, e2⟩ := hPa4
      rw [← Option.some.inj h1] at e2
      have e3 : Value.type "object" = Value.type "list" := congrArg Obj.cls e2
      injection e3 with e4
      exact absurd e4 (by decide)
    · obtain ⟨n, rfl⟩ := hPa4
      intro e
      have e3 : Value.type "list" = Value.type "tuple" := e
      injection e3 with e4
      exact absurd e4 (by decide)
    · rintro A' i v e s₅ Bi Q' E' r5 hei hsb hk ⟨b, rfl, hb, hbn⟩ hq
      obtain ⟨y, ty, rfl, hy⟩ := hJn.at i e hei
      have hyk := nonT_ok O y (List.mem_of_getElem? hy)
      have k5 : ∀ b o, B₃ b = some o → s₅.heap.get? b = some o := fun b o e => hk b o (hsb b o (X₄.keep b o e))
      refine write_call GR (r5.le (by omega) (by omega)) (G₄ _ k5) (hW4 k5) (hR.sub fun b o e => k5 b o (hsubB3 b o e)) (hb.sub hk) ((O.sym y hyk.1).resolve_left hyk.2) (tolds_small GR O i) fun s₆ b' hs6 he6 hn6 hl6 => ?_
      refine hq s₆ _ _ hs6 he6 (join_grown fun b o e => he6 b o (hk b o e)) ⟨b', rfl, ?_, .inr ?_⟩
      · rw [tolds_step hy]
        exact LIB.of ((FS.fresh_new hn6 hl6.at).sub fun b o e => joinB_r hk e)
      · cases q : s₄.heap.get? b' with
        | none => rfl
        | some o => rw [hk b' o (hsb b' o q)] at hn6; cases hn6
    · rintro s₅ v Bi hs5 hsb hk ⟨b, rfl, hb, hbn⟩
      have he5 : Ext s₄.heap s₅.heap := fun b o e => hk b o (hsb b o e)
      rw [hJn.length, List.take_length] at hb
      refine stL (X₄.join hs5 he5) fun s₆ X₆ => h s₆ b _ ps (fun b o e => joinB_l (hsubB3 b o e)) ?_ X₆
      rcases hbn with rfl | hbn
      · obtain ⟨bv, ⟨ob, hob, hPb⟩, hbi⟩ := hb
        have h1 := hsb _ _ (X₄.keep _ _ hoa4)
        rw [h1] at hob
        cases hob
        exact ⟨bv, ⟨oa4, joinB_l hoa4, hPb⟩, hbi⟩
      · exact LIB.of ((FS.fresh_new hbn (hb.at.at hk)).sub fun b o e => joinB_r X₄.keep e)
end
end Mine

end
section
open PySem PySem.W PyProof.Rows
set_option Elab.async false
set_option maxRecDepth 100000
set_option autoImplicit false
set_option linter.unusedVariables false
set_option maxHeartbeats 4000000
namespace Mine

theorem Fa2.snoc {α β : Type} {P : α → β → Prop} {a : α} {b : β} (h : P a b) : ∀ {l : List α} {r : List β}, Fa2 P l r → Fa2 P (l ++ [a]) (r ++ [b])
  | _, _, .nil => .cons h .nil
  | _, _, .cons p t => .cons p (Fa2.snoc h t)
theorem rev_step {os : List Int} {i : Nat} {y : Int} (h : os.reverse[i]? = some y) : i < os.length ∧ os.drop (os.length - (i + 1)) = y :: os.drop (os.length - i) := by
  have hi : i < os.length := by
    have := (List.getElem?_eq_some_iff.mp h).1
    simpa using this
  refine ⟨hi, ?_⟩
  rw [List.getElem?_reverse hi] at h
  have h1 : os.length - (i + 1) < os.length := by omega
  rw [List.drop_eq_getElem_cons h1]
  have e1 : os.length - 1 - i = os.length - (i + 1) := by omega
  rw [e1, List.getElem?_eq_getElem h1] at h
  rw [Option.some.inj h]
  congr 2
  omega

section
variable {w : World} {A : Around} {E : Value → Shared → Prop} {s : Shared}

/-- table = ... -/
theorem table_step {s₀ : Shared} {B : Base} {L fa d oa : Addr} {cd : Value} {m : Str → Option Value} {own : Own} {R : List (Int × List Int)} {os : List Int} {rest : List Stmt} {st : Stmt} {Q : Flow → Shared → Prop} (GR : Gram R) (O : Good R os) (r : Rm A 12 150) (G : GdB w B) (hR : RulesB w B d R)
    (ho : LIB B oa os) (hm : m "order" = some (.ref oa)) (c75 : ∀ h : Heap, (∀ b o, B b = some o → h.get? b = some o) → CodeHd h 75 71)
    (X : FS s₀ B L m ((71, fun x => x = tabObj #[]) :: (L + 2, IsC none) :: own) s) (hc : (L + 1, IsC (some (.ref d))) ∈ own) (hst : (lawB w).drop 7 = st :: rest)
    (h : ∀ s' ta B' ps, (∀ b o, B b = some o → B' b = some o) → RulesB w B' ta (tabOf R os) → FS s₀ B' L m ((L + 2, IsC (some (.ref ta))) :: (71, fun x => x = tabObj ps) :: own) s' → Q .next s') :
    wpAny (Md w) A (exec st (lenv w L fa cd)) Q E s := by
  have h8 : sizeLine = 16777216 := by decide
  have hol := O.len
  cases hst
  have h71 : s.heap.get? 71 = some (tabObj #[]) := by obtain ⟨o, q, e⟩ := X.at' (a := 71) (.head _); rw [q, e]
  refine wpAny_Assign_Name <| callG 23 (X.gd G) (gn_reduce w) rfl <| arg3 <| callG 76 (X.gd G) (gn_layer w) rfl <| arg1 <| nmC (X.at' (.tail _ (.tail _ hc))) ⟨X.gd G, layer_call (r.le (by omega) (by omega)) (X.gd G) (c75 _ X.keep) h71 fun s₁ f ps hs1 hk1 ht1 hW => ?_⟩
  have hsub1 : ∀ b o, B b = some o → joinB B (newOnly s.heap s₁.heap) b = some o := fun b o e => joinB_l e
  have X₁ := X.joinT hs1 hk1 (P' := fun x => x = tabObj ps) ⟨_, ht1, rfl⟩
  replace hW : LayAt w (joinB B (newOnly s.heap s₁.heap)) f d := by
    obtain ⟨q1, q2, q3, q4, q5, q6, e1, e2, q7, q8, q9, e3, e4⟩ := hW
    exact ⟨q1, q2, q3, q4, q5, q6, joinB_r X.keep e1, e2.sub fun b o e => joinB_r X.keep e, q7, q8, q9, joinB_r X.keep e3, e4⟩
  generalize joinB B (newOnly s.heap s₁.heap) = B₁ at hsub1 X₁ hW
  refine sliceR <| nmL X₁ hm ⟨oa, os, rfl, (ho.sub hsub1).at.at X₁.keep, by omega, fun s₂ D hs2 he2 hn2 hD => ?_⟩
  have hsub2 : ∀ b o, B₁ b = some o → joinB B₁ (newOnly s₁.heap s₂.heap) b = some o := fun b o e => joinB_l e
  have X₂ := X₁.join hs2 he2
  have hDA : AtB (joinB B₁ (newOnly s₁.heap s₂.heap)) D (IsI os.reverse) := (FS.fresh_new hn2 hD).sub fun b o e => joinB_r X₁.keep e
  generalize joinB B₁ (newOnly s₁.heap s₂.heap) = B₂ at hsub2 X₂ hDA
  have hsubB2 : ∀ b o, B b = some o → B₂ b = some o := fun b o e => hsub2 b o (hsub1 b o e)
  refine newDict_FS X₂ (X₂.gd (G.sub hsubB2)) fun t₀ s₄ X₃ ht0 hsys0 => ?_
  obtain ⟨ot, hot, htn, hto, X₄⟩ := X₃.freeze
  have hsub3 : ∀ b o, B₂ b = some o → FS.addB B₂ t₀ ot b = some o := FS.addB_sub htn
  have htA : FS.addB B₂ t₀ ot t₀ = some ot := addB_self
  generalize FS.addB B₂ t₀ ot = B₃ at hsub3 htA X₄
  have hsubB3 : ∀ b o, B b = some o → B₃ b = some o := fun b o e => hsub3 b o (hsubB2 b o e)
  have G₄ := G.sub hsubB3
  obtain ⟨ys, hys, hyi⟩ := LIB.of (hDA.sub hsub3)
  refine ⟨X₄.gd G₄, ?_⟩
  have hW4 : ∀ {B'}, (∀ b o, B₃ b = some o → B' b = some o) → LayAt w B' f d := fun {B'} k => by
    have k1 : ∀ b o, B₁ b = some o → B' b = some o := fun b o e => k b o (hsub3 b o (hsub2 b o e))
    obtain ⟨q1, q2, q3, q4, q5, q6, e1, e2, q7, q8, q9, e3, e4⟩ := hW
    exact ⟨q1, q2, q3, q4, q5, q6, k1 _ _ e1, e2.sub k1, q7, q8, q9, k1 _ _ e3, e4⟩
  have hcls : ot.cls = .type "dict" := by
    obtain ⟨o, ho, hc⟩ := (At.dict ⟨ot, hto, hot⟩).mapOf.typeIs (s := s₄)
    rw [hto] at ho; cases ho; exact hc
  refine reduce_call (vs := ys) (fun i v Bi => ∃ td kvs, v = .ref td ∧ AtB Bi td (IsD w kvs) ∧ (td == sysModules) = false ∧ Fa2 (fun kv r => kv.1 = r.1 ∧ ∃ a, kv.2 = .ref a ∧ LIB (fun b => if s₄.heap.get? b = none then Bi b else none) a r.2) kvs (tabOf R (os.drop (os.length - i))) ∧ (td = t₀ ∨ s₄.heap.get? td = none))
    (r.le (by omega) (by omega)) (X₄.gd G₄) ?_ (hys.sub X₄.keep) ⟨t₀, [], rfl, ⟨ot, hto, hot⟩, hsys0, by rw [Nat.sub_zero, List.drop_length]; exact .nil, .inl rfl⟩ ⟨t₀, ot, rfl, ?_, hto, ?_⟩ ?_ ?_
  · obtain ⟨q1, q2, q3, q4, q5, q6, e1, _⟩ := hW4 (B' := s₄.heap.get?) X₄.keep
    exact ⟨_, _, _, _, e1⟩
  · intro e
    have h2 := (X₄.gd G₄).X 15 _ rfl
    rw [e, h2] at hto
    rw [← Option.some.inj hto] at hcls
    have e3 : Value.type "object" = Value.type "dict" := hcls
    injection e3 with e4
    exact absurd e4 (by decide)
  · rw [hcls]
    intro e3
    injection e3 with e4
    exact absurd e4 (by decide)
  · rintro A' i v e s₅ Bi Q' E' r5 hei hsb hk ⟨td, kvs, rfl, htd, hsys, hfa, hbn⟩ hq
    obtain ⟨y, ty, rfl, hy⟩ := hyi.at i e hei
    obtain ⟨hil, hdr⟩ := rev_step hy
    have hyin : y ∈ os := List.mem_reverse.mp (List.mem_of_getElem? hy)
    have k5 : ∀ b o, B₃ b = some o → s₅.heap.get? b = some o := fun b o e => hk b o (hsb b o (X₄.keep b o e))
    have hNs : ∀ b o, (if s₄.heap.get? b = none then Bi b else none) = some o → s₅.heap.get? b = some o := fun b o e => by
      split at e
      · exact hk b o e
      · cases e
    have hlat := later_drop (os.length - (i + 1)) os O.later
    rw [hdr] at hlat
    have hnd : (y :: os.drop (os.length - i)).Nodup := by rw [← hdr]; exact O.nd.sublist (List.drop_sublist _ _)
    have hkk : kvs.map (·.1) = keysOf (tabOf R (os.drop (os.length - i))) := hfa.keys
    refine lay_call (T := tabOf R (os.drop (os.length - i))) (kvs := kvs) GR (r5.le (by omega) (by omega)) (G₄ _ k5) (hW4 k5) (hR.sub fun b o e => k5 b o (hsubB3 b o e)) (htd.sub hk) hsys (hfa.imp fun kv r ⟨e1, a, e2, q⟩ => ⟨e1, a, e2, q.sub hNs⟩) ?_ ?_ ?_ (tab_small GR O _) fun s₆ a wa vs hs6 he6 hna hnwa hne ha6 hsa hwa hvi => ?_
    · rcases O.sym y hyin with hlt | hkey
      · exact .inl hlt
      · refine .inr ⟨hkey, fun z hz => ?_⟩
        rw [tab_keys, List.mem_reverse]
        exact hlat.1 z hz
    · rw [hkk, tab_keys, List.mem_reverse]
      exact (List.nodup_cons.mp hnd).1
    · have := congrArg List.length hkk
      rw [tab_keys, List.length_map, List.length_reverse, List.length_drop] at this
      omega
    · have hJ : ∀ b o, Bi b = some o → joinB Bi (newOnly s₅.heap s₆.heap) b = some o := fun b o e => joinB_l e
      have h4n : ∀ b, s₅.heap.get? b = none → s₄.heap.get? b = none := fun b hb => by
        cases q : s₄.heap.get? b with
        | none => rfl
        | some o => rw [hk b o (hsb b o q)] at hb; cases hb
      refine hq s₆ _ _ hs6 he6 (join_grown fun b o e => he6 b o (hk b o e)) ⟨a, kvs ++ [(y, .ref wa)], rfl, (FS.fresh_new hna ha6).sub fun b o e => joinB_r hk e, hsa, ?_, .inr (h4n a hna)⟩
      rw [hdr]
      refine Fa2.snoc ⟨rfl, wa, rfl, vs, ?_, hvi⟩ (hfa.imp fun kv r ⟨e1, a, e2, q⟩ => ⟨e1, a, e2, q.sub fun b o e => ?_⟩)
      · obtain ⟨o, ho, hP⟩ := (FS.fresh_new hnwa hwa).sub fun b o e => joinB_r hk e
        refine ⟨o, ?_, hP⟩
        dsimp only
        rw [if_pos (h4n wa hnwa)]; exact ho
      · split at e
        · rename_i hq4
          rw [if_pos hq4]; exact hJ b o e
        · cases e
  · rintro s₅ v Bi hs5 hsb hk ⟨td, kvs, rfl, htd, hsys, hfa, hbn⟩
    have he5 : Ext s₄.heap s₅.heap := fun b o e => hk b o (hsb b o e)
    have hlen : ys.length = os.length := by rw [hyi.length, List.length_reverse]
    rw [hlen, Nat.sub_self, List.drop_zero] at hfa
    have X₅ := (X₄.join hs5 he5).perm (List.Perm.swap _ _ _)
    refine stC X₅ fun s₆ X₆ => h s₆ td _ ps (fun b o e => joinB_l (hsubB3 b o e)) ⟨kvs, ?_, hsys, hfa.imp fun kv r ⟨e1, a, e2, q⟩ => ⟨e1, a, e2, q.sub fun b o e => ?_⟩⟩ X₆
    · rcases hbn with rfl | hbn
      · obtain ⟨o, ho', hP⟩ := htd
        have h1 := hsb _ _ hto
        rw [h1] at ho'
        cases ho'
        exact ⟨ot, joinB_l htA, hP⟩
      · exact (FS.fresh_new hbn (htd.at hk)).sub fun b o e => joinB_r X₄.keep e
    · split at e
      · rename_i hq4
        refine joinB_r X₄.keep ?_
        unfold newOnly
        rw [if_pos hq4]; exact hk b o e
      · cases e
end
end Mine

end
section
open PySem PySem.W PyProof.Rows
set_option Elab.async false
set_option maxRecDepth 100000
set_option autoImplicit false
set_option linter.unusedVariables false
set_option maxHeartbeats 4000000
namespace Mine
section
variable {w : World} {A : Around} {E : Value → Shared → Prop} {s : Shared}

theorem check_step {s₀ : Shared} {B : Base} {L fa ta : Addr} {cd : Value} {m : Str → Option Value} {own : Own} {told : List Int} {rest : List Stmt} {st : Stmt} {Q : Flow → Shared → Prop} (r : Rm A 12 150) (G : GdB w B)
    (hta : LIB B ta told) (htl : told.length ≤ 100000) (hall : ∀ x ∈ told, x < 256) (hm : m "told" = some (.ref ta)) (X : FS s₀ B L m own s) (hst : (lawB w).drop 8 = st :: rest) (h : ∀ s', FS s₀ B L m own s' → Q .next s') :
    wpAny (Md w) A (exec st (lenv w L fa cd)) Q E s := by
  have h8 : sizeLine = 16777216 := by decide
  cases hst
  obtain ⟨tv, htv, hti⟩ := hta
  refine wpAny_If <| wpAny_isTrue_Compare1 <| comp1_eval <| nmL X hm <| it_list r.hh X htv fun I s₂ St X₂ _ _ _ S hst => ?_
  refine comp1 S X₂ hst (fun C i ys own => i ≤ tv.length ∧ ys = [] ∧ own = []) (fun C => ⟨Nat.zero_le _, rfl, rfl⟩) ?_ (by rw [hti.length]; omega) ?_ ?_
  · rintro C i ys own ⟨h1, rfl, _⟩
    exact Nat.zero_le _
  · rintro C i v ys B' m' own' s' hown hsub' hi' hP ⟨_, rfl, rfl⟩ Z
    obtain ⟨y, ty, rfl, hy⟩ := hti.at i v hP
    refine stL Z fun s₃ Z₃ => ?_
    have G₃ : GdH w s₃.heap := Z₃.gd (G.sub hsub')
    refine wpAny_tests_one <| isTrue_not <| isTrue_plain <| callG 35 G₃ (gn_IST w) rfl <| arg1 <| nmL Z₃ rfl ⟨G₃, isterm (r.le (by omega) (by omega)) G₃ fun s₄ hs4 he4 => wpAny_truthy_bool ?_⟩
    have Z₄ := Z₃.ext hs4 he4
    have hlt := hall y (List.mem_of_getElem? hy)
    rw [if_neg (by simpa using hlt)]
    exact ⟨_, _, Z₄, hi', rfl, rfl⟩
  · rintro C D ys new s₃ ⟨_, rfl, rfl⟩ W
    refine List_ <| spliced_none <| newL W (Nat.le_of_ble_eq_true rfl) (fun e s₄ W₂ _ _ => ?_) (W.gd G)
    refine neI (xs := []) (ys := []) (r.le (by omega) (by omega)) ⟨_, (W₂.at' (a := D) (P := IsL []) (.tail _ (.head _))).choose_spec.1, [], (W₂.at' (a := D) (P := IsL []) (.tail _ (.head _))).choose_spec.2, .nil⟩ ((W₂.closeI .nil).at' (.head _)) <| wpAny_truthy_bool ?_
    rw [if_neg (by simp)]
    exact wpAny_execs_nil (h s₄ ((W₂.tail rfl).tail rfl))

theorem return_step {s₀ : Shared} {B : Base} {L fa ta wa td d : Addr} {cd : Value} {m : Str → Option Value} {own : Own} {R T : List (Int × List Int)} {ws : List Int} {rest : List Stmt} {st : Stmt} {Q : Flow → Shared → Prop} (GR : Gram R) (r : Rm A 12 150) (G : GdB w B) (hR : RulesB w B d R) (hT : RulesB w B td T)
    (hkey : ∀ k ∈ keysOf R, k ∈ keysOf T) (hw : (srt (keysOf R)).flatMap (ruleOf T) = ws) (hsm : ∀ x, (ruleOf T x).length ≤ 100000) (hta : LIB B ta ws) (hwa : LIB B wa ws) (hm : m "told" = some (.ref ta)) (hm2 : m "words" = some (.ref wa))
    (X : FS s₀ B L m own s) (hc : (L + 1, IsC (some (.ref d))) ∈ own) (hc2 : (L + 2, IsC (some (.ref td))) ∈ own) (hst : (lawB w).drop 9 = st :: rest) (h : ∀ s' B', (∀ b o, B b = some o → B' b = some o) → FS s₀ B' L m own s' → Q (.ret (.bool true)) s') :
    wpAny (Md w) A (exec st (lenv w L fa cd)) Q E s := by
  obtain ⟨kvs, hkv, hsys, hfa⟩ := id hR
  have h8 : sizeLine = 16777216 := by decide
  have hkl := hfa.length
  have hR6 := GR.len
  have hkeys : kvs.map (·.1) = keysOf R := hfa.keys
  cases hst
  refine wpAny_Return_some <| BoolOp_and <| wpAny_Compare1 <| nmL X hm <| nmL X hm2 <| eqI (r.le (by omega) (by omega)) (hta.at.at X.keep) (hwa.at.at X.keep) <| wpAny_truthy_bool ?_
  rw [if_pos (by simp)]
  refine BoolOp_one <| wpAny_Compare1 <| comp2_eval <| callB (X.gd G) (gb_sorted w) boot_sorted <| arg1 <| nmC (X.at' hc) <| sorted_dict r.hh (hkv.at X.keep) hsys (by omega) fun s₁ a vs hs he hn ha hi => ?_
  rw [hkeys] at hi
  have hsub : ∀ b o, B b = some o → joinB B (newOnly s.heap s₁.heap) b = some o := fun b o e => joinB_l e
  have X₁ := X.join hs he
  have hA : AtB (joinB B (newOnly s.heap s₁.heap)) a (IsL vs) := (FS.fresh_new hn ha).sub fun b o e => joinB_r X.keep e
  generalize joinB B (newOnly s.heap s₁.heap) = B₁ at hsub X₁ hA
  refine it_list r.hh X₁ hA fun I s₂ St X₂ _ _ _ S hst => ?_
  have hvl : vs.length ≤ 6 := by rw [hi.length]; exact keys_len GR
  refine comp2 r.hh S X₂ hst (fun C i ys own => i ≤ vs.length ∧ IntsAre ys (((srt (keysOf R)).take i).flatMap (ruleOf T)) ∧ own = []) (fun C => ⟨Nat.zero_le _, .nil, rfl⟩) ?_ ?_
  · rintro C i v ys B' m' own' s' hown hsub' hi' hP ⟨_, hJ, rfl⟩ Z
    obtain ⟨y, ty, rfl, hy⟩ := hi.at i v hP
    refine stL Z fun s₃ Z₃ => ?_
    have hyk : y ∈ keysOf T := hkey y ((srt_perm _).mem_iff.mp (List.mem_of_getElem? hy))
    obtain ⟨la, f, hmap, hf, lv, hlv, hli⟩ := hT.get hyk (hp := s₃.heap) (fun b o e => Z₃.keep b o (hsub' b o (hsub b o e)))
    refine Subscript_ <| nmC ((hown _ hc2).at Z₃.keep) <| nmL Z₃ rfl <| sub_dict hmap hf ?_
    refine ⟨la, lv, _, _, rfl, Z₃.tok _, .inl ?_, ⟨hi', ?_, rfl⟩, ?_⟩
    · refine hlv.sub fun b o e => ?_
      unfold offB
      have h1 := X₂.keep b o (hsub b o e)
      rw [if_neg]
      · exact h1
      · intro q
        have h2 := (X₂.own' (I, fun _ => True) (.head _)).2.1
        rw [← q] at h2
        have h3 : B₁ b = none := h2
        rw [hsub b o e] at h3; cases h3
    · rw [List.take_add_one, hy]
      simp only [Option.toList_some, List.flatMap_append, List.flatMap_cons, List.flatMap_nil, List.append_nil]
      exact IntsAre.append' hJ hli
    · have h1 := hJ.length
      have h2 := hli.length
      have h3 := hsm y
      have h4 := flatMap_len (ruleOf T) 100000 ((srt (keysOf R)).take i) fun x _ => hsm x
      have h5 := List.length_take_le' i (srt (keysOf R))
      have h6 := keys_len GR
      omega
  · rintro C D ys new s' ⟨_, hJ, rfl⟩ W
    rw [hi.length, List.take_length, hw] at hJ
    replace W := W.closeI hJ
    refine nmL W hm2 <| eqI (r.le (by omega) (by omega)) (W.at' (.head _)) ((hwa.sub hsub).at.at W.keep) ?_
    have e : Value.bool (decide (ws = ws)) = .bool true := by simp
    rw [e]
    exact h s' B₁ hsub (W.tail rfl)

theorem law_rest {s₀ : Shared} {B : Base} {L fa d oa da : Addr} {cd : Value} {m : Str → Option Value} {R : List (Int × List Int)} {os : List Int} {Q : Flow → Shared → Prop} (GR : Gram R) (O : Good R os) (r : Rm A 12 150) (G : GdB w B) (hR : RulesB w B d R)
    (ho : LIB B oa os) (hd : LIB B da os) (hm1 : m "order" = some (.ref oa)) (hm2 : m "due" = some (.ref da))
    (c68 : ∀ h : Heap, (∀ b o, B b = some o → h.get? b = some o) → CodeHd h 68 64) (c75 : ∀ h : Heap, (∀ b o, B b = some o → h.get? b = some o) → CodeHd h 75 71)
    (X : FS s₀ B L m [(L + 2, IsC none), (L + 1, IsC (some (.ref d))), (71, fun x => x = tabObj #[]), (64, fun x => x = tabObj #[])] s)
    (h : ∀ s' B' m' c ps qs, (∀ b o, B b = some o → B' b = some o) → FS s₀ B' L m' [(L + 2, IsC c), (L + 1, IsC (some (.ref d))), (71, fun x => x = tabObj ps), (64, fun x => x = tabObj qs)] s' → Q (.ret (.bool true)) s') :
    wpAny (Md w) A (execs ((lawB w).drop 4) (lenv w L fa cd)) Q E s := by
  have hol := O.len
  refine wpAny_execs_cons <| wpAny_If <| wpAny_isTrue_Compare1 <| nmL X hm1 <| nmL X hm2 <| neI (r.le (by omega) (by omega)) (ho.at.at X.keep) (hd.at.at X.keep) <| wpAny_truthy_bool ?_
  rw [if_neg (by simp)]
  refine wpAny_execs_nil <| wpAny_execs_cons <| words_step GR r G hR (fun k hk => O.fits k (O.key k hk)) X (.tail _ (.head _)) rfl fun s₁ wa B₁ hs1 hwa X₁ => ?_
  have X₁' := X₁.perm (own' := [(64, fun x => x = tabObj #[]), (L + 2, IsC none), (L + 1, IsC (some (.ref d))), (71, fun x => x = tabObj #[])]) (List.perm_append_singleton (64, fun x => x = tabObj #[]) [(L + 2, IsC none), (L + 1, IsC (some (.ref d))), (71, fun x => x = tabObj #[])])
  refine wpAny_execs_cons <| told_step GR O r (G.sub hs1) (hR.sub hs1) (ho.sub hs1) (by exact hm1) (fun h k => c68 h fun b o e => k b o (hs1 b o e)) X₁' (.tail _ (.head _)) rfl fun s₂ ta B₂ qs hs2 hta X₂ => ?_
  have hs12 : ∀ b o, B b = some o → B₂ b = some o := fun b o e => hs2 b o (hs1 b o e)
  have X₂' := X₂.perm (own' := [(71, fun x => x = tabObj #[]), (L + 2, IsC none), (L + 1, IsC (some (.ref d))), (64, fun x => x = tabObj qs)]) (by
    refine (List.perm_append_singleton (71, fun x => x = tabObj #[]) [((64 : Addr), fun x => x = tabObj qs), (L + 2, IsC none), (L + 1, IsC (some (.ref d)))]).trans (List.Perm.cons _ ?_)
    exact (List.perm_append_singleton ((64 : Addr), fun x => x = tabObj qs) [(L + 2, IsC none), (L + 1, IsC (some (.ref d)))]).symm)
  refine wpAny_execs_cons <| table_step GR O r (G.sub hs12) (hR.sub hs12) (ho.sub hs12) (by exact hm1) (fun h k => c75 h fun b o e => k b o (hs12 b o e)) X₂' (.head _) rfl fun s₃ td B₃ ps hs3 htd X₃ => ?_
  have hs13 : ∀ b o, B b = some o → B₃ b = some o := fun b o e => hs3 b o (hs12 b o e)
  have htold : (tolds R (nonT os) (srt (keysOf R))).length ≤ 100000 := by
    have := tolds_small GR O (nonT os).length
    rwa [List.take_length] at this
  refine wpAny_execs_cons <| check_step r (G.sub hs13) (hta.sub hs3) htold (told_all O) rfl X₃ rfl fun s₄ X₄ => ?_
  rw [told_eq O] at hta
  refine wpAny_execs_cons <| return_step GR r (G.sub hs13) (hR.sub hs13) htd (fun k hk => by rw [tab_keys, List.mem_reverse]; exact O.key k hk) (tab_final O) (fun x => tab_small GR O 0 x) (hta.sub hs3) (hwa.sub fun b o e => hs3 b o (hs2 b o e)) rfl rfl X₄ (.tail _ (.tail _ (.head _))) (.head _) rfl fun s₅ B₅ hs5 X₅ => ?_
  refine h s₅ B₅ _ _ ps qs (fun b o e => hs5 b o (hs13 b o e)) (X₅.perm (List.Perm.cons _ (List.Perm.swap _ _ _)))
end
end Mine

end
section
open PySem PySem.W PyProof.Rows
set_option Elab.async false
set_option maxRecDepth 100000
set_option autoImplicit false
set_option linter.unusedVariables false
set_option maxHeartbeats 4000000
namespace Mine

theorem gb_str (w : World) : nsIn (hd.heap_39 w.params) mainGlobals "str" = some none := by kernel_rfl
theorem gn_rules (w : World) : nsIn (hd.heap_39 w.params) mainGlobals "_law_rules" = some (some (.ref 47)) := by kernel_rfl
theorem gn_rows (w : World) : nsIn (hd.heap_39 w.params) mainGlobals "_law_rows" = some (some (.ref 52)) := by kernel_rfl
theorem gn_order (w : World) : nsIn (hd.heap_39 w.params) mainGlobals "_law_order" = some (some (.ref 57)) := by kernel_rfl
theorem gn_c3 (w : World) : nsIn (hd.heap_39 w.params) mainGlobals "_c3_merge" = some (some (.ref 28)) := by kernel_rfl

/-- the frame behind a refusal that was caught -/
theorem FS.landed {s₀ s : Shared} {B : Base} {L e t : Addr} {m : Str → Option Value} {zs own : Own} (X : FS s₀ B L m (zs ++ own) s) {base h : Heap} {env : Env} {s' : Shared} {tok : Nat} {tk : Tok} (hse : Same s { s' with heap := h, toks := tok })
    (hfl : Heap.FlyingW base [env] e (.type "RuntimeError") (.ref t) h) (htup : h.TupAt t [.str "Inconsistent hierarchy" tk]) (htn : base.get? t = none)
    (hB : ∀ b o, b ∉ zs.map (·.1) → b ∉ [env].filterMap (·.frame) → s.heap.get? b = some o → base.get? b = some o) (hf : env.frame = some L)
    (hup : ∀ b o, b ∉ zs.map (·.1) → s.heap.get? b = some o → (∀ vs, o.data ≠ .fields vs) → ∃ sl, h.get? b = some { o with slots := sl }) :
    ∃ oe ot ws n, oe.cls = .type "RuntimeError" ∧ oe.data = .fields ws ∧ ws[0]? = some (.ref t) ∧ ot.cls = .type "tuple" ∧ ot.data = .seq [.str "Inconsistent hierarchy" tk].toArray n ∧
      FS s₀ B L m ((e, fun x => x = oe) :: (t, fun x => x = ot) :: own) { s' with heap := h, toks := tok } := by
  obtain ⟨oe, ws, hoe, hoec, hoed, hoe0⟩ := hfl.first
  obtain ⟨ot, n, hot, hotc, hotd⟩ := htup
  have hfr : [env].filterMap (·.frame) = [L] := by simp [hf]
  rw [hfr] at hB
  have hz : ∀ p ∈ zs, p.1 ≠ L ∧ B p.1 = none := fun p hp => ⟨(X.own' p (List.mem_append.mpr (.inl hp))).1, (X.own' p (List.mem_append.mpr (.inl hp))).2.1⟩
  have hL : L ∉ zs.map (·.1) := fun h => by
    obtain ⟨p, hp, q⟩ := List.mem_map.mp h
    exact (hz p hp).1 q
  have hnd := X.nd
  rw [List.map_append, List.nodup_append] at hnd
  obtain ⟨oL, es, ep, hoL, hdL, rL⟩ := X.ns
  obtain ⟨sl, hLh⟩ := hup L oL hL hoL fun vs q => by rw [hdL] at q; cases q
  have hBb : ∀ b o, B b = some o → base.get? b = some o := fun b o q => hB b o (fun h => by
      obtain ⟨p, hp, r⟩ := List.mem_map.mp h
      have := (hz p hp).2
      rw [r, q] at this; cases this) (fun h => by
      rw [List.mem_singleton.mp h, X.hL] at q; cases q) (X.keep b o q)
  have hown : ∀ p ∈ own, ∃ o, base.get? p.1 = some o ∧ p.2 o := fun p hp => by
    have Z := X.own' p (List.mem_append.mpr (.inr hp))
    obtain ⟨o, ho, hP⟩ := Z.2.2
    exact ⟨o, hB _ o (fun h => hnd.2.2 _ h _ (List.mem_map.mpr ⟨p, hp, rfl⟩) rfl) (fun h => Z.1 (List.mem_singleton.mp h)) ho, hP⟩
  have hnB : ∀ b, base.get? b = none → B b = none := fun b hb => by
    cases q : B b with
    | none => rfl
    | some o => rw [hBb b o q] at hb; cases hb
  have heL : e ≠ L := fun q => by
    rw [q, hLh] at hoe
    rw [← Option.some.inj hoe] at hoed
    have hoed' : oL.data = .fields ws := hoed
    rw [hdL] at hoed'; cases hoed'
  have htL : t ≠ L := fun q => by
    rw [q, hLh] at hot
    rw [← Option.some.inj hot] at hotd
    have hotd' : oL.data = .seq _ n := hotd
    rw [hdL] at hotd'; cases hotd'
  have het : e ≠ t := fun q => by
    rw [q, hot] at hoe
    rw [Option.some.inj hoe, hoed] at hotd; cases hotd
  refine ⟨oe, ot, ws, n, hoec, hoed, hoe0, hotc, hotd, X.same.trans hse, ⟨_, es, ep, hLh, hdL, rL⟩, fun b o q => hfl.1 b o (hBb b o q), X.hL, fun p hp => ?_, ?_⟩
  · rcases List.mem_cons.mp hp with rfl | hp
    · exact ⟨heL, hnB e hfl.2.1, oe, hoe, rfl⟩
    · rcases List.mem_cons.mp hp with rfl | hp
      · exact ⟨htL, hnB t htn, ot, hot, rfl⟩
      · have Z := X.own' p (List.mem_append.mpr (.inr hp))
        obtain ⟨o, ho, hP⟩ := hown p hp
        exact ⟨Z.1, Z.2.1, o, hfl.1 _ _ ho, hP⟩
  · have hno : ∀ b, base.get? b = none → b ∉ own.map (·.1) := fun b hb hm => by
      obtain ⟨p, hp, q⟩ := List.mem_map.mp hm
      obtain ⟨o, ho, _⟩ := hown p hp
      rw [q, hb] at ho; cases ho
    rw [List.map_cons, List.map_cons, List.nodup_cons, List.nodup_cons]
    refine ⟨fun q => ?_, hno t htn, hnd.2.1⟩
    rcases List.mem_cons.mp q with q | q
    · exact het q
    · exact hno e hfl.2.1 q

section
variable {w : World} {A : Around} {E : Value → Shared → Prop} {s : Shared}

theorem law_body {s₀ : Shared} {B : Base} {L fa sa : Addr} {cd : Value} {m : Str → Option Value} {ns : List Int} {Q : Flow → Shared → Prop} (r : Rm A 12 150) (hfr : A.frames = some [lenv w L fa cd]) (G : GdB w B) (hsc : ∀ h : Heap, (∀ b o, B b = some o → h.get? b = some o) → ∃ vs : List Value, h.IsList sa vs.toArray ∧ IntsAre vs ns) (hns : ns.length ≤ 1000) (hm : m "script" = some (.ref sa))
    (c68 : ∀ h : Heap, (∀ b o, B b = some o → h.get? b = some o) → CodeHd h 68 64) (c75 : ∀ h : Heap, (∀ b o, B b = some o → h.get? b = some o) → CodeHd h 75 71)
    (X : FS s₀ B L m [(L + 2, IsC none), (L + 1, IsC none), (71, fun x => x = tabObj #[]), (64, fun x => x = tabObj #[])] s)
    (h : ∀ s' m' c c' ps qs, FS s₀ B L m' [(L + 2, IsC c), (L + 1, IsC c'), (71, fun x => x = tabObj ps), (64, fun x => x = tabObj qs)] s' → Q (.ret (.bool true)) s') :
    wpAny (Md w) A (execs (lawB w) (lenv w L fa cd)) Q E s := by
  have h8 : sizeLine = 16777216 := by decide
  refine wpAny_execs_cons <| wpAny_Assign_Name <| callG 47 (X.gd G) (gn_rules w) rfl <| arg1 <| nmL X hm ⟨X.gd G, rules_call (r.le (by omega) (by omega)) (X.gd G) (hsc _ X.keep) hns fun s₁ d R GR hR6 hs1 he1 hR => ?_⟩
  have hsub1 : ∀ b o, B b = some o → joinB B (newOnly s.heap s₁.heap) b = some o := fun b o e => joinB_l e
  have X₁ := X.join hs1 he1
  replace hR : RulesB w (joinB B (newOnly s.heap s₁.heap)) d R := hR.sub fun b o e => joinB_r X.keep e
  generalize joinB B (newOnly s.heap s₁.heap) = B₁ at hsub1 X₁ hR
  refine stC (X₁.perm (List.Perm.swap _ _ _)) fun s₂ X₂ => ?_
  replace X₂ := X₂.perm (List.Perm.swap _ _ _)
  have G₁ := G.sub hsub1
  refine wpAny_execs_cons <| wpAny_Assign_Name <| callG 52 (X₂.gd G₁) (gn_rows w) rfl <| arg1 <| nmC (X₂.at' (.tail _ (.head _))) ⟨X₂.gd G₁, rows_call GR (r.le (by omega) (by omega)) (X₂.gd G₁) (hR.sub X₂.keep) fun s₃ ra hs3 he3 hrw => ?_⟩
  have hsub2 : ∀ b o, B₁ b = some o → joinB B₁ (newOnly s₂.heap s₃.heap) b = some o := fun b o e => joinB_l e
  have X₃ := X₂.join hs3 he3
  replace hrw : RowsB (joinB B₁ (newOnly s₂.heap s₃.heap)) ra (rowsOf R) := hrw.sub fun b o e => joinB_r X₂.keep e
  generalize joinB B₁ (newOnly s₂.heap s₃.heap) = B₂ at hsub2 X₃ hrw
  have hsubB2 : ∀ b o, B b = some o → B₂ b = some o := fun b o e => hsub2 b o (hsub1 b o e)
  have G₂ := G.sub hsubB2
  replace hR := hR.sub hsub2
  obtain ⟨hl1, hl2⟩ := rows_len GR
  have hc3 : c3 1000 (rowsOf R) = orderOf R (showAll [] (rowsOf R).flatten).length (showAll [] (rowsOf R).flatten) := c3_order 1000 _ (by omega) (rows_inv GR)
  refine stL X₃ fun s₄ X₄ => ?_
  -- the try, whatever is due
  have tries : ∀ (s₅ : Shared) (B₃ : Base) (m₅ : Str → Option Value) (dv : Value), (∀ b o, B₂ b = some o → B₃ b = some o) → FS s₀ B₃ L m₅ [(L + 2, IsC none), (L + 1, IsC (some (.ref d))), (71, fun x => x = tabObj #[]), (64, fun x => x = tabObj #[])] s₅ →
      m₅ "rows" = some (.ref ra) → m₅ "due" = some dv → (match c3 1000 (rowsOf R) with | none => dv = .none | some os => ∃ da, dv = .ref da ∧ LIB B₃ da os) → wpAny (Md w) A (execs ((lawB w).drop 3) (lenv w L fa cd)) Q E s₅ := by
    intro s₅ B₃ m₅ dv hsub3 X₅ hmr hmd hdue
    have hsubB3 : ∀ b o, B b = some o → B₃ b = some o := fun b o e => hsub3 b o (hsubB2 b o e)
    have G₃ := G.sub hsubB3
    obtain ⟨as, hra, hfa⟩ := hrw.sub hsub3
    have hal := hfa.length
    refine wpAny_execs_cons <| wpAny_Try_except <| wpAny_execs_cons <| wpAny_Assign_Name <| callG 28 (X₅.gd G₃) (gn_c3 w) rfl <| arg1 <| comp1_eval <| nmL X₅ hmr <| it_list r.hh X₅ hra fun I s₆ St X₆ _ _ _ S hst => ?_
    refine comp1 S X₆ hst (fun C i ys own => i ≤ as.length ∧ ∃ z, ys = zRef z ∧ own = zOwn z ∧ z.map (·.2) = (rowsOf R).take i) (fun C => ⟨Nat.zero_le _, [], rfl, rfl, rfl⟩) ?_ (by rw [List.length_map]; omega) ?_ ?_
    · rintro C i ys own ⟨h1, z, rfl, rfl, hz⟩
      have e := congrArg List.length hz
      rw [List.length_map, List.length_take] at e
      rw [zRef_len]; omega
    · rintro C i v ys B' m' own' s₇ hown hsub' hi' hP ⟨_, z, rfl, rfl, hz⟩ Z
      rw [List.length_map] at hi'
      obtain ⟨a, hva, rfl⟩ : ∃ a, as[i]? = some a ∧ v = .ref a := by
        rw [List.getElem?_map] at hP
        cases hq : as[i]? with
        | none => rw [hq] at hP; cases hP
        | some a => rw [hq] at hP; cases hP; exact ⟨a, rfl, rfl⟩
      obtain ⟨xs, hxs, hlx⟩ := hfa.at i a hva
      have hxl : xs.length ≤ 500 := by
        have := (List.sublist_flatten_of_mem (List.mem_of_getElem? hxs)).length_le
        omega
      refine stL Z fun s₈ Z₈ => wpAny_tests_nil ?_
      rw [if_pos rfl]
      refine callT (Z₈.gd (G₃.sub hsub')) (gb_list w) boot_list <| arg1 <| nmL Z₈ rfl <| listI ((hlx.sub hsub').at.at Z₈.keep) (by omega) fun s₉ b hs9 he9 hn9 hb9 => ?_
      refine ⟨_, zOwn (z ++ [(b, xs)]), (Z₈.add hs9 he9 hn9 hb9).perm ?_, hi', z ++ [(b, xs)], ?_, rfl, ?_⟩
      · rw [zOwn_append]; exact (List.perm_append_singleton _ _).symm
      · rw [zRef_append]; rfl
      · rw [List.map_append, hz, List.take_add_one, hxs]; rfl
    · rintro C D ys new s₇ ⟨_, z, rfl, rfl, hz⟩ W
      rw [List.length_map, hal, List.take_length] at hz
      have W₁ : FS s₀ B₃ L m₅ (zOwn z ++ ((D, IsL (zRef z)) :: [(L + 2, IsC none), (L + 1, IsC (some (.ref d))), (71, fun x => x = tabObj #[]), (64, fun x => x = tabObj #[])])) s₇ := W.perm List.perm_middle.symm
      clear W
      have hza : (zOwn z).map (·.1) = z.map (·.1) := by unfold zOwn; rw [List.map_map]; rfl
      have hznd : (z.map (·.1)).Nodup := by
        have := W₁.nd
        rw [List.map_append, List.nodup_append] at this
        rw [← hza]; exact this.1
      have hzB : ∀ b ∈ z.map (·.1), B₃ b = none ∧ b ≠ L ∧ b ≠ D := fun b hb => by
        rw [← hza] at hb
        obtain ⟨p, hp, rfl⟩ := List.mem_map.mp hb
        have Z := W₁.own' p (List.mem_append.mpr (.inl hp))
        refine ⟨Z.2.1, Z.1, fun q => ?_⟩
        have := W₁.nd
        rw [List.map_append, List.nodup_append] at this
        exact this.2.2 _ (List.mem_map.mpr ⟨p, hp, rfl⟩) _ (List.mem_map.mpr ⟨_, .head _, rfl⟩) q
      have hoff : ∀ b o, B₃ b = some o → offZ s₇.heap (z.map (·.1)) b = some o := fun b o e => offZ_of (fun hb => by rw [(hzB b hb).1] at e; cases e) (W₁.keep b o e)
      have hDat := W₁.at' (a := D) (List.mem_append.mpr (.inr (.head _)))
      have hDA : AtB (offZ s₇.heap (z.map (·.1))) D (IsL (zRef z)) := by
        obtain ⟨o, ho, hP⟩ := hDat
        exact ⟨o, offZ_of (fun hb => (hzB D hb).2.2 rfl) ho, hP⟩
      obtain ⟨oL, es, ep, hoL, hdL, _⟩ := id W₁.ns
      have hzl : z.length = (rowsOf R).length := by rw [← hz, List.length_map]
      refine ⟨W₁.gd G₃, c3_call (n := 1000) (outer := [lenv w L fa cd]) (base₀ := hideAll s₇.heap [L]) (r.le (by omega) (by omega)) (G₃.sub hoff) hznd (fun p hp => W₁.at' (List.mem_append.mpr (.inl (zOwn_mem hp)))) hDA (by rw [hz]; omega) (Nat.le_refl _) (by omega) hfr
        ⟨(fun q => by have q' : ScopeKind.function = ScopeKind.module := q; cases q'), ⟨L, oL, rfl, hideAll_none _ (.head _), hoL, fun vs q => by rw [hdL] at q; cases q⟩, trivial⟩
        (fun env he b hf hb => by
          rw [List.mem_singleton.mp he] at hf
          have e : L = b := Option.some.inj hf
          exact (hzB b hb).2.1 e.symm) ?_ ?_⟩
      · intro os hos s₈ oa hs8 hk8 hna hlo
        rw [hz] at hos
        rw [hos] at hdue
        obtain ⟨da, rfl, hda⟩ := hdue
        have W₂ := (W₁.lose hs8 (by rw [hza]; exact hk8)).tail rfl
        have hnL : oa ≠ L := fun e => by rw [e, hoL] at hna; cases hna
        have W₃ : FS s₀ B₃ L m₅ [(oa, IsI os), (L + 2, IsC none), (L + 1, IsC (some (.ref d))), (71, fun x => x = tabObj #[]), (64, fun x => x = tabObj #[])] s₈ := by
          have Wp := (W₁.subl (own' := [(L + 2, IsC none), (L + 1, IsC (some (.ref d))), (71, fun x => x = tabObj #[]), (64, fun x => x = tabObj #[])]) ((List.sublist_cons_self _ _).trans (List.sublist_append_right _ _)))
          exact Wp.learn W₂ rfl hna hlo.at
        obtain ⟨oo, hoo, hon, _, Wf⟩ := W₃.freeze
        have hsub4 : ∀ b o, B₃ b = some o → FS.addB B₃ oa oo b = some o := FS.addB_sub hon
        have hsubB4 : ∀ b o, B b = some o → FS.addB B₃ oa oo b = some o := fun b o e => hsub4 b o (hsubB3 b o e)
        refine stL Wf fun s₉ W₄ => wpAny_execs_nil <| wpAny_execs_nil ?_
        refine law_rest GR (good_of GR (by rw [← hc3]; exact hos)) r (G.sub hsubB4) (hR.sub fun b o e => hsub4 b o (hsub3 b o e)) (oa := oa) (da := da) (LIB.of ⟨oo, addB_self, hoo⟩) (hda.sub hsub4) (by exact rfl) (by exact hmd) (fun h k => c68 h fun b o e => k b o (hsubB4 b o e)) (fun h k => c75 h fun b o e => k b o (hsubB4 b o e)) W₄ fun s' B' m' c ps qs hsub' Wx => ?_
        exact h s' m' c _ ps qs (Wx.base fun b o e => hsub' b o (hsubB4 b o e))
      · intro hnone e t s₈ hflew
        rw [hz] at hnone
        rw [hnone] at hdue
        have hdv : dv = .none := hdue
        subst hdv
        obtain ⟨hs8, ⟨base, tk, hfl, htup, htn, hbase⟩, hup⟩ := hflew
        have W₂ := W₁.perm (own' := (zOwn z ++ [(D, IsL (zRef z))]) ++ [(L + 2, IsC none), (L + 1, IsC (some (.ref d))), (71, fun x => x = tabObj #[]), (64, fun x => x = tabObj #[])]) (by rw [List.append_assoc]; exact List.Perm.refl _)
        have hzs : ∀ b, b ∉ (zOwn z ++ [(D, IsL (zRef z))]).map (·.1) → b ∉ z.map (·.1) := fun b hb hm => hb (by rw [List.map_append, hza]; exact List.mem_append.mpr (.inl hm))
        refine wpAny_looks_onW hfr rfl hfl fun h₄ hheld₄ hsm₄ => ?_
        refine wpAny_landsW hheld₄ fun h₅ hheld hsm₅ => ?_
        obtain ⟨ob, hob, hobc⟩ := hheld.there
        have hbk : ∀ (hh : Heap), base.StaysIn hh → ∀ b o, B₃ b = some o → hh.get? b = some o := fun hh hst b o q => hst b o (hbase b o (fun hb => by rw [(hzB b hb).1] at q; cases q) (fun hb => by
          have e : b = L := by
            obtain ⟨env, he, hf⟩ := List.mem_filterMap.mp hb
            rw [List.mem_singleton.mp he] at hf
            exact (Option.some.inj hf).symm
          rw [e, W₁.hL] at q; cases q) (W₁.keep b o q))
        refine wpAny_handleBy_builtin_as (X := "RuntimeError") (T := "RuntimeError") (b := true) F.isExc_RuntimeError F.notTuple_RuntimeError (by rw [isSubtype_type]; kernel_rfl) <| nmB (G₃ _ (hbk h₅ hheld.1)) (gb_RuntimeError w) Boot.«RuntimeError» ⟨rfl, ⟨ob, hob, hobc⟩, ?_⟩
        rw [if_pos rfl]
        refine lands_againW hheld fun h₆ hfl₆ hsm₆ => ?_
        have hupAll := (hsm₄.trans hsm₅).trans hsm₆
        obtain ⟨oe, ot, ws, n, hoec, hoed, hoe0, hotc, hotd, Y⟩ := W₂.landed (s' := s₈) (h := h₆) (tok := s₈.toks) (env := lenv w L fa cd) (hs8.mk' _ _) hfl₆ (htup.of_slots hupAll) htn (fun b o hb => hbase b o (hzs b hb)) rfl (fun b o hb q hnf => by
          obtain ⟨sl, q2⟩ := hup b o (hzs b hb) q hnf
          obtain ⟨sl', q3⟩ := hupAll b _ q2 hnf
          exact ⟨sl', q3⟩)
        refine stL Y fun s₉ Y₁ => ?_
        have hex : ∀ {hp : Heap}, At hp e (fun x => x = oe) → At hp t (fun x => x = ot) → hp.ExcAt e "RuntimeError" (.ref t) ∧ hp.TupAt t [.str "Inconsistent hierarchy" tk] := fun {hp} ⟨o1, q1, e1⟩ ⟨o2, q2, e2⟩ => by
          subst e1; subst e2
          exact ⟨⟨_, _, q1, hoec, hoed, hoe0⟩, _, _, q2, hotc, hotd⟩
        obtain ⟨hx1, hx2⟩ := hex (Y₁.at' (.head _)) (Y₁.at' (.tail _ (.head _)))
        refine wpAny_execs_cons <| wpAny_Return_some <| BoolOp_and <| wpAny_Compare1 <| nmL Y₁ hmd <| wpAny_Constant_none <| is_none_none <| wpAny_truthy_bool ?_
        rw [if_pos rfl]
        refine BoolOp_one <| wpAny_Compare1 <| callT (Y₁.gd G₃) (gb_str w) boot_str <| arg1 <| nmL Y₁ rfl <| P.str_of_exc_one F.excStr_RuntimeError (show (A.mark (some (.ref e))).units + 2 < cLine by have h1 : (A.mark (some (.ref e))).units = A.units := rfl; have := r.un; omega) hx1 hx2 <| wpAny_Constant_str <| eq_str ?_
        have hbt : (Str.ofString "Inconsistent hierarchy" == Str.ofString "Inconsistent hierarchy") = true := by first | rfl | decide | simp
        rw [hbt]
        have Y₂ := (Y₁.tok (s₉.toks + 1)).tail rfl |>.tail rfl
        refine wpAny_nameGoes (env := lenv w L fa cd) rfl Y₂.ns rfl fun h₇ m₇ hn₇ hs₇ => ?_
        exact h _ m₇ _ _ _ _ ((Y₂.store (t := s₉.toks + 1 + 1) hn₇ hs₇).base hsubB3)
  refine wpAny_execs_cons <| wpAny_Assign_Name <| callG 57 (X₄.gd G₂) (gn_order w) rfl <| arg2 <| nmL X₄ rfl <| nmC (X₄.at' (.tail _ (.head _))) ⟨X₄.gd G₂, order_call (r.le (by omega) (by omega)) (X₄.gd G₂) (hrw.sub X₄.keep) (hR.sub X₄.keep) (by omega) ?_ ?_⟩
  · intro hnone s₅ hs5 he5
    refine stL (X₄.ext hs5 he5) fun s₆ X₆ => tries s₆ B₂ _ .none (fun _ _ e => e) X₆ rfl rfl ?_
    rw [hc3, hnone]
  · intro os hos s₅ da hs5 he5 hn5 hl5
    refine stL (X₄.join hs5 he5) fun s₆ X₆ => tries s₆ _ _ (.ref da) (fun b o e => joinB_l e) X₆ rfl rfl ?_
    rw [hc3, hos]
    exact ⟨da, rfl, LIB.of ((FS.fresh_new hn5 hl5.at).sub fun b o e => joinB_r X₄.keep e)⟩
end
end Mine

end
section
open PySem PySem.W PyProof.Rows
set_option Elab.async false
set_option maxRecDepth 100000
set_option autoImplicit false
set_option linter.unusedVariables false
set_option maxHeartbeats 8000000
namespace Mine

theorem law_join {w : World} {E : Value → Shared → Prop} {gh : Heap} {s : Shared} {L fa sa : Addr} {cd : Value} {m : Str → Option Value} {o1 o2 : Obj} {p : Program} {loose : List Str} {mean : ExcName → Option Value} {mg mb : Str → Option Value} {vs : List Value} {ns : List Int} {Q : Flow → Shared → Prop}
    (X' : (hd.heap_39 w.params).In gh) (T' : Top p loose mean mg mb gh) (F' : Fr gh L s.heap m) (N' : News gh L s.heap [(L + 1 + 1, o1), (L + 1, o2), (71, tabObj #[]), (64, tabObj #[])]) (c1 : o1.data = .cell none) (c2 : o2.data = .cell none)
    (hl : gh.IsList sa vs.toArray) (hi : IntsAre vs ns) (hlen : ns.length ≤ 1000) (hm : m "script" = some (.ref sa)) (k68 : CodeHd gh 68 64) (k75 : CodeHd gh 75 71) (l0 : 71 < L ∧ 64 < L)
    (hQ : ∀ s' m', Same s s' → Fr gh L s'.heap m' → GrownAll [(75, 71), (68, 64)] s'.heap → Q (.ret (.bool true)) s') :
    wpAny (Md w) (callerA.deeper (lenv w L fa cd)) (execs (lawB w) (lenv w L fa cd)) Q E s := by
  have G : GdB w gh.get? := fun h k => ⟨X'.keeps k, p, loose, mean, mg, mb, T'.keeps k⟩
  have hLn : gh.get? L = none := Heap.get?_none_of_le F'.above
  have r : Rm (callerA.deeper (lenv w L fa cd)) 12 150 := ⟨rfl, (by show callerA.depth + 1 + 12 < recursionLimit; decide), (by show callerA.units + 3 + 150 < cLine; decide)⟩
  have X : FS s gh.get? L m [(L + 2, IsC none), (L + 1, IsC none), (71, fun x => x = tabObj #[]), (64, fun x => x = tabObj #[])] s := by
    refine ⟨Same.refl s, F'.ns, F'.keep, hLn, fun q hq => ?_, ?_⟩
    · have n1 := N' _ (.head _)
      have n2 := N' _ (.tail _ (.head _))
      have n3 := N' _ (.tail _ (.tail _ (.head _)))
      have n4 := N' _ (.tail _ (.tail _ (.tail _ (.head _))))
      rcases List.mem_cons.mp hq with rfl | hq
      · exact ⟨n1.2.1, n1.2.2, o1, n1.1, c1⟩
      rcases List.mem_cons.mp hq with rfl | hq
      · exact ⟨n2.2.1, n2.2.2, o2, n2.1, c2⟩
      rcases List.mem_cons.mp hq with rfl | hq
      · exact ⟨n3.2.1, n3.2.2, _, n3.1, rfl⟩
      rcases List.mem_cons.mp hq with rfl | hq
      · exact ⟨n4.2.1, n4.2.2, _, n4.1, rfl⟩
      cases hq
    · have h1 : (71 : Nat) < L := l0.1
      have h2 : (64 : Nat) < L := l0.2
      show ([L + 2, L + 1, 71, 64] : List Nat).Nodup
      simp only [List.nodup_cons, List.mem_cons, List.not_mem_nil, or_false, not_or, List.nodup_nil, and_true, not_false_eq_true]
      refine ⟨⟨?_, ?_, ?_⟩, ⟨?_, ?_⟩, ?_⟩
      · intro e; have e' : (L : Nat) + 2 = L + 1 := e; omega
      · intro e; have e' : (L : Nat) + 2 = 71 := e; omega
      · intro e; have e' : (L : Nat) + 2 = 64 := e; omega
      · intro e; have e' : (L : Nat) + 1 = 71 := e; omega
      · intro e; have e' : (L : Nat) + 1 = 64 := e; omega
      · decide
  refine law_body r (Around.frames_deeper rfl) G (fun h k => ⟨vs, hl.at fun o q => k _ _ q, hi⟩) hlen hm (fun h k => k68.keeps k) (fun h k => k75.keeps k) X fun s' m' c c' ps qs Y => ?_
  obtain ⟨oa, ha, rfl⟩ := Y.at' (a := 71) (.tail _ (.tail _ (.head _)))
  obtain ⟨ob, hb, rfl⟩ := Y.at' (a := 64) (.tail _ (.tail _ (.tail _ (.head _))))
  exact hQ s' m' Y.same ⟨Y.ns, Y.keep, F'.above⟩ ⟨⟨ps, ha⟩, ⟨qs, hb⟩, trivial⟩

theorem final : PySem.Challenge.rw_mq0099_01.Holds := hd (by
  k_go0
  (all_goals try k_fold)
  refine law_join (by assumption) (by assumption) (by assumption) (by assumption) ?c1 ?c2 (by assumption) (by assumption) ?hl ?hm ?k68 ?k75 (by assumption) ?q
  case c1 => assumption
  case c2 => assumption
  case hl => omega
  case hm => rfl
  case k68 => assumption
  case k75 => assumption
  case q =>
    intro s' m' hs F hg
    obtain ⟨h', tk', rfl⟩ := hs
    refine ⟨goodW_bool F ?zg ?zn ?zp rfl, hg⟩
    case zg => assumption
    case zn => intro _; rfl
    case zp => first | (kc_post; done) | (wrow_post; done) | kernel_rfl)
end Mine

end
theorem PySem.Challenge.cw_mq0099_01_holds : PySem.Challenge.rw_mq0099_01.Holds :=
  Mine.final
