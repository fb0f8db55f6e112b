import PyProof.Rows.All
import Wide.All
import OpenK.AllK
import Wide.FinOn
import PySem.Challenge.RW_dv0015_02
set_option Elab.async false
section
open PySem PySem.W PySem.Calls PyProof.Rows
namespace Mine
inductive V where
  | none
  | bool (b : Bool)
  | int (n : Int)
  | str (s : Str)
  | tup (xs : List V)
  | rng (a b c : Int)
  | view (cls : String) (d : Addr)
  | ref (a : Addr)
  | cst (v : Value)
def viewCls : List String := ["dict_values", "dict_items"]
abbrev viewObj (c : String) (d : Addr) : Obj := { cls := .type c, data := .fields #[.ref d] }
abbrev tupObj (vs : List Value) (ep : Nat) : Obj := { cls := .type "tuple", data := .seq vs.toArray ep }
abbrev rngObj (a b c : Int) (t u v : Tok) : Obj := { cls := .type "range", data := .fields #[.int a t, .int b u, .int c v] }
inductive Imm : Obj → Prop where
  | tup (vs : List Value) (ep : Nat) : Imm (tupObj vs ep)
  | rng (a b c : Int) (t u v : Tok) : Imm (rngObj a b c t u v)
  | view (c : String) (d : Addr) : viewCls.contains c = true → Imm (viewObj c d)
def immC : Value → Bool
  | .type n => n == "tuple" || n == "range" || viewCls.contains n
  | _ => false
theorem Imm.cls {o : Obj} (i : Imm o) : immC o.cls = true := by
  cases i with
  | tup => rfl
  | rng => rfl
  | view c d h => show (c == "tuple" || c == "range" || viewCls.contains c) = true; rw [h, Bool.or_true]
theorem Imm.data {o : Obj} (i : Imm o) : (∀ es ep, o.data ≠ .dict es ep) ∧ ∀ v, o.data ≠ .cell v := by
  cases i <;> exact ⟨(fun _ _ q => by cases q), (fun _ q => by cases q)⟩
abbrev lstObj (vs : List Value) (ep : Nat) : Obj := { cls := .type "list", data := .seq vs.toArray ep }
mutual
def VR (h : Heap) : V → Value → Prop
  | .none, v => v = .none
  | .bool b, v => v = .bool b
  | .int n, v => ∃ t, v = .int n t
  | .str x, v => ∃ t, v = .str x t
  | .tup xs, v => ∃ a vs ep, v = .ref a ∧ h.get? a = some (tupObj vs ep) ∧ VRs h xs vs
  | .rng x y z, v => ∃ a t u w, v = .ref a ∧ h.get? a = some (rngObj x y z t u w)
  | .view c d, v => ∃ a, v = .ref a ∧ viewCls.contains c = true ∧ h.get? a = some (viewObj c d)
  | .ref a, v => v = .ref a
  | .cst w, v => v = w
def VRs (h : Heap) : List V → List Value → Prop
  | [], vs => vs = []
  | x :: xs, vs => ∃ v r, vs = v :: r ∧ VR h x v ∧ VRs h xs r
end
theorem VRs.length {h : Heap} : ∀ {xs : List V} {vs : List Value}, VRs h xs vs → vs.length = xs.length
  | [], _, e => by unfold VRs at e; rw [e]; rfl
  | _ :: _, _, e => by
    unfold VRs at e
    obtain ⟨v, r, rfl, _, hr⟩ := e
    rw [List.length_cons, List.length_cons, VRs.length hr]
mutual
theorem VR.mono {h h' : Heap} (k : ∀ a o, Imm o → h.get? a = some o → h'.get? a = some o) : ∀ (x : V) (v : Value), VR h x v → VR h' x v
  | .none, _, e => by unfold VR at e ⊢; exact e
  | .bool _, _, e => by unfold VR at e ⊢; exact e
  | .int _, _, e => by unfold VR at e ⊢; exact e
  | .str _, _, e => by unfold VR at e ⊢; exact e
  | .ref _, _, e => by unfold VR at e ⊢; exact e
  | .cst _, _, e => by unfold VR at e ⊢; exact e
  | .tup xs, _, e => by
    unfold VR at e ⊢
    obtain ⟨a, vs, ep, rfl, ha, hr⟩ := e
    exact ⟨a, vs, ep, rfl, k a _ (.tup vs ep) ha, VRs.mono k xs vs hr⟩
  | .rng _ _ _, _, e => by
    unfold VR at e ⊢
    obtain ⟨a, t, u, w, rfl, ha⟩ := e
    exact ⟨a, t, u, w, rfl, k a _ (.rng ..) ha⟩
  | .view c d, _, e => by
    unfold VR at e ⊢
    obtain ⟨a, rfl, hc, ha⟩ := e
    exact ⟨a, rfl, hc, k a _ (.view c d hc) ha⟩
theorem VRs.mono {h h' : Heap} (k : ∀ a o, Imm o → h.get? a = some o → h'.get? a = some o) : ∀ (xs : List V) (vs : List Value), VRs h xs vs → VRs h' xs vs
  | [], _, e => by unfold VRs at e ⊢; exact e
  | x :: xs, _, e => by
    unfold VRs at e ⊢
    obtain ⟨v, r, rfl, hx, hr⟩ := e
    exact ⟨v, r, rfl, VR.mono k x v hx, VRs.mono k xs r hr⟩
end
theorem VRs.nil_iff {h : Heap} {vs : List Value} : VRs h [] vs ↔ vs = [] := by unfold VRs; exact Iff.rfl
theorem VRs.nil' {h : Heap} : VRs h [] [] := by unfold VRs; rfl
theorem VRs.cons {h : Heap} {x : V} {xs : List V} {v : Value} {vs : List Value} (a : VR h x v) (b : VRs h xs vs) : VRs h (x :: xs) (v :: vs) := by
  unfold VRs; exact ⟨v, vs, rfl, a, b⟩
theorem VRs.uncons {h : Heap} {x : V} {xs : List V} {vs : List Value} (e : VRs h (x :: xs) vs) : ∃ v r, vs = v :: r ∧ VR h x v ∧ VRs h xs r := by
  unfold VRs at e; exact e
theorem VRs.append {h : Heap} : ∀ {xs ys : List V} {vs ws : List Value}, VRs h xs vs → VRs h ys ws → VRs h (xs ++ ys) (vs ++ ws)
  | [], _, _, _, e, f => by rw [VRs.nil_iff] at e; subst e; exact f
  | _ :: _, _, _, _, e, f => by obtain ⟨v, r, rfl, hx, hr⟩ := e.uncons; exact .cons hx (VRs.append hr f)
theorem VRs.getElem? {h : Heap} : ∀ {xs : List V} {vs : List Value}, VRs h xs vs → ∀ {i : Nat} {x : V}, xs[i]? = some x → ∃ v, vs[i]? = some v ∧ VR h x v
  | [], _, _, _, _, e => by simp at e
  | y :: ys, vs, hr, i, x, e => by
    obtain ⟨v, r, rfl, hx, hr⟩ := hr.uncons
    cases i with
    | zero => simp only [List.getElem?_cons_zero, Option.some.injEq] at e ⊢; subst e; exact ⟨v, rfl, hx⟩
    | succ j => simp only [List.getElem?_cons_succ] at e ⊢; exact hr.getElem? e
inductive O where
  | list (xs : List V)
  | dict (es : List (Int × V)) (ep : Nat)
  | inst (C dx : Addr)
  | ns (fs : List (Str × V))
  | node (C : Addr) (xs : List V)
  | iter (l : Addr) (i : Nat)
  | bound (id : String) (self : Addr)
  | set (S : Int → Bool) (n : Nat)
  | exc (cls : Value) (args : List V)
abbrev AH := Addr → Option O
abbrev Loc := Str → Option V
def put (H : AH) (a : Addr) (o : O) : AH := fun b => if b = a then some o else H b
def setL (m : Loc) (x : Str) (v : V) : Loc := fun y => if y = x then some v else m y
def delL (m : Loc) (x : Str) : Loc := fun y => if y = x then Option.none else m y
theorem put_self (H : AH) (a : Addr) (o : O) : put H a o a = some o := if_pos rfl
theorem put_ne (H : AH) {a b : Addr} (o : O) (e : b ≠ a) : put H a o b = H b := if_neg e
structure G where
  prog : Program
  w : World
  B : Heap
  K : Frag
  mg : Str → Option Value
  mb : Str → Option Value
  os : OsState
  kin : K.In B
  glob : B.Ns mainGlobals mg
  blt : B.Ns builtinsNs mb
  nolim : B.NoLimit
  sysm : ∃ o, B.get? sysModules = some o
structure Fm where
  A : Around
  env : Env
  stack : List Env
  mine : List Addr
  lvl : Nat
def Fm.fr (F : Fm) : List Addr := F.stack.filterMap (·.frame)
def KV (h : Heap) : List (Int × V) → List (Int × Value) → Prop
  | [], kvs => kvs = []
  | e :: es, kvs => ∃ v r, kvs = (e.1, v) :: r ∧ VR h e.2 v ∧ KV h es r
def NsR (h : Heap) : List (Str × V) → List DictEntry → Prop
  | [], es => es = []
  | f :: fs, es => ∃ hs t v r, es = ⟨hs, .str f.1 t, v⟩ :: r ∧ VR h f.2 v ∧ NsR h fs r
def SlR (h : Heap) : List V → List (Option Value) → Prop
  | [], sl => sl = []
  | x :: xs, sl => ∃ v r, sl = some v :: r ∧ VR h x v ∧ SlR h xs r
abbrev boundObj (id : String) (self : Addr) : Obj := { cls := .type "method-wrapper", data := .fields #[.builtin id, .ref self] }
abbrev iterObj (l : Addr) (i : Nat) : Obj := { cls := .type "list_iterator", data := .fields #[.ref l, .int i 0] }
abbrev nodeObj (C dx : Addr) (sl : List (Option Value)) : Obj := { cls := .ref C, dict := some dx, data := .plain, slots := sl.toArray }
def OH (g : G) (h : Heap) (a : Addr) : O → Prop
  | .list xs => ∃ vs ep, h.get? a = some (lstObj vs ep) ∧ VRs h xs vs
  | .dict es ep => ∃ kvs, h.DictAt (intKind g.prog g.w) a kvs ep ∧ KV h es kvs
  | .inst C dx => h.get? a = some (instObj C dx)
  | .ns fs => ∃ es n, h.get? a = some (dictOf es n) ∧ NsR h fs es
  | .node C xs => ∃ dx sl, h.get? a = some (nodeObj C dx sl) ∧ SlR h xs sl ∧ ∃ o es ep, h.get? dx = some o ∧ o.data = .dict es ep
  | .iter l i => h.get? a = some (iterObj l i)
  | .bound id self => h.get? a = some (boundObj id self)
  | .set S n => ∃ o, h.get? a = some o ∧ o.SetObjOf (intKind g.prog g.w) S n
  | .exc c as => ∃ o vs v, h.get? a = some o ∧ o.cls = c ∧ immC c = false ∧ o.data = .fields vs ∧ vs[0]? = some v ∧ VR h (.tup as) v
def Dct (h h' : Heap) : Prop := ∀ b o es ep, h.get? b = some o → o.data = .dict es ep → ∃ o' es' ep', h'.get? b = some o' ∧ o'.data = .dict es' ep'
theorem Dct.refl (h : Heap) : Dct h h := fun _ o es ep e d => ⟨o, es, ep, e, d⟩
theorem Dct.trans {a b c : Heap} (x : Dct a b) (y : Dct b c) : Dct a c := fun _ _ _ _ e d => let ⟨_, _, _, e', d'⟩ := x _ _ _ _ e d; y _ _ _ _ e' d'
theorem Dct.ext {h h' : Heap} (k : ∀ b o, h.get? b = some o → h'.get? b = some o) : Dct h h' := fun b o es ep e d => ⟨o, es, ep, k b o e, d⟩
structure Mono (h h' : Heap) : Prop where
  tup : ∀ a o, Imm o → h.get? a = some o → h'.get? a = some o
  dct : Dct h h'
theorem Mono.refl (h : Heap) : Mono h h := ⟨fun _ _ _ e => e, .refl h⟩
theorem Mono.trans {a b c : Heap} (x : Mono a b) (y : Mono b c) : Mono a c := ⟨fun _ _ i e => y.tup _ _ i (x.tup _ _ i e), x.dct.trans y.dct⟩
theorem KV.mono {h h' : Heap} (k : Mono h h') : ∀ (es : List (Int × V)) (kvs : List (Int × Value)), KV h es kvs → KV h' es kvs
  | [], _, e => e
  | _ :: es, _, ⟨v, r, e, hv, hr⟩ => ⟨v, r, e, hv.mono k.tup, KV.mono k es r hr⟩
theorem NsR.mono {h h' : Heap} (k : Mono h h') : ∀ (fs : List (Str × V)) (es : List DictEntry), NsR h fs es → NsR h' fs es
  | [], _, e => e
  | _ :: fs, _, ⟨hs, t, v, r, e, hv, hr⟩ => ⟨hs, t, v, r, e, hv.mono k.tup, NsR.mono k fs r hr⟩
theorem SlR.mono {h h' : Heap} (k : Mono h h') : ∀ (xs : List V) (sl : List (Option Value)), SlR h xs sl → SlR h' xs sl
  | [], _, e => e
  | _ :: xs, _, ⟨v, r, e, hv, hr⟩ => ⟨v, r, e, hv.mono k.tup, SlR.mono k xs r hr⟩
theorem OH.get {g : G} {h : Heap} {a : Addr} {o : O} (x : OH g h a o) : ∃ r, h.get? a = some r ∧ immC r.cls = false := by
  cases o with
  | list xs => obtain ⟨vs, ep, e, _⟩ := x; exact ⟨_, e, rfl⟩
  | dict es ep => obtain ⟨kvs, ⟨o, es, e, hc, _⟩, _⟩ := x; exact ⟨_, e, by rw [hc.1]; rfl⟩
  | inst C dx => exact ⟨_, x, rfl⟩
  | ns fs => obtain ⟨es, n, e, _⟩ := x; exact ⟨_, e, rfl⟩
  | node C xs => obtain ⟨dx, sl, e, _⟩ := x; exact ⟨_, e, rfl⟩
  | iter l i => exact ⟨_, x, rfl⟩
  | bound id self => exact ⟨_, x, rfl⟩
  | set S n => obtain ⟨o, e, k, _⟩ := x; exact ⟨_, e, by rw [k.1]; rfl⟩
  | exc c as => obtain ⟨o, vs, v, e, hc, hn, _⟩ := x; exact ⟨_, e, by rw [hc]; exact hn⟩
theorem OH.mono {g : G} {h h' : Heap} {a : Addr} {o : O} (k : Mono h h') (e : h'.get? a = h.get? a) (x : OH g h a o) : OH g h' a o := by
  cases o with
  | list xs => obtain ⟨vs, ep, e', hr⟩ := x; exact ⟨vs, ep, e.trans e', hr.mono k.tup⟩
  | dict es ep => obtain ⟨kvs, ⟨o, es', e', r⟩, hr⟩ := x; exact ⟨kvs, ⟨o, es', e.trans e', r⟩, KV.mono k _ _ hr⟩
  | inst C dx => exact e.trans x
  | ns fs => obtain ⟨es, n, e', hr⟩ := x; exact ⟨es, n, e.trans e', NsR.mono k _ _ hr⟩
  | node C xs => obtain ⟨dx, sl, e', hr, o, es, ep, hd, d⟩ := x; exact ⟨dx, sl, e.trans e', SlR.mono k _ _ hr, k.dct _ _ _ _ hd d⟩
  | iter l i => exact e.trans x
  | bound id self => exact e.trans x
  | set S n => obtain ⟨o, e', r⟩ := x; exact ⟨o, e.trans e', r⟩
  | exc c as => obtain ⟨o, vs, v, e', h1, h2, h3, h4, h5⟩ := x; exact ⟨o, vs, v, e.trans e', h1, h2, h3, h4, h5.mono k.tup⟩
structure LocOk (F : Fm) (m : Loc) (H : AH) (h : Heap) : Prop where
  kind : F.env.scope.kind = .function
  val : ∃ mr, h.Ns F.env.locals mr ∧ ∀ x a, m x = some a → ∃ v, VR h a v ∧ ((F.env.kindOf x = some .local ∧ mr x = some v) ∨
    ((F.env.kindOf x = some .cell ∨ (F.env.kindOf x = some .free ∧ (x == ("__classdict__" : Str)) = false)) ∧ ∃ c, F.env.cells.lookup x = some c ∧ h.IsCell c (some v)))
  cell : ∀ x c, F.env.cells.lookup x = some c → H c = none ∧ ∃ v, h.IsCell c v
  apart : ∀ x y c, F.env.cells.lookup x = some c → F.env.cells.lookup y = some c → x = y
def Own (o : Obj) : Prop := (∃ es ep, o.data = .dict es ep) ∨ ∃ v, o.data = .cell v
structure St (g : G) (F : Fm) (m : Loc) (H : AH) (s : Shared) : Prop where
  base : g.B.StaysIn s.heap
  obj : ∀ a o, H a = some o → g.B.get? a = none ∧ OH g s.heap a o
  loc : LocOk F m H s.heap
  locm : F.env.locals ∈ F.mine
  mine : ∀ b ∈ F.mine, H b = none ∧ g.B.get? b = none ∧ ∃ o, s.heap.get? b = some o ∧ Own o
  frs : s.heap.FunFrames g.B F.stack
  frd : ∀ b ∈ F.fr, H b = none ∧ ∃ o es ep, s.heap.get? b = some o ∧ o.data = .dict es ep
  frame : F.env.frame = F.stack.head?.bind (·.frame)
  Afr : F.A.frames = some F.stack
  gens : s.gens = #[]
  os : s.os = g.os
  room : F.A.depth ≤ 310 + 3 * F.lvl ∧ F.A.units ≤ 100 + 20 * F.lvl ∧ F.lvl ≤ 100 ∧ F.A.guards = some []
  envg : F.env.globals = mainGlobals ∧ F.env.builtins = builtinsNs
structure Keep (F : Fm) (h : Heap) (H : AH) (h' : Heap) (H' : AH) : Prop where
  alive : ∀ b o, h.get? b = some o → ∃ o', h'.get? b = some o'
  dct : Dct h h'
  same : ∀ b o, h.get? b = some o → H b = none → b ∉ F.mine → H' b = none ∧ (h'.get? b = some o ∨ (b ∈ F.fr ∧ ∃ sl, h'.get? b = some { o with slots := sl }))
theorem Keep.refl (F : Fm) (h : Heap) (H : AH) : Keep F h H h H := ⟨fun _ o e => ⟨o, e⟩, .refl h, fun _ _ e n _ => ⟨n, .inl e⟩⟩
theorem Keep.trans {F : Fm} {h h' h'' : Heap} {H H' H'' : AH} (x : Keep F h H h' H') (y : Keep F h' H' h'' H'') : Keep F h H h'' H'' := by
  refine ⟨fun b o e => let ⟨_, e'⟩ := x.alive b o e; y.alive b _ e', x.dct.trans y.dct, fun b o e n k => ?_⟩
  obtain ⟨n', c⟩ := x.same b o e n k
  rcases c with e' | ⟨f, sl, e'⟩
  · exact y.same b o e' n' k
  · obtain ⟨n'', c⟩ := y.same b _ e' n' k
    rcases c with e'' | ⟨_, sl', e''⟩
    · exact ⟨n'', .inr ⟨f, sl, e''⟩⟩
    · exact ⟨n'', .inr ⟨f, sl', e''⟩⟩
structure FlyB (h h' : Heap) (H' : AH) (a : Addr) (vs : Array Value) (T : Addr) (oT : Obj) (ts : Array Value) (x : Value) : Prop where
  q1 : vs[1]? = some (.ref T)
  q2 : T ≠ a
  q3 : h.get? T = none
  q4 : H' T = none
  q5 : h'.get? T = some oT
  q6 : immC oT.cls = false
  q7 : oT.data = .fields ts
  q8 : ts[3]? = some x
structure FlyA (h : Heap) (e c : Value) (as : List V) (h' : Heap) (H' : AH) (a : Addr) (o : Obj) (vs : Array Value) (v : Value) (P : Prop) : Prop where
  h1 : e = .ref a
  h2 : h.get? a = none
  h3 : H' a = none
  h4 : h'.get? a = some o
  h5 : o.cls = c
  h6 : immC c = false
  h7 : o.data = .fields vs
  h8 : vs[0]? = some v
  h9 : VR h' (.tup as) v
  h10 : P
def Fly (h : Heap) (e c : Value) (as : List V) (h' : Heap) (H' : AH) : Prop :=
  ∃ a o vs v, FlyA h e c as h' H' a o vs v (vs[1]? = some .none ∨ ∃ T oT ts x, FlyB h h' H' a vs T oT ts x)
section
variable {g : G} {F : Fm} {m : Loc} {H : AH} {s : Shared}
theorem St.tupFree (S : St g F m H s) {a : Addr} {o : Obj} (i : Imm o) (e : s.heap.get? a = some o) : H a = none ∧ a ∉ F.mine ∧ a ∉ F.fr := by
  refine ⟨?_, fun k => ?_, fun k => ?_⟩
  · cases q : H a with
    | none => rfl
    | some o' =>
      obtain ⟨r, e', n⟩ := (S.obj a o' q).2.get
      rw [e] at e'; cases e'; rw [i.cls] at n; cases n
  · obtain ⟨_, _, o', e', c⟩ := S.mine a k
    rw [e] at e'; cases e'
    rcases c with ⟨_, _, c⟩ | ⟨_, c⟩
    · exact i.data.1 _ _ c
    · exact i.data.2 _ c
  · obtain ⟨_, o', es, ep', e', c⟩ := S.frd a k
    rw [e] at e'; cases e'; exact i.data.1 _ _ c
theorem Keep.mono {h' : Heap} {H' : AH} (S : St g F m H s) (k : Keep F s.heap H h' H') : Mono s.heap h' := by
  refine ⟨fun a o i e => ?_, k.dct⟩
  obtain ⟨n1, n2, n3⟩ := S.tupFree i e
  rcases (k.same a _ e n1 n2).2 with e' | ⟨f, _⟩
  · exact e'
  · exact absurd f n3
end
end Mine
end
section
open PySem PySem.W PySem.Calls PyProof.Rows
namespace Mine
structure Chg (P : Addr → Prop) (h h' : Heap) : Prop where
  alive : ∀ b o, h.get? b = some o → ∃ o', h'.get? b = some o'
  dct : Dct h h'
  same : ∀ b o, h.get? b = some o → ¬ P b → h'.get? b = some o
theorem Chg.refl {P : Addr → Prop} (h : Heap) : Chg P h h := ⟨fun _ o e => ⟨o, e⟩, .refl h, fun _ _ e _ => e⟩
theorem Chg.trans {P : Addr → Prop} {a b c : Heap} (x : Chg P a b) (y : Chg P b c) : Chg P a c :=
  ⟨fun _ _ e => let ⟨_, e'⟩ := x.alive _ _ e; y.alive _ _ e', x.dct.trans y.dct, fun _ _ e n => y.same _ _ (x.same _ _ e n) n⟩
theorem Chg.of_ext {P : Addr → Prop} {h h' : Heap} (k : ∀ b o, h.get? b = some o → h'.get? b = some o) : Chg P h h' := ⟨fun b o e => ⟨o, k b o e⟩, .ext k, fun b o e _ => k b o e⟩
theorem Chg.push {P : Addr → Prop} (h : Heap) (o : Obj) : Chg P h (h.push o) := .of_ext fun _ _ e => Heap.get?_push_of_some o e
theorem Chg.sameBut {h h' : Heap} {a : Addr} {o : Obj} (x : Heap.SameBut a h h') (e : h'.get? a = some o) (hd : ∀ o₀ es ep, h.get? a = some o₀ → o₀.data = .dict es ep → ∃ es' ep', o.data = .dict es' ep') : Chg (· = a) h h' := by
  refine ⟨fun b o' e' => ?_, fun b o' es ep e' d => ?_, fun b o' e' n => (x.2 b n).trans e'⟩
  · by_cases q : b = a
    · subst q; exact ⟨o, e⟩
    · exact ⟨o', (x.2 b q).trans e'⟩
  · by_cases q : b = a
    · subst q; obtain ⟨es', ep', d'⟩ := hd o' es ep e' d; exact ⟨o, es', ep', e, d'⟩
    · exact ⟨o', es, ep, (x.2 b q).trans e', d⟩
theorem Chg.weaken {P Q : Addr → Prop} {h h' : Heap} (x : Chg P h h') (k : ∀ b, P b → Q b) : Chg Q h h' := ⟨x.alive, x.dct, fun b o e n => x.same b o e fun p => n (k b p)⟩
theorem Chg.update {h : Heap} {a : Addr} {o : Obj} (f : Obj → Obj) (e : h.get? a = some o) (hf : (f o).isFreed = false) (hd : ∀ es ep, o.data = .dict es ep → ∃ es' ep', (f o).data = .dict es' ep') : Chg (· = a) h (h.update a f) :=
  .sameBut (.update ..) (Heap.get?_update_self f e hf) fun o₀ es ep e' d => by rw [e] at e'; cases e'; exact hd es ep d
section
variable {g : G} {F : Fm} {m : Loc} {H : AH} {s : Shared}
theorem St.toks (S : St g F m H s) (t : Nat) : St g F m H { s with toks := t } := ⟨S.base, S.obj, S.loc, S.locm, S.mine, S.frs, S.frd, S.frame, S.Afr, S.gens, S.os, S.room, S.envg⟩
theorem ns_mono {h h' : Heap} {a : Addr} {mr : Str → Option Value} (x : h.Ns a mr) (e : ∀ o, h.get? a = some o → h'.get? a = some o ∨ ∃ sl, h'.get? a = some { o with slots := sl }) : h'.Ns a mr := by
  obtain ⟨o, es, ep, ho, hd, r⟩ := x
  rcases e o ho with e' | ⟨sl, e'⟩
  · exact ⟨o, es, ep, e', hd, r⟩
  · exact ⟨_, es, ep, e', hd, r⟩
theorem cell_mono {h h' : Heap} {c : Addr} {v : Option Value} (x : h.IsCell c v) (e : ∀ o, h.get? c = some o → h'.get? c = some o ∨ ∃ sl, h'.get? c = some { o with slots := sl }) : h'.IsCell c v := by
  obtain ⟨o, ho, hd⟩ := x
  rcases e o ho with e' | ⟨sl, e'⟩
  · exact ⟨o, e', hd⟩
  · exact ⟨_, e', hd⟩
theorem LocOk.mono {h h' : Heap} {H' : AH} (x : LocOk F m H h) (k : Mono h h') (hc : ∀ y c, F.env.cells.lookup y = some c → H' c = none)
    (e : ∀ b, (b = F.env.locals ∨ ∃ y, F.env.cells.lookup y = some b) → ∀ o, h.get? b = some o → h'.get? b = some o ∨ ∃ sl, h'.get? b = some { o with slots := sl }) : LocOk F m H' h' := by
  obtain ⟨kd, ⟨mr, hn, hv⟩, cl, ap⟩ := x
  refine ⟨kd, ⟨mr, ns_mono hn (e _ (.inl rfl)), fun y a ha => ?_⟩, fun y c hy => ⟨hc y c hy, let ⟨v, q⟩ := (cl y c hy).2; ⟨v, cell_mono q (e c (.inr ⟨y, hy⟩))⟩⟩, ap⟩
  obtain ⟨v, r, q⟩ := hv y a ha
  refine ⟨v, r.mono k.tup, ?_⟩
  rcases q with q | ⟨q, c, h1, h2⟩
  · exact .inl q
  · exact .inr ⟨q, c, h1, cell_mono h2 (e c (.inr ⟨y, h1⟩))⟩
theorem funFrames_mono {h h' B : Heap} : ∀ {l : List Env}, h.FunFrames B l → (∀ b ∈ l.filterMap (·.frame), ∀ o, h.get? b = some o → ∃ o', h'.get? b = some o' ∧ ((∀ vs, o.data ≠ .fields vs) → ∀ vs, o'.data ≠ .fields vs)) → h'.FunFrames B l
  | [], _, _ => trivial
  | env :: rest, ⟨hk, ⟨L, o, hf, hn, ho, hd⟩, hr⟩, k => by
    obtain ⟨o', e', d'⟩ := k L (by rw [List.filterMap_cons, hf]; exact List.mem_cons_self) o ho
    refine ⟨hk, ⟨L, o', hf, hn, e', d' hd⟩, funFrames_mono hr fun b hb => k b ?_⟩
    rw [List.filterMap_cons, hf]; exact List.mem_cons_of_mem _ hb
theorem St.locIs (S : St g F m H s) : ∀ b, (b = F.env.locals ∨ ∃ y, F.env.cells.lookup y = some b) → H b = none ∧ ∃ o, s.heap.get? b = some o ∧ Own o := by
  rintro b (rfl | ⟨y, hy⟩)
  · obtain ⟨a, _, c⟩ := S.mine _ S.locm; exact ⟨a, c⟩
  · obtain ⟨a, v, o, e, d⟩ := S.loc.cell y b hy; exact ⟨a, o, e, .inr ⟨v, d⟩⟩
theorem St.chg {P : Addr → Prop} {h' : Heap} {H' : AH} {t : Nat} (S : St g F m H s) (C : Chg P s.heap h') (hP : ∀ b, P b → (s.heap.get? b).isSome = true → (H b).isSome = true)
    (hH : ∀ b, (H b).isSome = true ∨ s.heap.get? b = none ∨ H' b = none)
    (hn : ∀ b o, H' b = some o → (H b = some o ∧ ¬ P b) ∨ ((s.heap.get? b = none ∨ (H b).isSome = true) ∧ OH g h' b o)) : St g F m H' { s with heap := h', toks := t } ∧ Keep F s.heap H h' H' := by
  have free : ∀ b, H b = none → (s.heap.get? b).isSome = true → ¬ P b := fun b e i p => by have := hP b p i; rw [e] at this; cases this
  have keep : ∀ b o, s.heap.get? b = some o → H b = none → h'.get? b = some o := fun b o e n => C.same b o e (free b n (by rw [e]; rfl))
  have none' : ∀ b o, s.heap.get? b = some o → H b = none → H' b = none := fun b o e n => by
    rcases hH b with q | q | q
    · rw [n] at q; cases q
    · rw [e] at q; cases q
    · exact q
  have mn : Mono s.heap h' := ⟨fun a o i e => keep a _ e (S.tupFree i e).1, C.dct⟩
  have base : g.B.StaysIn h' := fun b o e => by
    refine keep b o (S.base b o e) ?_
    cases q : H b with
    | none => rfl
    | some o' => have := (S.obj b o' q).1; rw [e] at this; cases this
  refine ⟨⟨base, fun b o e => ?_, ?_, S.locm, fun b hb => ?_, ?_, fun b hb => ?_, S.frame, S.Afr, S.gens, S.os, S.room, S.envg⟩, C.alive, C.dct, fun b o e n _ => ⟨none' b o e n, .inl (keep b o e n)⟩⟩
  · rcases hn b o e with ⟨q, n⟩ | ⟨q, w⟩
    · obtain ⟨b1, b2⟩ := S.obj b o q
      obtain ⟨r, e', _⟩ := b2.get
      exact ⟨b1, b2.mono mn ((C.same b r e' n).trans e'.symm)⟩
    · refine ⟨?_, w⟩
      rcases q with q | q
      · cases z : g.B.get? b with
        | none => rfl
        | some o' => have := S.base b o' z; rw [q] at this; cases this
      · obtain ⟨o', q⟩ := Option.isSome_iff_exists.mp q
        exact (S.obj b o' q).1
  · refine S.loc.mono mn (fun y c hy => ?_) fun b hb o e => .inl (keep b o e (S.locIs b hb).1)
    obtain ⟨n, o, e, _⟩ := S.locIs c (.inr ⟨y, hy⟩)
    exact none' c o e n
  · obtain ⟨n, n', o, e, w⟩ := S.mine b hb
    exact ⟨none' b o e n, n', o, keep b o e n, w⟩
  · refine funFrames_mono S.frs fun b hb o e => ⟨o, keep b o e (S.frd b hb).1, id⟩
  · obtain ⟨n, o, es, ep, e, d⟩ := S.frd b hb
    exact ⟨none' b o e n, o, es, ep, keep b o e n, d⟩
theorem St.ext {h' : Heap} {t : Nat} (S : St g F m H s) (C : ∀ b o, s.heap.get? b = some o → h'.get? b = some o) : St g F m H { s with heap := h', toks := t } ∧ Keep F s.heap H h' H :=
  S.chg (P := fun _ => False) (.of_ext C) (fun _ p => p.elim) (fun b => by cases H b <;> simp) (fun b o e => .inl ⟨e, id⟩)
theorem St.alive (S : St g F m H s) {a : Addr} {o : O} (e : H a = some o) : ∃ r, s.heap.get? a = some r := let ⟨r, q, _⟩ := (S.obj a o e).2.get; ⟨r, q⟩
theorem St.untracked (S : St g F m H s) {a : Addr} (e : s.heap.get? a = none) : H a = none := by
  cases q : H a with
  | none => rfl
  | some o => obtain ⟨r, z⟩ := S.alive q; rw [e] at z; cases z
theorem St.set {a : Addr} {o o' : O} {h' : Heap} {t : Nat} (S : St g F m H s) (C : Chg (· = a) s.heap h') (ha : H a = some o) (hn : OH g h' a o') :
    St g F m (put H a o') { s with heap := h', toks := t } ∧ Keep F s.heap H h' (put H a o') := by
  refine S.chg C (fun b e _ => by subst e; rw [ha]; rfl) (fun b => ?_) (fun b p e => ?_)
  · by_cases q : b = a
    · subst q; exact .inl (by rw [ha]; rfl)
    · rw [put_ne _ _ q]; cases H b <;> simp
  · by_cases q : b = a
    · subst q; rw [put_self] at e; cases e; exact .inr ⟨.inr (by rw [ha]; rfl), hn⟩
    · rw [put_ne _ _ q] at e; exact .inl ⟨e, q⟩
theorem St.new {a : Addr} {o' : O} {h' : Heap} {t : Nat} (S : St g F m H s) (C : ∀ b o, s.heap.get? b = some o → h'.get? b = some o) (ha : s.heap.get? a = none) (hn : OH g h' a o') :
    St g F m (put H a o') { s with heap := h', toks := t } ∧ Keep F s.heap H h' (put H a o') := by
  refine S.chg (P := fun _ => False) (.of_ext C) (fun _ p => p.elim) (fun b => ?_) (fun b p e => ?_)
  · by_cases q : b = a
    · subst q; exact .inr (.inl ha)
    · rw [put_ne _ _ q]; cases H b <;> simp
  · by_cases q : b = a
    · subst q; rw [put_self] at e; cases e; exact .inr ⟨.inl ha, hn⟩
    · rw [put_ne _ _ q] at e; exact .inl ⟨e, id⟩
theorem St.track {a : Addr} {o' : O} {h₀ : Heap} {H₀ : AH} (S : St g F m H s) (K : Keep F h₀ H₀ s.heap H) (h0 : h₀.get? a = none) (hB : g.B.get? a = none) (hH : H a = none) (hm : a ∉ F.mine) (hf : a ∉ F.fr)
    (hc : ∀ y, F.env.cells.lookup y ≠ some a) (hn : OH g s.heap a o') : St g F m (put H a o') s ∧ Keep F h₀ H₀ s.heap (put H a o') := by
  have no : ∀ b, b ≠ a → put H a o' b = H b := fun b q => put_ne _ _ q
  refine ⟨⟨S.base, fun b o e => ?_, ⟨S.loc.kind, S.loc.val, fun y c hy => ?_, S.loc.apart⟩, S.locm, fun b hb => ?_, S.frs, fun b hb => ?_, S.frame, S.Afr, S.gens, S.os, S.room, S.envg⟩, K.alive, K.dct, fun b o e n hb => ?_⟩
  · by_cases q : b = a
    · subst q; rw [put_self] at e; cases e; exact ⟨hB, hn⟩
    · rw [no b q] at e; exact S.obj b o e
  · rw [no c fun q => hc y (q ▸ hy)]; exact S.loc.cell y c hy
  · rw [no b fun q => hm (q ▸ hb)]; exact S.mine b hb
  · rw [no b fun q => hf (q ▸ hb)]; exact S.frd b hb
  · rw [no b fun q => by subst q; rw [h0] at e; cases e]; exact K.same b o e n hb
end
section
variable {g : G} {F : Fm} {m m' : Loc} {H : AH} {s : Shared}
theorem St.own {b : Addr} {h' : Heap} {t : Nat} (S : St g F m H s) (hb : b ∈ F.mine) (C : Chg (· = b) s.heap h') (ho : ∃ o, h'.get? b = some o ∧ Own o)
    (hd : ∀ o es ep, s.heap.get? b = some o → o.data = .dict es ep → ∃ o' es' ep', h'.get? b = some o' ∧ o'.data = .dict es' ep') (hl : LocOk F m' H h') :
    St g F m' H { s with heap := h', toks := t } ∧ Keep F s.heap H h' H := by
  obtain ⟨nb, nB, ob, eb, wb⟩ := S.mine b hb
  have keep : ∀ c o, s.heap.get? c = some o → c ≠ b → h'.get? c = some o := fun c o e n => C.same c o e n
  have ntup : ∀ a o, Imm o → s.heap.get? a = some o → a ≠ b := fun a o i e q => by subst q; exact (S.tupFree i e).2.1 hb
  have mn : Mono s.heap h' := ⟨fun a o i e => keep a _ e (ntup a o i e), C.dct⟩
  refine ⟨⟨fun c o e => keep c o (S.base c o e) (fun q => by subst q; rw [nB] at e; cases e), fun c o e => ?_, hl, S.locm, fun c hc => ?_, ?_, fun c hc => ?_, S.frame, S.Afr, S.gens, S.os, S.room, S.envg⟩, C.alive, C.dct, fun c o e n hc => ⟨n, .inl (keep c o e fun q => hc (q ▸ hb))⟩⟩
  · obtain ⟨b1, b2⟩ := S.obj c o e
    obtain ⟨r, e', _⟩ := b2.get
    exact ⟨b1, b2.mono mn ((keep c r e' fun q => by subst q; rw [nb] at e; cases e).trans e'.symm)⟩
  · by_cases q : c = b
    · subst q; exact ⟨nb, nB, ho⟩
    · obtain ⟨h1, h2, o, h3, h4⟩ := S.mine c hc
      exact ⟨h1, h2, o, keep c o h3 q, h4⟩
  · refine funFrames_mono S.frs fun c hc o e => ?_
    by_cases q : c = b
    · subst q
      obtain ⟨o', e', w⟩ := ho
      refine ⟨o', e', fun _ vs z => ?_⟩
      rcases w with ⟨es, ep, w⟩ | ⟨v, w⟩ <;> rw [w] at z <;> cases z
    · exact ⟨o, keep c o e q, id⟩
  · obtain ⟨h1, o, es, ep, h3, h4⟩ := S.frd c hc
    by_cases q : c = b
    · subst q; exact ⟨h1, hd o es ep h3 h4⟩
    · exact ⟨h1, o, es, ep, keep c o h3 q, h4⟩
end
structure OkS {α β : Type} (g : G) (F : Fm) (R : Heap → β → α → Prop) (Q : β → Loc → AH → Prop) (h : Heap) (H : AH) (a : α) (s' : Shared) (b : β) (m' : Loc) (H' : AH) : Prop where
  r : R s'.heap b a
  st : St g F m' H' s'
  kp : Keep F h H s'.heap H'
  q : Q b m' H'
structure ErS (g : G) (F : Fm) (X : Value → List V → Loc → AH → Prop) (h : Heap) (H : AH) (e : Value) (s' : Shared) (c : Value) (as : List V) (m' : Loc) (H' : AH) : Prop where
  r : Fly h e c as s'.heap H'
  st : St g F m' H' s'
  kp : Keep F h H s'.heap H'
  q : X c as m' H'
def OkP {α β : Type} (g : G) (F : Fm) (R : Heap → β → α → Prop) (Q : β → Loc → AH → Prop) (h : Heap) (H : AH) (a : α) (s' : Shared) : Prop := ∃ b m' H', OkS g F R Q h H a s' b m' H'
def ErP (g : G) (F : Fm) (X : Value → List V → Loc → AH → Prop) (h : Heap) (H : AH) (e : Value) (s' : Shared) : Prop := ∃ c as m' H', ErS g F X h H e s' c as m' H'
theorem OkP.elim {α β : Type} {g : G} {F : Fm} {R : Heap → β → α → Prop} {Q : β → Loc → AH → Prop} {h : Heap} {H : AH} {a : α} {s' : Shared} {P : Prop} (x : OkP g F R Q h H a s')
    (k : ∀ b m' H', R s'.heap b a → St g F m' H' s' → Keep F h H s'.heap H' → Q b m' H' → P) : P := by
  obtain ⟨b, m', H', r, st, kp, q⟩ := x
  exact k b m' H' r st kp q
theorem ErP.elim {g : G} {F : Fm} {X : Value → List V → Loc → AH → Prop} {h : Heap} {H : AH} {e : Value} {s' : Shared} {P : Prop} (x : ErP g F X h H e s')
    (k : ∀ c as m' H', Fly h e c as s'.heap H' → St g F m' H' s' → Keep F h H s'.heap H' → X c as m' H' → P) : P := by
  obtain ⟨c, as, m', H', r, st, kp, q⟩ := x
  exact k c as m' H' r st kp q
theorem ErP.no {g : G} {F : Fm} {h : Heap} {H : AH} {e : Value} {s' : Shared} {P : Prop} (x : ErP g F (fun _ _ _ _ => False) h H e s') : P := x.elim fun _ _ _ _ _ _ _ z => z.elim
def Wt {α β : Type} (g : G) (F : Fm) (R : Heap → β → α → Prop) (t : Sem α) (m : Loc) (H : AH) (Q : β → Loc → AH → Prop) (X : Value → List V → Loc → AH → Prop) : Prop :=
  ∀ s, St g F m H s → wpAny (model g.prog g.w) F.A t (OkP g F R Q s.heap H) (ErP g F X s.heap H) s
abbrev EqR {α : Type} : Heap → α → α → Prop := fun _ b a => b = a
abbrev WE (g : G) (F : Fm) (t : Sem Value) (m : Loc) (H : AH) (Q : V → Loc → AH → Prop) (X : Value → List V → Loc → AH → Prop) : Prop := Wt g F VR t m H Q X
inductive Fl where
  | next | brk | cont
  | ret (v : V)
def FR (h : Heap) : Fl → Flow → Prop
  | .next, f => f = .next
  | .brk, f => f = .brk
  | .cont, f => f = .cont
  | .ret x, f => ∃ v, f = .ret v ∧ VR h x v
abbrev WS (g : G) (F : Fm) (t : Sem Flow) (m : Loc) (H : AH) (Q : Fl → Loc → AH → Prop) (X : Value → List V → Loc → AH → Prop) : Prop := Wt g F FR t m H Q X
abbrev WB (g : G) (F : Fm) (t : Sem Bool) (m : Loc) (H : AH) (Q : Bool → Loc → AH → Prop) (X : Value → List V → Loc → AH → Prop) : Prop := Wt g F EqR t m H Q X
abbrev WU (g : G) (F : Fm) (t : Sem Unit) (m : Loc) (H : AH) (Q : Loc → AH → Prop) (X : Value → List V → Loc → AH → Prop) : Prop := Wt g F EqR t m H (fun (_ : Unit) => Q) X
abbrev WL (g : G) (F : Fm) (t : Sem (List Value)) (m : Loc) (H : AH) (Q : List V → Loc → AH → Prop) (X : Value → List V → Loc → AH → Prop) : Prop := Wt g F VRs t m H Q X
def W1 {α β : Type} (g : G) (F : Fm) (R : Heap → β → α → Prop) (x : V) (t : Value → Sem α) (m : Loc) (H : AH) (Q : β → Loc → AH → Prop) (X : Value → List V → Loc → AH → Prop) : Prop :=
  ∀ s v, St g F m H s → VR s.heap x v → wpAny (model g.prog g.w) F.A (t v) (OkP g F R Q s.heap H) (ErP g F X s.heap H) s
def W2 {α β : Type} (g : G) (F : Fm) (R : Heap → β → α → Prop) (x y : V) (t : Value → Value → Sem α) (m : Loc) (H : AH) (Q : β → Loc → AH → Prop) (X : Value → List V → Loc → AH → Prop) : Prop :=
  ∀ s v u, St g F m H s → VR s.heap x v → VR s.heap y u → wpAny (model g.prog g.w) F.A (t v u) (OkP g F R Q s.heap H) (ErP g F X s.heap H) s
def W3 {α β : Type} (g : G) (F : Fm) (R : Heap → β → α → Prop) (x y z : V) (t : Value → Value → Value → Sem α) (m : Loc) (H : AH) (Q : β → Loc → AH → Prop) (X : Value → List V → Loc → AH → Prop) : Prop :=
  ∀ s v u w, St g F m H s → VR s.heap x v → VR s.heap y u → VR s.heap z w → wpAny (model g.prog g.w) F.A (t v u w) (OkP g F R Q s.heap H) (ErP g F X s.heap H) s
def WN {α β : Type} (g : G) (F : Fm) (R : Heap → β → α → Prop) (xs : List V) (t : List Value → Sem α) (m : Loc) (H : AH) (Q : β → Loc → AH → Prop) (X : Value → List V → Loc → AH → Prop) : Prop :=
  ∀ s vs, St g F m H s → VRs s.heap xs vs → wpAny (model g.prog g.w) F.A (t vs) (OkP g F R Q s.heap H) (ErP g F X s.heap H) s
abbrev k1 {α β : Type} (g : G) (F : Fm) (R : Heap → β → α → Prop) (t : Value → Sem α) (Q : β → Loc → AH → Prop) (X : Value → List V → Loc → AH → Prop) : V → Loc → AH → Prop := fun a m H => W1 g F R a t m H Q X
abbrev k2 {α β : Type} (g : G) (F : Fm) (R : Heap → β → α → Prop) (t : Value → Value → Sem α) (a : V) (Q : β → Loc → AH → Prop) (X : Value → List V → Loc → AH → Prop) : V → Loc → AH → Prop := fun b m H => W2 g F R a b t m H Q X
abbrev kR (g : G) (F : Fm) (r : Expr) (t : Value → Value → Sem Value) (Q : V → Loc → AH → Prop) (X : Value → List V → Loc → AH → Prop) : V → Loc → AH → Prop := fun a m H => WE g F (eval r F.env) m H (k2 g F VR t a Q X) X
abbrev kC (Q : List V → Loc → AH → Prop) (a : V) : List V → Loc → AH → Prop := fun as m H => Q (a :: as) m H
abbrev kL (g : G) (F : Fm) (pos : Pos) (rest : List Expr) (Q : List V → Loc → AH → Prop) (X : Value → List V → Loc → AH → Prop) : V → Loc → AH → Prop := fun a m H => WL g F (spliced (backTo pos (starEach rest F.env))) m H (kC Q a) X
abbrev kTup (Q : V → Loc → AH → Prop) : List V → Loc → AH → Prop := fun as m H => as.length ≤ sizeLine ∧ Q (.tup as) m H
abbrev kList (Q : V → Loc → AH → Prop) : List V → Loc → AH → Prop := fun as m H => as.length ≤ sizeLine ∧ ∀ a, H a = none → Q (.ref a) m (put H a (.list as))
abbrev kNot (Q : Bool → Loc → AH → Prop) : Bool → Loc → AH → Prop := fun b m H => Q (!b) m H
abbrev kTail (g : G) (F : Fm) (rest : List Stmt) (Q : Fl → Loc → AH → Prop) (X : Value → List V → Loc → AH → Prop) : Fl → Loc → AH → Prop := fun f m H => match f with | .next => WS g F (execs rest F.env) m H Q X | f => Q f m H
abbrev kRet (Q : Fl → Loc → AH → Prop) : V → Loc → AH → Prop := fun a m H => Q (.ret a) m H
abbrev kSt (Q : Fl → Loc → AH → Prop) (x : Str) : V → Loc → AH → Prop := fun a m H => Q .next (setL m x a) H
abbrev kW (Q : V → Loc → AH → Prop) (x : Str) : V → Loc → AH → Prop := fun a m H => Q a (setL m x a) H
abbrev kN (Q : Fl → Loc → AH → Prop) : Loc → AH → Prop := fun m H => Q .next m H
abbrev kX (Q : Fl → Loc → AH → Prop) : V → Loc → AH → Prop := fun _ m H => Q .next m H
abbrev kBody (g : G) (F : Fm) (body : List Stmt) (Q : Fl → Loc → AH → Prop) (X : Value → List V → Loc → AH → Prop) : Loc → AH → Prop := fun m H => WS g F (execs body F.env) m H Q X
abbrev kLoop (J : Nat → Loc → AH → Prop) (Q : Fl → Loc → AH → Prop) (i : Nat) : Fl → Loc → AH → Prop := fun f m H => match f with | .next => J (i + 1) m H | .cont => J (i + 1) m H | .brk => Q .next m H | .ret v => Q (.ret v) m H
abbrev kVal (Q : V → Loc → AH → Prop) (v : Fl → V) (m : Loc) : Fl → Loc → AH → Prop := fun fl _ H' => Q (v fl) m H'
abbrev kErr (X : Value → List V → Loc → AH → Prop) (m : Loc) : Value → List V → Loc → AH → Prop := fun c as _ H' => X c as m H'
abbrev kEmit (Q : List V → Loc → AH → Prop) (ys : List V) : V → Loc → AH → Prop := fun a m H => Q (ys ++ [a]) m H
section
variable {α β γ δ : Type} {g : G} {F : Fm} {m m' : Loc} {H H' : AH} {s s' : Shared} {R : Heap → β → α → Prop} {R' : Heap → δ → γ → Prop} {X : Value → List V → Loc → AH → Prop}
theorem OkP.after {Q : β → Loc → AH → Prop} {h h₁ : Heap} {H H₁ : AH} {a : α} (k : Keep F h H h₁ H₁) (x : OkP g F R Q h₁ H₁ a s') : OkP g F R Q h H a s' :=
  let ⟨b, m', H', r, st, k', q⟩ := x; ⟨b, m', H', r, st, k.trans k', q⟩
theorem Fly.since {h h₁ h' : Heap} {H' : AH} {e c : Value} {as : List V} (al : ∀ b o, h.get? b = some o → ∃ o', h₁.get? b = some o') (x : Fly h₁ e c as h' H') : Fly h e c as h' H' := by
  have no : ∀ b, h₁.get? b = none → h.get? b = none := fun b e => by
    cases q : h.get? b with
    | none => rfl
    | some o => obtain ⟨o', z⟩ := al b o q; rw [e] at z; cases z
  obtain ⟨a, o, vs, v, h1, h2, h3, h4, h5, h6, h7, h8, h9, h10⟩ := x
  refine ⟨a, o, vs, v, h1, no a h2, h3, h4, h5, h6, h7, h8, h9, ?_⟩
  rcases h10 with q | ⟨T, oT, ts, x, b⟩
  · exact .inl q
  · exact .inr ⟨T, oT, ts, x, b.q1, b.q2, no T b.q3, b.q4, b.q5, b.q6, b.q7, b.q8⟩
theorem ErP.after {h h₁ : Heap} {H H₁ : AH} {e : Value} (k : Keep F h H h₁ H₁) (x : ErP g F X h₁ H₁ e s') : ErP g F X h H e s' :=
  let ⟨c, as, m', H', r, st, k', q⟩ := x; ⟨c, as, m', H', r.since k.alive, st, k.trans k', q⟩
theorem VR.keep {x : V} {v : Value} (S : St g F m H s) (k : Keep F s.heap H s'.heap H') (r : VR s.heap x v) : VR s'.heap x v := r.mono (k.mono S).tup
theorem VRs.keep {x : List V} {v : List Value} (S : St g F m H s) (k : Keep F s.heap H s'.heap H') (r : VRs s.heap x v) : VRs s'.heap x v := r.mono (k.mono S).tup
theorem Wt.run {t : Sem α} {Q : β → Loc → AH → Prop} {Q' : α → Shared → Prop} {E' : Value → Shared → Prop} (h : Wt g F R t m H Q X) (S : St g F m H s)
    (hq : ∀ a s' b m' H', R s'.heap b a → St g F m' H' s' → Keep F s.heap H s'.heap H' → Q b m' H' → Q' a s') (he : ∀ e s', ErP g F X s.heap H e s' → E' e s') :
    wpAny (model g.prog g.w) F.A t Q' E' s :=
  wpAny_mono (h s S) (fun a s' yy => yy.elim fun b m' H' r st k q => hq a s' b m' H' r st k q) he
theorem Wt.mono {t : Sem α} {Q Q' : β → Loc → AH → Prop} {X' : Value → List V → Loc → AH → Prop} (h : Wt g F R t m H Q X) (hq : ∀ b m' H', Q b m' H' → Q' b m' H') (hx : ∀ c as m' H', X c as m' H' → X' c as m' H') : Wt g F R t m H Q' X' :=
  fun s S => wpAny_mono (h s S) (fun _ _ yy => yy.elim fun b m' H' r st k q => ⟨b, m', H', r, st, k, hq _ _ _ q⟩) fun _ _ yy => yy.elim fun c as m' H' r st k q => ⟨c, as, m', H', r, st, k, hx _ _ _ _ q⟩
theorem Wt.post {t : Sem α} {Q Q' : β → Loc → AH → Prop} (h : Wt g F R t m H Q X) (hq : ∀ b m' H', Q b m' H' → Q' b m' H') : Wt g F R t m H Q' X := h.mono hq fun _ _ _ _ x => x
end
end Mine
end
section
open PySem PySem.W PySem.Calls PyProof.Rows
set_option linter.unusedVariables false
namespace Mine
section
variable {h : Heap}
theorem VR.none' : VR h .none .none := by unfold VR; rfl
theorem VR.bool' (b : Bool) : VR h (.bool b) (.bool b) := by unfold VR; rfl
theorem VR.int' (n : Int) (t : Tok) : VR h (.int n) (.int n t) := by unfold VR; exact ⟨t, rfl⟩
theorem VR.str' (x : Str) (t : Tok) : VR h (.str x) (.str x t) := by unfold VR; exact ⟨t, rfl⟩
theorem VR.ref' (a : Addr) : VR h (.ref a) (.ref a) := by unfold VR; rfl
theorem VR.cst' (v : Value) : VR h (.cst v) v := by unfold VR; rfl
theorem VR.tup' {xs : List V} {a : Addr} {vs : List Value} {ep : Nat} (e : h.get? a = some (tupObj vs ep)) (r : VRs h xs vs) : VR h (.tup xs) (.ref a) := by unfold VR; exact ⟨a, vs, ep, rfl, e, r⟩
theorem VR.none_iff {v : Value} : VR h .none v ↔ v = .none := by unfold VR; exact Iff.rfl
theorem VR.bool_iff {v : Value} {b : Bool} : VR h (.bool b) v ↔ v = .bool b := by unfold VR; exact Iff.rfl
theorem VR.int_iff {v : Value} {n : Int} : VR h (.int n) v ↔ ∃ t, v = .int n t := by unfold VR; exact Iff.rfl
theorem VR.str_iff {v : Value} {x : Str} : VR h (.str x) v ↔ ∃ t, v = .str x t := by unfold VR; exact Iff.rfl
theorem VR.ref_iff {v : Value} {a : Addr} : VR h (.ref a) v ↔ v = .ref a := by unfold VR; exact Iff.rfl
theorem VR.cst_iff {v w : Value} : VR h (.cst w) v ↔ v = w := by unfold VR; exact Iff.rfl
theorem VR.tup_iff {v : Value} {xs : List V} : VR h (.tup xs) v ↔ ∃ a vs ep, v = .ref a ∧ h.get? a = some (tupObj vs ep) ∧ VRs h xs vs := by unfold VR; exact Iff.rfl
end
section
variable {g : G} {F : Fm} {m : Loc} {H : AH} {Q : V → Loc → AH → Prop} {X : Value → List V → Loc → AH → Prop}
theorem OkP.now {α β : Type} {R : Heap → β → α → Prop} {Q : β → Loc → AH → Prop} {s s' : Shared} {a : α} {b : β} (S : St g F m H s) (hh : s'.heap = s.heap) (hg : s'.gens = s.gens) (ho : s'.os = s.os) (r : R s.heap b a) (q : Q b m H) : OkP g F R Q s.heap H a s' := by
  refine ⟨b, m, H, by rw [hh]; exact r, ?_, by rw [hh]; exact .refl .., q⟩
  obtain ⟨h, gs, d, t, o⟩ := s'
  cases hh; cases hg; cases ho
  exact ⟨S.base, S.obj, S.loc, S.locm, S.mine, S.frs, S.frd, S.frame, S.Afr, S.gens, S.os, S.room, S.envg⟩
theorem e_none {k : Nat} {pos : Pos} (h : Q .none m H) : WE g F (eval (.Constant .none k pos) F.env) m H Q X := fun _ S => wpAny_pure (OkP.now S rfl rfl rfl .none' h)
theorem e_bool {b : Bool} {k : Nat} {pos : Pos} (h : Q (.bool b) m H) : WE g F (eval (.Constant (.bool b) k pos) F.env) m H Q X := fun _ S => wpAny_pure (OkP.now S rfl rfl rfl (.bool' b) h)
theorem e_int {i : Int} {k : Nat} {pos : Pos} (h : Q (.int i) m H) : WE g F (eval (.Constant (.int i) k pos) F.env) m H Q X := fun _ S => wpAny_Constant_int (OkP.now S rfl rfl rfl (.int' i _) h)
theorem e_str {x : Str} {k : Nat} {pos : Pos} (h : Q (.str x) m H) : WE g F (eval (.Constant (.str x) k pos) F.env) m H Q X := fun _ S => wpAny_mkText (OkP.now S rfl rfl rfl (.str' x _) h)
theorem n_load {x : Str} {a : V} (hv : m x = some a) (h : Q a m H) : WE g F (loadName F.env x) m H Q X := fun s S => by
  obtain ⟨kd, ⟨mr, hn, hm⟩, _, _⟩ := S.loc
  obtain ⟨v, r, q⟩ := hm x a hv
  rcases q with ⟨q, e⟩ | ⟨q, c, e, ec⟩
  · exact wpAny_loadName_local kd q hn e (OkP.now S rfl rfl rfl r h)
  · rcases q with q | ⟨q, nc⟩
    · exact wpAny_loadName_cell kd q e ec (OkP.now S rfl rfl rfl r h)
    · exact wpAny_loadName_free kd q e ec (OkP.now S rfl rfl rfl r h) nc
theorem e_name {x : Str} {pos : Pos} {a : V} (hv : m x = some a) (h : Q a m H) (hd : (x == ("__debug__" : Str)) = false := by decide) : WE g F (eval (.Name x pos) F.env) m H Q X :=
  fun s S => wpAny_Name (n_load hv h s S) hd
theorem e_glob {x : Str} {pos : Pos} {v : Value} {a : V} (hk : F.env.kindOf x = some .globalImplicit) (hv : nsIn g.K mainGlobals x = some (some v)) (hr : ∀ h, VR h a v) (h : Q a m H) (hd : (x == ("__debug__" : Str)) = false := by decide) :
    WE g F (eval (.Name x pos) F.env) m H Q X := fun s S => by
  refine wpAny_Name ?_ hd
  rw [loadName_read S.loc.kind hk]
  unfold loadGlobal
  rw [S.envg.1]
  have hm : g.mg x = some v := mg_of g.kin g.glob hv
  refine wpAny_bind (wpAny_nsGet (g.glob.keeps S.base) ?_)
  rw [hm]
  exact wpAny_pure (OkP.now S rfl rfl rfl (hr _) h)
theorem e_blt {x : Str} {pos : Pos} {v : Value} (hk : F.env.kindOf x = some .globalImplicit) (hv : nsIn g.K mainGlobals x = some none) (hb : g.mb x = some v) (h : Q (.cst v) m H) (hd : (x == ("__debug__" : Str)) = false := by decide) :
    WE g F (eval (.Name x pos) F.env) m H Q X := fun s S => by
  refine wpAny_Name ?_ hd
  rw [loadName_read S.loc.kind hk]
  unfold loadGlobal
  rw [S.envg.1, S.envg.2]
  have hm : g.mg x = none := ns_none_of g.kin g.glob hv
  refine wpAny_bind (wpAny_nsGet (g.glob.keeps S.base) ?_)
  rw [hm]
  refine wpAny_bind (wpAny_nsGet (g.blt.keeps S.base) ?_)
  rw [hb]
  exact wpAny_pure (OkP.now S rfl rfl rfl (.cst' v) h)
theorem e_bin {l r : Expr} {op : Operator} {pos : Pos}
    (h : WE g F (eval l F.env) m H (kR g F r (binaryOp op) Q X) X) : WE g F (eval (.BinOp l op r pos) F.env) m H Q X :=
  fun s S => wpAny_BinOp (h.run S (fun _ _ _ _ _ r₁ S₁ k₁ h₁ => h₁.run S₁ (fun _ _ _ _ _ r₂ S₂ k₂ h₂ =>
    wpAny_mono (h₂ _ _ _ S₂ (r₁.keep S₁ k₂) r₂) (fun _ _ x => x.after (k₁.trans k₂)) (fun _ _ x => x.after (k₁.trans k₂))) (fun _ _ x => x.after k₁)) (fun _ _ x => x))
theorem e_cmp {l r : Expr} {op : CmpOp} {pos : Pos} (hm : behindInMarks op r = false)
    (h : WE g F (eval l F.env) m H (kR g F r (compareOp op) Q X) X) : WE g F (eval (.Compare l [op] [r] pos) F.env) m H Q X :=
  fun s S => wpAny_Compare1 (h.run S (fun _ _ _ _ _ r₁ S₁ k₁ h₁ => h₁.run S₁ (fun _ _ _ _ _ r₂ S₂ k₂ h₂ =>
    wpAny_mono (h₂ _ _ _ S₂ (r₁.keep S₁ k₂) r₂) (fun _ _ x => x.after (k₁.trans k₂)) (fun _ _ x => x.after (k₁.trans k₂))) (fun _ _ x => x.after k₁)) (fun _ _ x => x)) hm
theorem e_un {x : Expr} {op : UnaryOp} {pos : Pos} (h : WE g F (eval x F.env) m H (k1 g F VR (unaryOp op) Q X) X) : WE g F (eval (.UnaryOp op x pos) F.env) m H Q X :=
  fun s S => wpAny_UnaryOp (h.run S (fun _ _ _ _ _ r₁ S₁ k₁ h₁ => wpAny_mono (h₁ _ _ S₁ r₁) (fun _ _ x => x.after k₁) (fun _ _ x => x.after k₁)) (fun _ _ x => x))
theorem e_if {t b o : Expr} {pos : Pos} (h : WB g F (isTrue t F.env (eval t F.env)) m H (fun c m H => if c then WE g F (eval b F.env) m H Q X else WE g F (eval o F.env) m H Q X) X) : WE g F (eval (.IfExp t b o pos) F.env) m H Q X :=
  fun s S => wpAny_IfExp (h.run S (fun c s₁ c' m₁ H₁ r₁ S₁ k₁ h₁ => by
    cases r₁
    cases c
    · exact h₁.run S₁ (fun _ _ b m H r S' k q => ⟨b, m, H, r, S', k₁.trans k, q⟩) (fun _ _ x => x.after k₁)
    · exact h₁.run S₁ (fun _ _ b m H r S' k q => ⟨b, m, H, r, S', k₁.trans k, q⟩) (fun _ _ x => x.after k₁)) (fun _ _ x => x))
theorem e_or {x y : Expr} {pos : Pos} (h : WE g F (eval x F.env) m H (fun a m H => W1 g F EqR a truthy m H (fun c m H => if c then Q a m H else WE g F (eval y F.env) m H Q X) X) X) : WE g F (eval (.BoolOp .Or [x, y] pos) F.env) m H Q X :=
  fun s S => wpAny_Or2 (h.run S (fun v s₁ a m₁ H₁ r₁ S₁ k₁ h₁ => wpAny_mono (h₁ _ _ S₁ r₁) (fun c s₂ yy => yy.elim fun c' m₂ H₂ rc S₂ k₂ h₂ => by
    cases rc
    cases c
    · exact h₂.run S₂ (fun _ _ b m H r S' k q => ⟨b, m, H, r, S', (k₁.trans k₂).trans k, q⟩) (fun _ _ x => x.after (k₁.trans k₂))
    · exact ⟨a, m₂, H₂, r₁.keep S₁ k₂, S₂, k₁.trans k₂, h₂⟩) (fun _ _ x => x.after k₁)) (fun _ _ x => x))
theorem e_and {x y : Expr} {pos : Pos} (h : WE g F (eval x F.env) m H (fun a m H => W1 g F EqR a truthy m H (fun c m H => if c then WE g F (eval y F.env) m H Q X else Q a m H) X) X) : WE g F (eval (.BoolOp .And [x, y] pos) F.env) m H Q X :=
  fun s S => wpAny_And2 (h.run S (fun v s₁ a m₁ H₁ r₁ S₁ k₁ h₁ => wpAny_mono (h₁ _ _ S₁ r₁) (fun c s₂ yy => yy.elim fun c' m₂ H₂ rc S₂ k₂ h₂ => by
    cases rc
    cases c
    · exact ⟨a, m₂, H₂, r₁.keep S₁ k₂, S₂, k₁.trans k₂, h₂⟩
    · exact h₂.run S₂ (fun _ _ b m H r S' k q => ⟨b, m, H, r, S', (k₁.trans k₂).trans k, q⟩) (fun _ _ x => x.after (k₁.trans k₂))) (fun _ _ x => x.after k₁)) (fun _ _ x => x))
theorem l_nil {pos : Pos} {Q : List V → Loc → AH → Prop} (h : Q [] m H) : WL g F (spliced (backTo pos (starEach [] F.env))) m H Q X := fun s S => wpAny_items_nil (OkP.now S rfl rfl rfl .nil' h)
theorem l_cons {pos : Pos} {e : Expr} {rest : List Expr} {Q : List V → Loc → AH → Prop}
    (h : WE g F (eval e F.env) m H (kL g F pos rest Q X) X)
    (he : starEach (e :: rest) F.env = (false, eval e F.env) :: starEach rest F.env := by rfl) : WL g F (spliced (backTo pos (starEach (e :: rest) F.env))) m H Q X :=
  fun s S => wpAny_items_cons (h.run S (fun v s₁ a m₁ H₁ r₁ S₁ k₁ h₁ => h₁.run S₁ (fun vs s₂ as m₂ H₂ r₂ S₂ k₂ h₂ => ⟨a :: as, m₂, H₂, .cons (r₁.keep S₁ k₂) r₂, S₂, k₁.trans k₂, h₂⟩) (fun _ _ x => x.after k₁)) (fun _ _ x => x)) he
theorem e_tup {elts : List Expr} {k : Nat} {pos : Pos} (h : WL g F (spliced (backTo pos (starEach elts F.env))) m H (kTup Q) X) : WE g F (eval (.Tuple elts k pos) F.env) m H Q X :=
  fun s S => wpAny_Tuple (h.run S (fun vs s₁ as m₁ H₁ r₁ S₁ k₁ h₁ => by
    refine ⟨by rw [r₁.length]; exact h₁.1, ?_⟩
    have C : ∀ b o, s₁.heap.get? b = some o → (s₁.heap.push (tupObj vs 0)).get? b = some o := fun _ _ e => Heap.get?_push_of_some _ e
    obtain ⟨S', k'⟩ := S₁.ext (t := s₁.toks) C
    exact ⟨.tup as, m₁, H₁, .tup' (Heap.get?_push_size _ rfl) (r₁.mono (fun _ _ _ e => C _ _ e)), S', k₁.trans k', h₁.2⟩) (fun _ _ x => x))
theorem e_list {elts : List Expr} {pos : Pos} (h : WL g F (spliced (backTo pos (starEach elts F.env))) m H (kList Q) X) : WE g F (eval (.List elts pos) F.env) m H Q X :=
  fun s S => wpAny_List (h.run S (fun vs s₁ as m₁ H₁ r₁ S₁ k₁ h₁ => by
    refine ⟨by rw [r₁.length]; exact h₁.1, ?_⟩
    have C : ∀ b o, s₁.heap.get? b = some o → (s₁.heap.push (lstObj vs 0)).get? b = some o := fun _ _ e => Heap.get?_push_of_some _ e
    have n : s₁.heap.get? s₁.heap.objs.size = none := Heap.get?_none_of_le (Nat.le_refl _)
    obtain ⟨S', k'⟩ := S₁.new (t := s₁.toks) (o' := .list as) C n ⟨vs, 0, Heap.get?_push_size _ rfl, r₁.mono (fun _ _ _ e => C _ _ e)⟩
    exact ⟨.ref _, m₁, _, .ref' _, S', k₁.trans k', h₁.2 _ (S₁.untracked n)⟩) (fun _ _ x => x))
theorem t_cmp {l r : Expr} {op : CmpOp} {pos : Pos} {whole : Sem Value} {Q : Bool → Loc → AH → Prop} (hm : behindInMarks op r = false)
    (h : WE g F (eval l F.env) m H (kR g F r (compareOp op) (k1 g F EqR truthy Q X) X) X) : WB g F (isTrue (.Compare l [op] [r] pos) F.env whole) m H Q X :=
  fun s S => wpAny_isTrue_Compare1 (h.run S (fun _ _ _ _ _ r₁ S₁ k₁ h₁ => h₁.run S₁ (fun _ _ _ _ _ r₂ S₂ k₂ h₂ =>
    wpAny_mono (h₂ _ _ _ S₂ (r₁.keep S₁ k₂) r₂) (fun _ _ yy => yy.elim fun c m₃ H₃ r₃ S₃ k₃ h₃ => wpAny_mono (h₃ _ _ S₃ r₃) (fun _ _ x => x.after ((k₁.trans k₂).trans k₃)) (fun _ _ x => x.after ((k₁.trans k₂).trans k₃)))
      (fun _ _ x => x.after (k₁.trans k₂))) (fun _ _ x => x.after k₁)) (fun _ _ x => x)) hm
theorem t_not {x : Expr} {pos : Pos} {whole : Sem Value} {Q : Bool → Loc → AH → Prop} (h : WB g F (isTrue x F.env (eval x F.env)) m H (kNot Q) X) : WB g F (isTrue (.UnaryOp .Not x pos) F.env whole) m H Q X :=
  fun s S => wpAny_isTrue_Not (h.run S (fun b s₁ b' m₁ H₁ r₁ S₁ k₁ h₁ => by cases r₁; exact ⟨_, m₁, H₁, rfl, S₁, k₁, h₁⟩) (fun _ _ x => x))
theorem t_val {e : Expr} {Q : Bool → Loc → AH → Prop} (h : WE g F (eval e F.env) m H (k1 g F EqR truthy Q X) X)
    (he : isTrue e F.env (eval e F.env) = (do let v ← eval e F.env; standAt e.pos; holding [v] (truthy v)) := by rfl) : WB g F (isTrue e F.env (eval e F.env)) m H Q X :=
  fun s S => wpAny_isTrue_value (h.run S (fun _ _ _ _ _ r₁ S₁ k₁ h₁ => wpAny_mono (h₁ _ _ S₁ r₁) (fun _ _ x => x.after k₁) (fun _ _ x => x.after k₁)) (fun _ _ x => x)) he
theorem t_bool {op : BoolOp} {vs : List Expr} {pos : Pos} {whole : Sem Value} {Q : Bool → Loc → AH → Prop} (h : WB g F (allTrue op vs F.env) m H Q X) : WB g F (isTrue (.BoolOp op vs pos) F.env whole) m H Q X :=
  fun s S => wpAny_isTrue_BoolOp (h s S)
theorem t_and_nil {Q : Bool → Loc → AH → Prop} (h : Q true m H) : WB g F (allTrue .And [] F.env) m H Q X := fun s S => wpAny_allTrue_And_nil (OkP.now S rfl rfl rfl rfl h)
theorem t_or_nil {Q : Bool → Loc → AH → Prop} (h : Q false m H) : WB g F (allTrue .Or [] F.env) m H Q X := fun s S => wpAny_allTrue_Or_nil (OkP.now S rfl rfl rfl rfl h)
theorem t_and {x : Expr} {rest : List Expr} {Q : Bool → Loc → AH → Prop} (h : WB g F (isTrue x F.env (eval x F.env)) m H (fun b m H => if b then WB g F (allTrue .And rest F.env) m H Q X else Q false m H) X) : WB g F (allTrue .And (x :: rest) F.env) m H Q X :=
  fun s S => wpAny_allTrue_And_cons (h.run S (fun b s₁ b' m₁ H₁ r₁ S₁ k₁ h₁ => by
    cases r₁
    cases b
    · exact ⟨_, m₁, H₁, rfl, S₁, k₁, h₁⟩
    · exact h₁.run S₁ (fun _ _ b m H r S' k q => ⟨b, m, H, r, S', k₁.trans k, q⟩) (fun _ _ x => x.after k₁)) (fun _ _ x => x))
theorem t_or {x : Expr} {rest : List Expr} {Q : Bool → Loc → AH → Prop} (h : WB g F (isTrue x F.env (eval x F.env)) m H (fun b m H => if b then Q true m H else WB g F (allTrue .Or rest F.env) m H Q X) X) : WB g F (allTrue .Or (x :: rest) F.env) m H Q X :=
  fun s S => wpAny_allTrue_Or_cons (h.run S (fun b s₁ b' m₁ H₁ r₁ S₁ k₁ h₁ => by
    cases r₁
    cases b
    · exact h₁.run S₁ (fun _ _ b m H r S' k q => ⟨b, m, H, r, S', k₁.trans k, q⟩) (fun _ _ x => x.after k₁)
    · exact ⟨_, m₁, H₁, rfl, S₁, k₁, h₁⟩) (fun _ _ x => x))
end
end Mine
end
section
open PySem PySem.W PySem.Calls PyProof.Rows
set_option linter.unusedVariables false
namespace Mine
section
variable {g : G} {F : Fm} {m : Loc} {H : AH} {X : Value → List V → Loc → AH → Prop}
def Stores (F : Fm) (x : Str) : Prop := F.env.kindOf x = some .local ∨ (F.env.kindOf x = some .cell ∧ ∃ c, F.env.cells.lookup x = some c ∧ c ∈ F.mine)
theorem n_store {x : Str} {a : V} {Q : Loc → AH → Prop} (hx : Stores F x) (h : Q (setL m x a) H) : W1 g F EqR a (fun v => storeName F.env x v) m H (fun (_ : Unit) m H => Q m H) X := fun s v S r => by
  obtain ⟨kd, ⟨mr, hn, hm⟩, cl, ap⟩ := S.loc
  rcases hx with hx | ⟨hx, c, hc, hcm⟩
  · refine wpAny_storeName_local hx hn (fun h' hn' hs => ?_) (by rw [kd]; rfl)
    obtain ⟨oL, esL, epL, eL, dL, rL⟩ := id hn'
    have C : Chg (· = F.env.locals) s.heap h' := .sameBut hs eL fun _ _ _ _ _ => ⟨_, _, dL⟩
    have cne : ∀ y c, F.env.cells.lookup y = some c → c ≠ F.env.locals := fun y c hy q => by
      obtain ⟨_, v₀, o, e, d⟩ := cl y c hy
      obtain ⟨o₂, es₂, ep₂, e₂, d₂, _⟩ := hn
      rw [q, e₂] at e; cases e; rw [d₂] at d; cases d
    have tup : ∀ a o, Imm o → s.heap.get? a = some o → h'.get? a = some o := fun a o i e => C.same a _ e fun q => by subst q; exact (S.tupFree i e).2.1 S.locm
    have L' : LocOk F (setL m x a) H h' := ⟨kd, ⟨_, hn', fun y b hy => by
        unfold setL at hy
        by_cases q : y = x
        · subst q; rw [if_pos rfl] at hy; cases hy
          exact ⟨v, r.mono tup, .inl ⟨hx, if_pos rfl⟩⟩
        · rw [if_neg q] at hy
          obtain ⟨u, ru, z⟩ := hm y b hy
          refine ⟨u, ru.mono tup, ?_⟩
          rcases z with ⟨z1, z2⟩ | ⟨z1, c, z2, z3⟩
          · exact .inl ⟨z1, by rw [if_neg q]; exact z2⟩
          · exact .inr ⟨z1, c, z2, z3.sameBut hs (cne y c z2)⟩⟩,
      fun y c hy => ⟨(cl y c hy).1, let ⟨u, z⟩ := (cl y c hy).2; ⟨u, z.sameBut hs (cne y c hy)⟩⟩, ap⟩
    obtain ⟨S', k⟩ := S.own (t := s.toks + 1) S.locm C ⟨_, eL, .inl ⟨_, _, dL⟩⟩ (fun _ _ _ _ _ => ⟨_, _, _, eL, dL⟩) L'
    exact ⟨(), _, _, rfl, S', k, h⟩
  · obtain ⟨_, v₀, ic⟩ := cl x c hc
    refine wpAny_storeName_cell kd hx hc ic (fun h' ic' hs => ?_)
    obtain ⟨oc, ec, dc⟩ := id ic'
    have C : Chg (· = c) s.heap h' := .sameBut hs ec fun o₀ es ep e d => by obtain ⟨o', e', d'⟩ := ic; rw [e'] at e; cases e; rw [d'] at d; cases d
    have lne : F.env.locals ≠ c := fun q => by
      obtain ⟨o, e, d⟩ := ic
      obtain ⟨o₂, es₂, ep₂, e₂, d₂, _⟩ := hn
      rw [q, e] at e₂; cases e₂; rw [d] at d₂; cases d₂
    have tup : ∀ a o, Imm o → s.heap.get? a = some o → h'.get? a = some o := fun a o i e => C.same a _ e fun q => by subst q; exact (S.tupFree i e).2.1 hcm
    have L' : LocOk F (setL m x a) H h' := ⟨kd, ⟨mr, hn.sameBut hs lne, fun y b hy => by
        unfold setL at hy
        by_cases q : y = x
        · subst q; rw [if_pos rfl] at hy; cases hy
          exact ⟨v, r.mono tup, .inr ⟨.inl hx, c, hc, ic'⟩⟩
        · rw [if_neg q] at hy
          obtain ⟨u, ru, z⟩ := hm y b hy
          refine ⟨u, ru.mono tup, ?_⟩
          rcases z with z | ⟨z1, c', z2, z3⟩
          · exact .inl z
          · exact .inr ⟨z1, c', z2, z3.sameBut hs fun e => q (ap y x c (e ▸ z2) hc)⟩⟩,
      fun y c' hy => ⟨(cl y c' hy).1, by
        by_cases q : c' = c
        · subst q; exact ⟨_, ic'⟩
        · obtain ⟨u, z⟩ := (cl y c' hy).2; exact ⟨u, z.sameBut hs q⟩⟩, ap⟩
    obtain ⟨S', k⟩ := S.own (t := s.toks) hcm C ⟨_, ec, .inr ⟨_, dc⟩⟩ (fun o es ep e d => by obtain ⟨o', e', d'⟩ := ic; rw [e'] at e; cases e; rw [d'] at d; cases d) L'
    exact ⟨(), _, _, rfl, S', k, h⟩
variable {Q : Fl → Loc → AH → Prop}
theorem s_nil (h : Q .next m H) : WS g F (execs [] F.env) m H Q X := fun s S => wpAny_execs_nil (OkP.now (b := Fl.next) S rfl rfl rfl rfl h)
theorem s_cons {st : Stmt} {rest : List Stmt} (h : WS g F (exec st F.env) m H (kTail g F rest Q X) X) : WS g F (execs (st :: rest) F.env) m H Q X :=
  fun s S => wpAny_execs_cons (h.run S (fun f s₁ f' m₁ H₁ r₁ S₁ k₁ h₁ => by
    cases f' with
    | next => cases r₁; exact h₁.run S₁ (fun _ _ b m H r S' k q => ⟨b, m, H, r, S', k₁.trans k, q⟩) (fun _ _ x => x.after k₁)
    | brk => cases r₁; exact ⟨.brk, m₁, H₁, rfl, S₁, k₁, h₁⟩
    | cont => cases r₁; exact ⟨.cont, m₁, H₁, rfl, S₁, k₁, h₁⟩
    | ret x => obtain ⟨v, rfl, rv⟩ := r₁; exact ⟨.ret x, m₁, H₁, ⟨v, rfl, rv⟩, S₁, k₁, h₁⟩) (fun _ _ x => x))
theorem s_pass {pos : Pos} (h : Q .next m H) : WS g F (exec (.Pass pos) F.env) m H Q X := fun s S => wpAny_Pass (OkP.now (b := Fl.next) S rfl rfl rfl rfl h)
theorem s_break {pos : Pos} (h : Q .brk m H) : WS g F (exec (.Break pos) F.env) m H Q X := fun s S => wpAny_Break (OkP.now (b := Fl.brk) S rfl rfl rfl rfl h)
theorem s_cont {pos : Pos} (h : Q .cont m H) : WS g F (exec (.Continue pos) F.env) m H Q X := fun s S => wpAny_Continue (OkP.now (b := Fl.cont) S rfl rfl rfl rfl h)
theorem s_ret {e : Expr} {pos : Pos} (h : WE g F (eval e F.env) m H (kRet Q) X) : WS g F (exec (.Return (some e) pos) F.env) m H Q X :=
  fun s S => wpAny_Return_some (h.run S (fun v _ a m₁ H₁ r₁ S₁ k₁ h₁ => ⟨.ret a, m₁, H₁, ⟨v, rfl, r₁⟩, S₁, k₁, h₁⟩) (fun _ _ x => x))
theorem s_if {t : Expr} {b o : List Stmt} {pos : Pos} (h : WB g F (isTrue t F.env (eval t F.env)) m H (fun c m H => if c then WS g F (execs b F.env) m H Q X else WS g F (execs o F.env) m H Q X) X) : WS g F (exec (.If t b o pos) F.env) m H Q X :=
  fun s S => wpAny_If (h.run S (fun c s₁ c' m₁ H₁ r₁ S₁ k₁ h₁ => by
    cases r₁
    cases c
    · exact h₁.run S₁ (fun _ _ b m H r S' k q => ⟨b, m, H, r, S', k₁.trans k, q⟩) (fun _ _ x => x.after k₁)
    · exact h₁.run S₁ (fun _ _ b m H r S' k q => ⟨b, m, H, r, S', k₁.trans k, q⟩) (fun _ _ x => x.after k₁)) (fun _ _ x => x))
theorem s_assign {x : Str} {pos' pos : Pos} {e : Expr} (hx : Stores F x) (hs : swapsWith e (some (.Name x pos')) pos.line F.env = pure false) (h : WE g F (eval e F.env) m H (kSt Q x) X) :
    WS g F (exec (.Assign [.Name x pos'] e pos) F.env) m H Q X :=
  fun s S => wpAny_Assign_Name (h.run S (fun v s₁ a m₁ H₁ r₁ S₁ k₁ h₁ => wpAny_mono (n_store (X := X) (Q := fun m H => Q .next m H) hx h₁ s₁ v S₁ r₁) (fun _ _ yy => yy.elim fun _ m₂ H₂ _ S₂ k₂ h₂ => ⟨.next, m₂, H₂, rfl, S₂, k₁.trans k₂, h₂⟩) (fun _ _ x => x.after k₁)) (fun _ _ x => x)) hs
theorem s_aug {x : Str} {pos' pos : Pos} {op : Operator} {e : Expr} (hx : Stores F x)
    (h : WE g F (loadName F.env x) m H (fun a m H => WE g F (eval e F.env) m H (fun b m H => W2 g F VR a b (inplaceOp op) m H (fun c m H => Q .next (setL m x c) H) X) X) X) : WS g F (exec (.AugAssign (.Name x pos') op e pos) F.env) m H Q X :=
  fun s S => wpAny_AugAssign_Name (h.run S (fun v s₁ a m₁ H₁ r₁ S₁ k₁ h₁ => h₁.run S₁ (fun _ s₂ b m₂ H₂ r₂ S₂ k₂ h₂ => wpAny_mono (h₂ _ _ _ S₂ (r₁.keep S₁ k₂) r₂) (fun _ s₃ yy => yy.elim fun c m₃ H₃ r₃ S₃ k₃ h₃ =>
    wpAny_mono (n_store (X := X) (Q := fun m H => Q .next m H) hx h₃ s₃ _ S₃ r₃) (fun _ _ yy => yy.elim fun _ m₄ H₄ _ S₄ k₄ h₄ => ⟨.next, m₄, H₄, rfl, S₄, ((k₁.trans k₂).trans k₃).trans k₄, h₄⟩) (fun _ _ x => x.after ((k₁.trans k₂).trans k₃)))
      (fun _ _ x => x.after (k₁.trans k₂))) (fun _ _ x => x.after k₁)) (fun _ _ x => x))
abbrev WA (g : G) (F : Fm) (t : Expr) (a : V) (m : Loc) (H : AH) (Q : Loc → AH → Prop) (X : Value → List V → Loc → AH → Prop) : Prop := W1 g F EqR a (fun v => assign t F.env v) m H (fun (_ : Unit) m H => Q m H) X
theorem a_name {x : Str} {pos : Pos} {a : V} {Q : Loc → AH → Prop} (hx : Stores F x) (h : Q (setL m x a) H) : WA g F (.Name x pos) a m H Q X := fun s v S r =>
  wpAny_bind (wpAny_standAt (wpAny_bindName (n_store (X := X) hx h s v S r)))
theorem e_walrus {x : Str} {pos' pos : Pos} {e : Expr} {Q : V → Loc → AH → Prop} (hx : Stores F x) (h : WE g F (eval e F.env) m H (kW Q x) X) : WE g F (eval (.NamedExpr (.Name x pos') e pos) F.env) m H Q X :=
  fun s S => wpAny_NamedExpr (h.run S (fun v s₁ a m₁ H₁ r₁ S₁ k₁ h₁ => wpAny_mono (a_name (X := X) (pos := pos') (Q := fun m H => Q a m H) hx h₁ s₁ v S₁ r₁) (fun _ _ yy => yy.elim fun _ m₂ H₂ _ S₂ k₂ h₂ => ⟨a, m₂, H₂, r₁.keep S₁ k₂, S₂, k₁.trans k₂, h₂⟩) (fun _ _ x => x.after k₁)) (fun _ _ x => x))
theorem s_assign1 {t : Expr} {pos : Pos} {e : Expr} (hs : swapsWithSole [t] e pos.line F.env = pure false) (hw : swappedStores [t] e F.env = pure none) (he : (assignEach [t] F.env).map (·.2) = [assign t F.env])
    (h : WE g F (eval e F.env) m H (fun a m H => WA g F t a m H (kN Q) X) X) : WS g F (exec (.Assign [t] e pos) F.env) m H Q X :=
  fun s S => wpAny_Assign_stores (h.run S (fun v s₁ a m₁ H₁ r₁ S₁ k₁ h₁ => by
    rw [he]
    exact wpAny_mono (h₁ s₁ v S₁ r₁) (fun _ _ yy => yy.elim fun _ m₂ H₂ _ S₂ k₂ h₂ => ⟨.next, m₂, H₂, rfl, S₂, k₁.trans k₂, h₂⟩) (fun _ _ x => x.after k₁)) (fun _ _ x => x)) hs hw
theorem s_assign2 {t₁ t₂ : Expr} {pos : Pos} {e : Expr} (he : (assignEach [t₁, t₂] F.env).map (·.2) = [assign t₁ F.env, assign t₂ F.env]) (hw : swappedStores [t₁, t₂] e F.env = pure none)
    (h : WE g F (eval e F.env) m H (fun a m H => WA g F t₁ a m H (fun m H => WA g F t₂ a m H (kN Q) X) X) X) : WS g F (exec (.Assign [t₁, t₂] e pos) F.env) m H Q X :=
  fun s S => wpAny_Assign_two (h.run S (fun v s₁ a m₁ H₁ r₁ S₁ k₁ h₁ => wpAny_mono (h₁ s₁ v S₁ r₁) (fun _ s₂ yy => yy.elim fun _ m₂ H₂ _ S₂ k₂ h₂ =>
    wpAny_mono (h₂ s₂ v S₂ (r₁.keep S₁ k₂)) (fun _ _ yy => yy.elim fun _ m₃ H₃ _ S₃ k₃ h₃ => ⟨.next, m₃, H₃, rfl, S₃, (k₁.trans k₂).trans k₃, h₃⟩) (fun _ _ x => x.after (k₁.trans k₂))) (fun _ _ x => x.after k₁)) (fun _ _ x => x)) he hw
end
end Mine
end
section
open PySem PySem.W PySem.Calls PyProof.Rows
set_option linter.unusedVariables false
namespace Mine
section
variable {g : G} {F : Fm} {m : Loc} {H : AH} {s : Shared} {h₀ : Heap} {H₀ : AH}
theorem St.recd {b : Addr} {o : Obj} {vs : Array Value} {f : Obj → Obj} (S : St g F m H s) (e : s.heap.get? b = some o) (hd : o.data = .fields vs) (hH : H b = none) (hB : g.B.get? b = none) (hi : immC o.cls = false) (hf : (f o).isFreed = false) :
    St g F m H { s with heap := s.heap.update b f } ∧ (Keep F h₀ H₀ s.heap H → h₀.get? b = none → Keep F h₀ H₀ (s.heap.update b f) H) := by
  have ne : ∀ c o', s.heap.get? c = some o' → (∀ vs, o'.data ≠ .fields vs) → c ≠ b := fun c o' e' n q => by subst q; rw [e] at e'; cases e'; exact n _ hd
  have other : ∀ c, c ≠ b → (s.heap.update b f).get? c = s.heap.get? c := fun c n => Heap.get?_update_other _ _ (Ne.symm n)
  have al : ∀ c o', s.heap.get? c = some o' → ∃ o'', (s.heap.update b f).get? c = some o'' := fun c o' e' => by
    by_cases q : c = b
    · subst q; exact ⟨_, Heap.get?_update_self f e hf⟩
    · exact ⟨o', (other c q).trans e'⟩
  have dc : Dct s.heap (s.heap.update b f) := fun c o' es ep e' d => ⟨o', es, ep, (other c (ne c o' e' fun vs z => by rw [d] at z; cases z)).trans e', d⟩
  have mn : Mono s.heap (s.heap.update b f) := ⟨fun a o' i e' => (other a fun q => by subst q; rw [e] at e'; cases e'; rw [i.cls] at hi; cases hi).trans e', dc⟩
  have own : ∀ c o', s.heap.get? c = some o' → Own o' → c ≠ b := fun c o' e' w => ne c o' e' fun vs z => by rcases w with ⟨_, _, w⟩ | ⟨_, w⟩ <;> rw [w] at z <;> cases z
  refine ⟨⟨fun c o' e' => (other c fun q => by subst q; rw [hB] at e'; cases e').trans (S.base c o' e'), fun c o' e' => ?_, ?_, S.locm, fun c hc => ?_, ?_, fun c hc => ?_, S.frame, S.Afr, S.gens, S.os, S.room, S.envg⟩, fun K n0 => ⟨fun c o' e' => let ⟨_, e''⟩ := K.alive c o' e'; al c _ e'', K.dct.trans dc, fun c o' e' n hc => ?_⟩⟩
  · obtain ⟨b1, b2⟩ := S.obj c o' e'
    exact ⟨b1, b2.mono mn (other c fun q => by subst q; rw [hH] at e'; cases e')⟩
  · refine S.loc.mono mn (fun y c hy => (S.locIs c (.inr ⟨y, hy⟩)).1) fun c hc o' e' => .inl ?_
    obtain ⟨_, o'', e'', w⟩ := S.locIs c hc
    rw [e''] at e'; cases e'
    exact (other c (own c _ e'' w)).trans e''
  · obtain ⟨h1, h2, o', h3, h4⟩ := S.mine c hc
    exact ⟨h1, h2, o', (other c (own c _ h3 h4)).trans h3, h4⟩
  · refine funFrames_mono S.frs fun c hc o' e' => ?_
    obtain ⟨_, o'', es, ep, e'', d⟩ := S.frd c hc
    rw [e''] at e'; cases e'
    exact ⟨_, (other c (own c _ e'' (.inl ⟨_, _, d⟩))).trans e'', id⟩
  · obtain ⟨h1, o', es, ep, h3, h4⟩ := S.frd c hc
    exact ⟨h1, o', es, ep, (other c (own c _ h3 (.inl ⟨_, _, h4⟩))).trans h3, h4⟩
  · obtain ⟨n', z⟩ := K.same c o' e' n hc
    have cb : c ≠ b := fun q => by subst q; rw [n0] at e'; cases e'
    rw [other c cb]; exact ⟨n', z⟩
theorem St.slots {h₁ : Heap} (S : St g F m H s) (sl : Heap.SlotsOnly F.fr s.heap h₁) : St g F m H { s with heap := h₁ } ∧ Keep F s.heap H h₁ H := by
  have al : ∀ c o', s.heap.get? c = some o' → ∃ o'', h₁.get? c = some o'' := fun c o' e' => let ⟨_, z⟩ := sl.2.2 c o' e'; ⟨_, z⟩
  have dc : Dct s.heap h₁ := fun c o' es ep e' d => let ⟨_, z⟩ := sl.2.2 c o' e'; ⟨_, es, ep, z, d⟩
  have mn : Mono s.heap h₁ := ⟨fun a o i e' => (sl.2.1 a (S.tupFree i e').2.2).trans e', dc⟩
  have up : ∀ c o', s.heap.get? c = some o' → h₁.get? c = some o' ∨ (c ∈ F.fr ∧ ∃ x, h₁.get? c = some { o' with slots := x }) := fun c o' e' => by
    by_cases q : c ∈ F.fr
    · exact .inr ⟨q, sl.2.2 c o' e'⟩
    · exact .inl ((sl.2.1 c q).trans e')
  refine ⟨⟨fun c o' e' => ?_, fun c o' e' => ?_, ?_, S.locm, fun c hc => ?_, ?_, fun c hc => ?_, S.frame, S.Afr, S.gens, S.os, S.room, S.envg⟩, al, dc, fun c o' e' n _ => ⟨n, up c o' e'⟩⟩
  · have : c ∉ F.fr := fun q => by
      have := (S.frs.mem q).1
      rw [e'] at this; cases this
    exact (sl.2.1 c this).trans (S.base c o' e')
  · obtain ⟨b1, b2⟩ := S.obj c o' e'
    exact ⟨b1, b2.mono mn (sl.2.1 c fun q => by have := (S.frd c q).1; rw [e'] at this; cases this)⟩
  · refine S.loc.mono mn (fun y c hy => (S.locIs c (.inr ⟨y, hy⟩)).1) fun c hc o' e' => (up c o' e').imp id fun z => z.2
  · obtain ⟨h1, h2, o', h3, h4⟩ := S.mine c hc
    rcases up c o' h3 with z | ⟨_, x, z⟩
    · exact ⟨h1, h2, o', z, h4⟩
    · exact ⟨h1, h2, _, z, h4⟩
  · refine funFrames_mono S.frs fun c hc o' e' => ?_
    rcases up c o' e' with z | ⟨_, x, z⟩
    · exact ⟨_, z, id⟩
    · exact ⟨_, z, id⟩
  · obtain ⟨h1, o', es, ep, h3, h4⟩ := S.frd c hc
    rcases up c o' h3 with z | ⟨_, x, z⟩
    · exact ⟨h1, o', es, ep, z, h4⟩
    · exact ⟨h1, _, es, ep, z, h4⟩
def FlyT (h : Heap) (e c : Value) (as : List V) (h' : Heap) (H' : AH) : Prop :=
  ∃ a o vs v T oT ts x, FlyA h e c as h' H' a o vs v (FlyB h h' H' a vs T oT ts x)
theorem FlyT.fly {h h' : Heap} {H' : AH} {e c : Value} {as : List V} (x : FlyT h e c as h' H') : Fly h e c as h' H' :=
  let ⟨a, o, vs, v, T, oT, ts, y, h1, h2, h3, h4, h5, h6, h7, h8, h9, r⟩ := x
  ⟨a, o, vs, v, h1, h2, h3, h4, h5, h6, h7, h8, h9, .inr ⟨T, oT, ts, y, r⟩⟩
theorem Keep.base (S : St g F m H s) {b : Addr} (K : Keep F h₀ H₀ s.heap H) (B0 : g.B.StaysIn h₀) (e : h₀.get? b = none) : g.B.get? b = none := by
  cases q : g.B.get? b with
  | none => rfl
  | some o => rw [B0 b o q] at e; cases e
theorem note_new {c : Value} {as : List V} {a : Addr} {o : Obj} {vs : Array Value} {v head : Value} {b : Bool} {L : Addr} {Q : Unit → Shared → Prop} {E : Value → Shared → Prop} (S : St g F m H s) (K : Keep F h₀ H₀ s.heap H) (B0 : g.B.StaysIn h₀)
    (hL : F.env.frame = some L) (h2 : h₀.get? a = none) (h3 : H a = none) (h4 : s.heap.get? a = some o) (h5 : o.cls = c) (h6 : immC c = false) (h7 : o.data = .fields vs) (h8 : vs[0]? = some v) (h9 : VR s.heap (.tup as) v) (hsz : 1 < vs.size)
    (h : ∀ s', St g F m H s' → Keep F h₀ H₀ s'.heap H → FlyT h₀ (.ref a) c as s'.heap H → Q () s') :
    wpAny (model g.prog g.w) F.A (do let x ← PySem.frameOf F.env; let pl ← entryPlaceOf L b; let y ← EntryCells.newEntry head x .none (rawInt L) .none pl; setField (.ref a) 1 y) Q E s := by
  have hfr := S.frame
  rw [hL] at hfr
  obtain ⟨env₀, outer, hst, hf0⟩ : ∃ e r, F.stack = e :: r ∧ e.frame = some L := by
    cases q : F.stack with
    | nil => rw [q] at hfr; cases hfr
    | cons e r => rw [q] at hfr; exact ⟨e, r, rfl, hfr.symm⟩
  have hB : g.B.get? a = none := Keep.base S K B0 h2
  unfold PySem.frameOf
  refine wpAny_bind (wpAny_bind (wpAny_frameEnvs S.Afr ?_))
  have hdw : (F.stack.dropWhile fun x => x.frame != F.env.frame) = env₀ :: outer := by rw [hst, hL]; simp [List.dropWhile, hf0]
  rw [hdw]
  unfold frameObject
  refine wpAny_bind (wpAny_bind (wpAny_readyFrames_fun (base := g.B) (hst ▸ S.frs) fun h₁ hs₁ => wpAny_pure ?_))
  rw [hf0]
  refine wpAny_pure ?_
  obtain ⟨S₁, K₁⟩ := S.slots (h₁ := h₁) (by unfold Fm.fr; rw [hst]; exact hs₁)
  have K₁' := K.trans K₁
  have na : a ∉ F.fr := fun q => by obtain ⟨_, o', es, ep, e', d⟩ := S.frd a q; rw [h4] at e'; cases e'; rw [h7] at d; cases d
  have h4₁ : h₁.get? a = some o := by
    refine (hs₁.2.1 a ?_).trans h4
    unfold Fm.fr at na; rw [hst] at na; exact na
  refine wpAny_bind (wpAny_entryPlaceOf fun pl hpl => ?_)
  unfold EntryCells.newEntry newFields
  refine wpAny_bind (wpAny_newObj_type ?_ (hpl.sizeOk5 _ _ _ _ _))
  have nT : h₁.get? h₁.objs.size = none := Heap.get?_none_of_le (Nat.le_refl _)
  have C : ∀ b o, h₁.get? b = some o → (h₁.push { cls := .type "traceback", dict := none, data := .fields ([head, .ref L, .none, rawInt L, .none] ++ (if pl.isEmpty then List.replicate 6 Value.none else pl)).toArray }).get? b = some o := fun _ _ e => Heap.get?_push_of_some _ e
  obtain ⟨S₂, K₂⟩ := S₁.ext (t := s.toks) C
  have h4₂ := C a o h4₁
  have hd₃ := Obj.data_mapFields h7 (·.setIfInBounds 1 (Value.ref h₁.objs.size))
  obtain ⟨S₃, K₃⟩ := S₂.recd (h₀ := h₀) (H₀ := H₀) (f := Obj.mapFields (·.setIfInBounds 1 (Value.ref h₁.objs.size))) h4₂ h7 h3 hB (h5 ▸ h6) (Obj.isFreed_of_fields hd₃)
  refine wpAny_setField h4₂ h7 hsz (h _ S₃ (K₃ (K₁'.trans K₂) h2) ?_)
  have hTa : h₁.objs.size ≠ a := Nat.ne_of_gt (Heap.lt_size h4₁)
  have n0 : h₀.get? h₁.objs.size = none := by
    cases q : h₀.get? h₁.objs.size with
    | none => rfl
    | some o' => obtain ⟨o'', z⟩ := K₁'.alive _ o' q; have z' : h₁.get? h₁.objs.size = some o'' := z; rw [nT] at z'; cases z'
  refine ⟨a, _, _, v, h₁.objs.size, _, _, rawInt L, rfl, h2, h3, Heap.get?_update_self _ h4₂ (Obj.isFreed_of_fields hd₃), (Obj.cls_mapFields ..).trans h5, h6, hd₃, ?_, ?_, ?_, hTa, n0, S₁.untracked nT,
    (Heap.get?_update_other _ _ (Ne.symm hTa)).trans (Heap.get?_push_size _ rfl), rfl, rfl, ?_⟩
  · simp only [Array.getElem?_setIfInBounds]; simpa using h8
  · have := (h9.keep S K₁).keep S₁ (s' := { s with heap := h₁.push { cls := .type "traceback", dict := none, data := .fields ([head, .ref L, .none, rawInt L, .none] ++ (if pl.isEmpty then List.replicate 6 Value.none else pl)).toArray } }) K₂
    refine this.mono fun x ob i e => (Heap.get?_update_other _ _ fun q => ?_).trans e
    subst q; rw [h4₂] at e; cases e; rw [← h5, i.cls] at h6; cases h6
  · simp [Array.getElem?_setIfInBounds, hsz]
  · rcases hpl with rfl | ⟨_, _, _, _, _, _, _, rfl⟩ <;> simp
theorem note {e c : Value} {as : List V} {Q : Unit → Shared → Prop} {E : Value → Shared → Prop} (S : St g F m H s) (K : Keep F h₀ H₀ s.heap H) (B0 : g.B.StaysIn h₀) (f : Fly h₀ e c as s.heap H) (hL : ∃ L, F.env.frame = some L)
    (h : ∀ s', St g F m H s' → Keep F h₀ H₀ s'.heap H → FlyT h₀ e c as s'.heap H → Q () s') : wpAny (model g.prog g.w) F.A (noteFrame e F.env) Q E s := by
  obtain ⟨L, hL⟩ := hL
  obtain ⟨a, o, vs, v, rfl, h2, h3, h4, h5, h6, h7, h8, h9, h10⟩ := f
  unfold noteFrame
  simp only [hL]
  have hB : g.B.get? a = none := Keep.base S K B0 h2
  rcases h10 with h1 | ⟨T, oT, ts, x, t1, t2, t3, t4, t5, t6, t7, t8⟩
  · have hsz : 1 < vs.size := (Array.getElem?_eq_some_iff.mp h1).1
    refine wpAny_bind (wpAny_field h4 h7 h1 ?_)
    rw [if_neg (by decide)]
    exact note_new S K B0 hL h2 h3 h4 h5 h6 h7 h8 h9 hsz h
  · have hsz : 1 < vs.size := (Array.getElem?_eq_some_iff.mp t1).1
    refine wpAny_bind (wpAny_field h4 h7 t1 ?_)
    rw [if_pos (show (Value.ref T != Value.none) = true from by simp)]
    refine wpAny_bind (wpAny_field t5 t7 t8 ?_)
    by_cases q : (x == rawInt L) = true
    · rw [if_pos q]
      exact wpAny_pure (h s S K ⟨a, o, vs, v, T, oT, ts, x, rfl, h2, h3, h4, h5, h6, h7, h8, h9, t1, t2, t3, t4, t5, t6, t7, t8⟩)
    · rw [if_neg q]
      have hBT : g.B.get? T = none := Keep.base S K B0 t3
      have hdT := Obj.data_mapFields t7 (·.setIfInBounds 3 Value.none)
      obtain ⟨S₁, K₁⟩ := S.recd (h₀ := h₀) (H₀ := H₀) (f := Obj.mapFields (·.setIfInBounds 3 Value.none)) t5 t7 t4 hBT t6 (Obj.isFreed_of_fields hdT)
      refine wpAny_bind (wpAny_setField t5 t7 (Array.getElem?_eq_some_iff.mp t8).1 ?_)
      refine note_new S₁ (K₁ K t3) B0 hL h2 h3 ((Heap.get?_update_other _ _ t2).trans h4) h5 h6 h7 h8 ?_ hsz h
      refine h9.mono fun y ob i e => (Heap.get?_update_other _ _ fun q => ?_).trans e
      subst q; rw [t5] at e; cases e; rw [i.cls] at t6; cases t6
theorem flight {e c : Value} {as : List V} {fr : Option Addr} {Q : Unit → Shared → Prop} {E : Value → Shared → Prop} (S : St g F m H s) (K : Keep F h₀ H₀ s.heap H) (B0 : g.B.StaysIn h₀) (f : FlyT h₀ e c as s.heap H)
    (h : ∀ s', St g F m H s' → Keep F h₀ H₀ s'.heap H → FlyT h₀ e c as s'.heap H → Q () s') : wpAny (model g.prog g.w) F.A (setFlight e fr) Q E s := by
  obtain ⟨a, o, vs, v, T, oT, ts, x, rfl, h2, h3, h4, h5, h6, h7, h8, h9, t1, t2, t3, t4, t5, t6, t7, t8⟩ := f
  unfold setFlight
  refine wpAny_bind (wpAny_field h4 h7 t1 ?_)
  rw [if_pos (show (Value.ref T != Value.none) = true from by simp)]
  have hBT : g.B.get? T = none := Keep.base S K B0 t3
  have hs3 := (Array.getElem?_eq_some_iff.mp t8).1
  have hdT := Obj.data_mapFields t7 (·.setIfInBounds 3 (fr.elim Value.none fun f => rawInt f))
  obtain ⟨S₁, K₁⟩ := S.recd (h₀ := h₀) (H₀ := H₀) (f := Obj.mapFields (·.setIfInBounds 3 (fr.elim Value.none fun f => rawInt f))) t5 t7 t4 hBT t6 (Obj.isFreed_of_fields hdT)
  refine wpAny_setField t5 t7 hs3 (h _ S₁ (K₁ K t3) ⟨a, o, vs, v, T, _, _, (fr.elim Value.none fun f => rawInt f), rfl, h2, h3, (Heap.get?_update_other _ _ t2).trans h4, h5, h6, h7, h8, ?_, t1, t2, t3, t4,
    Heap.get?_update_self _ t5 (Obj.isFreed_of_fields hdT), by rw [Obj.cls_mapFields]; exact t6, hdT, by simp [Array.getElem?_setIfInBounds, hs3]⟩)
  refine h9.mono fun y ob i e => (Heap.get?_update_other _ _ fun q => ?_).trans e
  subst q; rw [t5] at e; cases e; rw [i.cls] at t6; cases t6
theorem noted {X : Value → List V → Loc → AH → Prop} {e : Value} (B0 : g.B.StaysIn h₀) (hL : ∃ L, F.env.frame = some L) {s' : Shared} (x : ErP g F X h₀ H₀ e s') {E : Value → Shared → Prop}
    (h : ∀ s'' c as m' H', St g F m' H' s'' → Keep F h₀ H₀ s''.heap H' → FlyT h₀ e c as s''.heap H' → X c as m' H' → E e s'') : notedBy (model g.prog g.w) F.A F.env E e s' := by
  obtain ⟨c, as, m', H', f, S, K, q⟩ := x
  exact note S K B0 f hL fun s'' S' K' f' => h s'' c as m' H' S' K' f' q
theorem cameBack {X : Value → List V → Loc → AH → Prop} {e c : Value} {as : List V} (B0 : g.B.StaysIn h₀) (S : St g F m H s) (K : Keep F h₀ H₀ s.heap H) (f : FlyT h₀ e c as s.heap H) (q : X c as m H) :
    cameBackBy (model g.prog g.w) F.A F.env (ErP g F X h₀ H₀) e s := by
  unfold cameBackBy
  have f' := f
  obtain ⟨a, o, vs, v, T, oT, ts, x, rfl, h2, h3, h4, h5, h6, h7, h8, h9, t1, t2, t3, t4, t5, t6, t7, t8⟩ := f
  refine wpAny_bind (wpAny_field h4 h7 t1 ?_)
  rw [if_neg (show ¬ ((Value.ref T == Value.none) = true) from by simp)]
  exact flight S K B0 f' fun s' S' K' f'' => ⟨c, as, m, H, f''.fly, S', K', q⟩
theorem St.frameL (S : St g F m H s) (hs : F.stack ≠ []) : ∃ L, F.env.frame = some L := by
  have h1 := S.frame
  have h2 := S.frs
  cases q : F.stack with
  | nil => exact absurd q hs
  | cons e r =>
    rw [q] at h1 h2
    obtain ⟨_, ⟨L, o, hf, _⟩, _⟩ := h2
    exact ⟨L, h1.trans hf⟩
end
end Mine
end
section
open PySem PySem.W PySem.Calls PyProof.Rows
set_option linter.unusedVariables false
namespace Mine
def BR (h : Heap) : List (Str × V) → List (Str × Value) → Prop
  | [], vs => vs = []
  | b :: bs, vs => ∃ v r, vs = (b.1, v) :: r ∧ VR h b.2 v ∧ BR h bs r
theorem BR.mono {h h' : Heap} (k : ∀ a o, Imm o → h.get? a = some o → h'.get? a = some o) : ∀ (bs : List (Str × V)) (vs : List (Str × Value)), BR h bs vs → BR h' bs vs
  | [], _, e => e
  | _ :: bs, _, ⟨v, r, e, hv, hr⟩ => ⟨v, r, e, hv.mono k, BR.mono k bs r hr⟩
def bindAbs : List (Str × V) → Loc → Loc
  | [], m => m
  | (n, a) :: r, m => bindAbs r (setL m n a)
def Fl.val : Fl → V
  | .ret v => v
  | _ => .none
def Binds (g : G) (fd : FuncData) (xs : List V) (bs : List (Str × V)) : Prop :=
  ∀ (A : Around) (s : Shared) (vs : List Value) (E : Value → Shared → Prop) (Q : List (Str × Value) → Shared → Prop), g.K.In s.heap → VRs s.heap xs vs →
    (∀ binds h', (∀ b o, s.heap.get? b = some o → h'.get? b = some o) → BR h' bs binds → Q binds { s with heap := h' }) → wpAny (model g.prog g.w) A (bindArgs fd ⟨vs, []⟩) Q E s
structure FrameOf (F' F : Fm) (sc : Scope) : Prop where
  scope : F'.env.scope = sc
  handled : F'.A.handled = F.A.handled
  lvl : F'.lvl = F.lvl + 1
  cells : ∀ x, sc.names.lookup x = some .cell → ∃ c, F'.env.cells.lookup x = some c ∧ c ∈ F'.mine
  stack : F'.stack = F'.env :: F.stack
def Fm.call (F : Fm) (fd : FuncData) (f L : Addr) : Fm where
  A := F.A.deeper (callEnvC fd L f)
  env := callEnvC fd L f
  stack := callEnvC fd L f :: F.stack
  mine := L :: (((cellsFrom (L + 1) fd.scope.names []).filter fun p => (cellsFrom (L + 1) fd.scope.names []).lookup p.1 == some p.2).map (·.2))
  lvl := F.lvl + 1
section
variable {g : G} {F : Fm} {m : Loc} {H : AH} {s : Shared}
theorem bind_loc {kindOf : Str → Option NameKind} {h : Heap} : ∀ {bs : List (Str × V)} {binds : List (Str × Value)} {m : Loc} {mr cm : Str → Option Value}, BR h bs binds → (∀ x ∈ bs, kindOf x.1 = some .local ∨ kindOf x.1 = some .cell) →
    (∀ x a, m x = some a → ∃ v, VR h a v ∧ ((kindOf x = some .local ∧ mr x = some v) ∨ (kindOf x = some .cell ∧ cm x = some v))) →
    ∀ x a, bindAbs bs m x = some a → ∃ v, VR h a v ∧ ((kindOf x = some .local ∧ bindL kindOf binds mr x = some v) ∨ (kindOf x = some .cell ∧ bindC kindOf binds cm x = some v))
  | [], _, m, mr, cm, e, _, hm => by cases e; exact hm
  | (n, b) :: bs, _, m, mr, cm, ⟨v, r, e, hv, hr⟩, hk, hm => by
    subst e
    unfold bindAbs bindL bindC
    refine bind_loc hr (fun x hx => hk x (List.mem_cons_of_mem _ hx)) fun x a hx => ?_
    unfold setL at hx
    rcases hk _ List.mem_cons_self with q | q
    · have q : kindOf n = some .local := q
      rw [if_pos q, if_pos q]
      by_cases z : x = n
      · subst z; rw [if_pos rfl] at hx; cases hx; exact ⟨v, hv, .inl ⟨q, if_pos rfl⟩⟩
      · rw [if_neg z] at hx
        obtain ⟨u, ru, w⟩ := hm x a hx
        exact ⟨u, ru, w.imp (fun ⟨w1, w2⟩ => ⟨w1, by rw [if_neg z]; exact w2⟩) id⟩
    · have q : kindOf n = some .cell := q
      have q' : ¬ kindOf n = some .local := by rw [q]; decide
      rw [if_neg q', if_neg q']
      by_cases z : x = n
      · subst z; rw [if_pos rfl] at hx; cases hx; exact ⟨v, hv, .inr ⟨q, if_pos rfl⟩⟩
      · rw [if_neg z] at hx
        obtain ⟨u, ru, w⟩ := hm x a hx
        exact ⟨u, ru, w.imp id fun ⟨w1, w2⟩ => ⟨w1, by rw [if_neg z]; exact w2⟩⟩
theorem St.lt (S : St g F m H s) {b : Addr} (n : s.heap.objs.size ≤ b) : H b = none ∧ g.B.get? b = none ∧ s.heap.get? b = none := by
  have e : s.heap.get? b = none := Heap.get?_none_of_le n
  refine ⟨S.untracked e, ?_, e⟩
  cases q : g.B.get? b with
  | none => rfl
  | some o => rw [S.base b o q] at e; cases e
theorem St.enter {fd : FuncData} {f : Addr} {bs : List (Str × V)} {binds : List (Str × Value)} {s' : Shared} (S : St g F m H s) (hl : F.lvl < 100) (hk : fd.scope.kind = .function) (hg : fd.globals = mainGlobals) (hb : fd.builtins = builtinsNs)
    (hbr : BR s.heap bs binds) (hkind : ∀ x ∈ bs, fd.scope.names.lookup x.1 = some .local ∨ fd.scope.names.lookup x.1 = some .cell)
    (x : InCallC s (callEnvC fd s.heap.objs.size f).locals (bindL (callEnvC fd s.heap.objs.size f).kindOf binds fun _ => none) (callEnvC fd s.heap.objs.size f).cells (bindC (callEnvC fd s.heap.objs.size f).kindOf binds fun _ => none) s') :
    St g (F.call fd f s.heap.objs.size) (bindAbs bs fun _ => none) H s' ∧ FrameOf (F.call fd f s.heap.objs.size) F fd.scope := by
  obtain ⟨⟨⟨h', tk, rfl⟩, hn, kp, _⟩, hc, hap, hab⟩ := x
  have mn : Mono s.heap h' := ⟨fun _ _ _ e => kp _ _ e, .ext kp⟩
  have big : ∀ n c, (callEnvC fd s.heap.objs.size f).cells.lookup n = some c → s.heap.objs.size ≤ c := fun n c e => Nat.le_of_lt (hab n c (mem_of_lookup e))
  have hLl : (callEnvC fd s.heap.objs.size f).locals = s.heap.objs.size := rfl
  obtain ⟨oL, esL, epL, eL, dL, _⟩ := id hn
  refine ⟨⟨fun b o e => kp b o (S.base b o e), fun b o e => ?_, ⟨hk, ⟨_, hn, fun y a ha => ?_⟩, fun y c hy => ⟨(S.lt (big y c hy)).1, _, hc y c hy⟩, fun y z c hy hz => name_of_addr hap (mem_of_lookup hy) (mem_of_lookup hz)⟩, List.mem_cons_self, fun b hb' => ?_, ?_, fun b hb' => ?_, rfl, ?_, S.gens, S.os, ?_, ⟨hg, hb⟩⟩,
    ⟨rfl, rfl, rfl, fun y hy => ?_, rfl⟩⟩
  · obtain ⟨b1, b2⟩ := S.obj b o e
    obtain ⟨r, e', _⟩ := b2.get
    exact ⟨b1, b2.mono mn ((kp b r e').trans e'.symm)⟩
  · obtain ⟨v, rv, w⟩ := bind_loc (kindOf := (callEnvC fd s.heap.objs.size f).kindOf) (mr := fun _ => none) (cm := fun _ => none) (BR.mono mn.tup _ _ hbr) hkind (fun _ _ q => by cases q) y a ha
    refine ⟨v, rv, ?_⟩
    rcases w with w | ⟨w1, w2⟩
    · exact .inl w
    · have : ((cellsFrom (s.heap.objs.size + 1) fd.scope.names []).lookup y).isSome = true := cellsFrom_some _ _ _ (.inl w1)
      obtain ⟨c, ec⟩ := Option.isSome_iff_exists.mp this
      exact .inr ⟨.inl w1, c, ec, w2 ▸ hc y c ec⟩
  · rcases List.mem_cons.mp hb' with rfl | hb'
    · obtain ⟨n1, n2, _⟩ := S.lt (Nat.le_refl s.heap.objs.size)
      exact ⟨n1, n2, oL, eL, .inl ⟨_, _, dL⟩⟩
    · obtain ⟨p, hp, rfl⟩ := List.mem_map.mp hb'
      have e := eq_of_beq (List.mem_filter.mp hp).2
      obtain ⟨n1, n2, _⟩ := S.lt (big p.1 p.2 e)
      obtain ⟨o, eo, d⟩ := hc p.1 p.2 e
      exact ⟨n1, n2, o, eo, .inr ⟨_, d⟩⟩
  · refine ⟨by show fd.scope.kind ≠ .module; rw [hk]; decide, ⟨_, oL, rfl, (S.lt (Nat.le_refl s.heap.objs.size)).2.1, eL, fun vs q => by rw [dL] at q; cases q⟩, ?_⟩
    exact funFrames_mono S.frs fun b hb' o e => ⟨o, kp b o e, id⟩
  · have hb'' : b = s.heap.objs.size ∨ b ∈ F.fr := by
      have : b ∈ s.heap.objs.size :: F.fr := hb'
      exact List.mem_cons.mp this
    rcases hb'' with rfl | hb'
    · exact ⟨(S.lt (Nat.le_refl s.heap.objs.size)).1, oL, esL, epL, eL, dL⟩
    · obtain ⟨h1, o, es, ep, h3, h4⟩ := S.frd b hb'
      exact ⟨h1, o, es, ep, kp b o h3, h4⟩
  · exact Around.frames_deeper S.Afr
  · obtain ⟨r1, r2, r3, r4⟩ := S.room
    refine ⟨?_, ?_, hl, r4⟩
    · show F.A.depth + 1 ≤ 310 + 3 * (F.lvl + 1); omega
    · show F.A.units + 3 ≤ 100 + 20 * (F.lvl + 1); omega
  · have : ((cellsFrom (s.heap.objs.size + 1) fd.scope.names []).lookup y).isSome = true := cellsFrom_some _ _ _ (.inl hy)
    obtain ⟨c, ec⟩ := Option.isSome_iff_exists.mp this
    exact ⟨c, ec, List.mem_cons_of_mem _ (List.mem_map.mpr ⟨(y, c), List.mem_filter.mpr ⟨mem_of_lookup ec, by rw [ec]; simp⟩, rfl⟩)⟩
theorem St.back {fd : FuncData} {f : Addr} {m' : Loc} {H' : AH} {s₁ s' : Shared} (S : St g F m H s) (kp : ∀ b o, s.heap.get? b = some o → s₁.heap.get? b = some o)
    (hab : ∀ b ∈ (F.call fd f s.heap.objs.size).mine, s.heap.objs.size ≤ b) (S' : St g (F.call fd f s.heap.objs.size) m' H' s') (K' : Keep (F.call fd f s.heap.objs.size) s₁.heap H s'.heap H') :
    St g F m H' s' ∧ Keep F s.heap H s'.heap H' := by
  have lt : ∀ b o, s.heap.get? b = some o → b ∉ (F.call fd f s.heap.objs.size).mine := fun b o e q => Nat.lt_irrefl _ (Nat.lt_of_lt_of_le (Heap.lt_size e) (hab b q))
  have fr : ∀ b o, s.heap.get? b = some o → b ∈ (F.call fd f s.heap.objs.size).fr → b ∈ F.fr := fun b o e q => by
    have q : b ∈ s.heap.objs.size :: F.fr := q
    rcases List.mem_cons.mp q with rfl | q
    · exact absurd (Heap.lt_size e) (Nat.lt_irrefl _)
    · exact q
  have same : ∀ b o, s.heap.get? b = some o → H b = none → H' b = none ∧ (s'.heap.get? b = some o ∨ (b ∈ F.fr ∧ ∃ sl, s'.heap.get? b = some { o with slots := sl })) := fun b o e n => by
    obtain ⟨n', z⟩ := K'.same b o (kp b o e) n (lt b o e)
    exact ⟨n', z.imp id fun ⟨w1, w2⟩ => ⟨fr b o e w1, w2⟩⟩
  have K : Keep F s.heap H s'.heap H' := ⟨fun b o e => K'.alive b o (kp b o e), (Dct.ext kp).trans K'.dct, fun b o e n _ => same b o e n⟩
  refine ⟨⟨S'.base, S'.obj, ?_, S.locm, fun b hb => ?_, S'.frs.2.2, fun b hb => S'.frd b (List.mem_cons_of_mem _ hb), S.frame, S.Afr, S'.gens, S'.os, S.room, S.envg⟩, K⟩
  · refine S.loc.mono (K.mono S) (fun y c hy => ?_) fun b hb o e => (same b o e (S.locIs b hb).1).2.imp id fun z => z.2
    obtain ⟨n, o, e, _⟩ := S.locIs c (.inr ⟨y, hy⟩)
    exact (same c o e n).1
  · obtain ⟨n1, n2, o, e, w⟩ := S.mine b hb
    obtain ⟨n', z⟩ := same b o e n1
    rcases z with z | ⟨_, sl, z⟩
    · exact ⟨n', n2, o, z, w⟩
    · exact ⟨n', n2, _, z, w⟩
end
section
variable {g : G} {F : Fm} {m : Loc} {H : AH} {Q : V → Loc → AH → Prop} {X : Value → List V → Loc → AH → Prop}
theorem c_code {f : Addr} {fd : FuncData} {oc : Value} {od : Option Addr} {osl : Array (Option Value)} {body : List Stmt} {xs : List V} {bs : List (Str × V)}
    (ho : g.K.lookup f = some ⟨oc, od, .func fd, osl⟩) (hcd : codeIn g.K fd.code fd.qualname = true) (hbody : fd.body = .stmts body) (hg : fd.globals = mainGlobals) (hb : fd.builtins = builtinsNs) (hcl : fd.closure = [])
    (hco : fd.scope.isCoroutine = false) (hgen : fd.scope.isGenerator = false) (hk : fd.scope.kind = .function) (hl : F.lvl < 100) (hbind : Binds g fd xs bs)
    (hkind : (bs.all fun x => fd.scope.names.lookup x.1 == some .local || fd.scope.names.lookup x.1 == some .cell) = true)
    (h : ∀ F', FrameOf F' F fd.scope → WS g F' (execs body F'.env) (bindAbs bs fun _ => none) H (kVal Q Fl.val m) (kErr X m)) {s : Shared} {vs : List Value} (S : St g F m H s) (hv : VRs s.heap xs vs) :
    codeAny (model g.prog g.w) F.A (.call (.ref f) ⟨vs, []⟩) (fun r s' => match r with | .ok (.ret v) => OkP g F VR Q s.heap H v s' | .ok _ => False | .error e => ErP g F X s.heap H e s') s := by
  have hkind' : ∀ x ∈ bs, fd.scope.names.lookup x.1 = some .local ∨ fd.scope.names.lookup x.1 = some .cell := fun x hx => by
    have := List.all_eq_true.mp hkind x hx
    simpa using this
  have X0 := g.kin.keeps S.base
  refine codeAny_call_function (by rw [show recursionLimit = 1000 from rfl]; have := S.room; omega) (X0 _ _ ho) rfl hco hgen hbody (codeRec_of X0 hcd) ?_
  refine hbind _ s vs _ _ X0 hv fun binds h' kp' br => ?_
  obtain ⟨S₁, K₁⟩ := S.ext (t := s.toks) kp'
  have names : ∀ x ∈ binds, ∃ y ∈ bs, y.1 = x.1 := by
    clear S₁ K₁ h hkind hkind' hbind
    induction bs generalizing binds with
    | nil => cases br; intro x hx; cases hx
    | cons b bs ih =>
      obtain ⟨v, r, rfl, _, hr⟩ := br
      intro x hx
      rcases List.mem_cons.mp hx with rfl | hx
      · exact ⟨b, List.mem_cons_self, rfl⟩
      · obtain ⟨y, hy, e⟩ := ih r hr x hx; exact ⟨y, List.mem_cons_of_mem _ hy, e⟩
  rw [hcl]
  refine wpAny_newFunctionEnv_cells hk (fun x hx => ?_) fun env he s₂ x => ?_
  · obtain ⟨y, hy, e⟩ := names x hx
    rw [← e]
    exact (hkind' y hy).imp id fun q => ⟨q, cellsFrom_some _ _ _ (.inl q)⟩
  · subst he
    have x' : InCallC { s with heap := h' } (callEnvC fd h'.objs.size f).locals (bindL (callEnvC fd h'.objs.size f).kindOf binds fun _ => none) (callEnvC fd h'.objs.size f).cells (bindC (callEnvC fd h'.objs.size f).kindOf binds fun _ => none) s₂ := x
    have kp₂ : ∀ b o, h'.get? b = some o → s₂.heap.get? b = some o := x'.toInCall.keep
    refine ⟨(g.nolim.keeps S₁.base).keeps kp₂, codeAny_func ?_⟩
    obtain ⟨S₂, hF⟩ := S₁.enter hl hk hg hb br hkind' x'
    have hab : ∀ b ∈ (F.call fd f h'.objs.size).mine, h'.objs.size ≤ b := fun b hb' => by
      rcases List.mem_cons.mp hb' with rfl | hb'
      · exact Nat.le_refl _
      · obtain ⟨p, hp, rfl⟩ := List.mem_map.mp hb'
        exact Nat.le_of_lt (x'.above p.1 p.2 (mem_of_lookup (eq_of_beq (List.mem_filter.mp hp).2)))
    refine wpAny_mono (h _ hF s₂ S₂) (fun fl s₃ yy => yy.elim fun fl' m₃ H₃ r₃ S₃ K₃ q₃ => ?_) fun e s₃ yy => yy.elim fun c as m₃ H₃ f₃ S₃ K₃ q₃ => ?_
    · obtain ⟨S₄, K₄⟩ := S₁.back kp₂ hab S₃ K₃
      refine ⟨fl'.val, m, H₃, ?_, S₄, K₁.trans K₄, q₃⟩
      cases fl' with
      | ret a => obtain ⟨v, rfl, rv⟩ := r₃; exact rv
      | next => cases r₃; exact .none'
      | brk => cases r₃; exact .none'
      | cont => cases r₃; exact .none'
    · show wpAny (model g.prog g.w) (F.call fd f h'.objs.size).A (leaving (F.call fd f h'.objs.size).env e) _ _ s₃
      unfold leaving
      have B0 : g.B.StaysIn s₂.heap := S₂.base
      refine wpAny_bind (note S₃ K₃ B0 f₃ ⟨_, rfl⟩ fun s₄ S₄ K₄ f₄ => flight S₄ K₄ B0 f₄ fun s₅ S₅ K₅ f₅ => ?_)
      obtain ⟨S₆, K₆⟩ := S₁.back kp₂ hab S₅ K₅
      exact ⟨c, as, m, H₃, f₅.fly.since (fun b o e => ⟨o, kp₂ b o (kp' b o e)⟩), S₆, K₁.trans K₆, q₃⟩
theorem c_def {f : Addr} {fd : FuncData} {oc : Value} {od : Option Addr} {osl : Array (Option Value)} {body : List Stmt} {xs : List V} {bs : List (Str × V)}
    (ho : g.K.lookup f = some ⟨oc, od, .func fd, osl⟩) (hcd : codeIn g.K fd.code fd.qualname = true) (hbody : fd.body = .stmts body) (hg : fd.globals = mainGlobals) (hb : fd.builtins = builtinsNs) (hcl : fd.closure = [])
    (hco : fd.scope.isCoroutine = false) (hgen : fd.scope.isGenerator = false) (hk : fd.scope.kind = .function) (hl : F.lvl < 100) (hbind : Binds g fd xs bs)
    (hkind : (bs.all fun x => fd.scope.names.lookup x.1 == some .local || fd.scope.names.lookup x.1 == some .cell) = true)
    (h : ∀ F', FrameOf F' F fd.scope → WS g F' (execs body F'.env) (bindAbs bs fun _ => none) H (kVal Q Fl.val m) (kErr X m)) :
    WN g F VR xs (fun vs => call (.ref f) vs) m H Q X := fun s vs S hv => wpAny_call (c_code ho hcd hbody hg hb hcl hco hgen hk hl hbind hkind h S hv)
theorem binds_peek {fd : FuncData} {xs : List V} {bs : List (Str × V)} (r : List Value → List (Str × Value)) (e : ∀ vs S, vs.length = xs.length → peek g.K S (bindArgs fd ⟨vs, []⟩) = some (r vs)) (hr : ∀ h vs, VRs h xs vs → BR h bs (r vs)) : Binds g fd xs bs :=
  fun A s vs E Q X hv hq => (Looks.of_peek (M := model g.prog g.w) X (e vs _ hv.length)).here (hq (r vs) s.heap (fun _ _ z => z) (hr _ _ hv))
end
end Mine
end
section
open PySem PySem.W PySem.Calls PyProof.Rows
set_option linter.unusedVariables false
namespace Mine
section
variable {g : G} {F : Fm} {m : Loc} {H : AH} {s : Shared} {h₀ : Heap} {H₀ : AH}
theorem St.off {b : Addr} {h' : Heap} {t : Nat} (S : St g F m H s) (C : ∀ c o', s.heap.get? c = some o' → c ≠ b → h'.get? c = some o') (hH : H b = none) (hB : g.B.get? b = none) (hm : b ∉ F.mine) (hf : b ∉ F.fr)
    (hc : ∀ y, F.env.cells.lookup y ≠ some b) (hi : ∀ o, s.heap.get? b = some o → ¬ Imm o) (hd : ∀ o es ep, s.heap.get? b = some o → o.data = .dict es ep → ∃ o' es' ep', h'.get? b = some o' ∧ o'.data = .dict es' ep') :
    St g F m H { s with heap := h', toks := t } ∧ (Keep F h₀ H₀ s.heap H → h₀.get? b = none → Keep F h₀ H₀ h' H) := by
  have dc : Dct s.heap h' := fun c o' es ep e' d => by
    by_cases q : c = b
    · subst q; exact hd o' es ep e' d
    · exact ⟨o', es, ep, C c o' e' q, d⟩
  have mn : Mono s.heap h' := ⟨fun a o' i e' => C a o' e' (fun q => by subst q; exact hi o' e' i), dc⟩
  refine ⟨⟨fun c o' e' => C c o' (S.base c o' e') (fun q => by subst q; rw [hB] at e'; cases e'), fun c o' e' => ?_, ?_, S.locm, fun c hc' => ?_, ?_, fun c hc' => ?_, S.frame, S.Afr, S.gens, S.os, S.room, S.envg⟩, fun K n0 => ⟨fun c o' e' => let ⟨o'', e''⟩ := K.alive c o' e'; ⟨o'', C c o'' e'' (fun q => by subst q; rw [n0] at e'; cases e')⟩, K.dct.trans dc, fun c o' e' n hc' => ?_⟩⟩
  · obtain ⟨b1, b2⟩ := S.obj c o' e'
    obtain ⟨r, e'', _⟩ := b2.get
    exact ⟨b1, b2.mono mn ((C c r e'' fun q => by subst q; rw [hH] at e'; cases e').trans e''.symm)⟩
  · refine S.loc.mono mn (fun y c hy => (S.locIs c (.inr ⟨y, hy⟩)).1) fun c hc' o' e' => .inl (C c o' e' ?_)
    rcases hc' with rfl | ⟨y, hy⟩
    · exact fun q => hm (q ▸ S.locm)
    · exact fun q => hc y (q ▸ hy)
  · obtain ⟨h1, h2, o', h3, h4⟩ := S.mine c hc'
    exact ⟨h1, h2, o', C c _ h3 (fun q => hm (q ▸ hc')), h4⟩
  · refine funFrames_mono S.frs fun c hc' o' e' => ⟨_, C c o' e' (fun q => hf (q ▸ hc')), id⟩
  · obtain ⟨h1, o', es, ep, h3, h4⟩ := S.frd c hc'
    exact ⟨h1, o', es, ep, C c _ h3 (fun q => hf (q ▸ hc')), h4⟩
  · obtain ⟨n', z⟩ := K.same c o' e' n hc'
    have cb : c ≠ b := fun q => by subst q; rw [n0] at e'; cases e'
    refine ⟨n', ?_⟩
    rcases z with z | ⟨w, sl, z⟩
    · exact .inl (C c _ z cb)
    · exact .inr ⟨w, sl, C c _ z cb⟩
theorem St.un {b : Addr} {o : Obj} {h' : Heap} {t : Nat} (S : St g F m H s) (e : s.heap.get? b = some o) (hd : (∀ es ep, o.data ≠ .dict es ep) ∧ ∀ v, o.data ≠ .cell v) (hH : H b = none) (hB : g.B.get? b = none) (hi : immC o.cls = false) (C : ∀ c o', s.heap.get? c = some o' → c ≠ b → h'.get? c = some o') :
    St g F m H { s with heap := h', toks := t } ∧ (Keep F h₀ H₀ s.heap H → h₀.get? b = none → Keep F h₀ H₀ h' H) := by
  refine S.off C hH hB (fun q => ?_) (fun q => ?_) (fun y hy => ?_) (fun o' e' i => by rw [e] at e'; cases e'; rw [i.cls] at hi; cases hi) (fun o' es ep e' d => by rw [e] at e'; cases e'; exact absurd d (hd.1 _ _))
  · obtain ⟨_, _, o', e', w⟩ := S.mine b q
    rw [e] at e'; cases e'
    rcases w with ⟨_, _, w⟩ | ⟨_, w⟩
    · exact hd.1 _ _ w
    · exact hd.2 _ w
  · obtain ⟨_, o', es, ep, e', w⟩ := S.frd b q
    rw [e] at e'; cases e'; exact hd.1 _ _ w
  · obtain ⟨_, v, o', e', w⟩ := S.loc.cell y b hy
    rw [e] at e'; cases e'; exact hd.2 _ w
theorem notOwn {o : Obj} {vs : Array Value} (hd : o.data = .fields vs) : (∀ es ep, o.data ≠ .dict es ep) ∧ ∀ v, o.data ≠ .cell v := ⟨fun _ _ q => (by rw [hd] at q; cases q), fun _ q => (by rw [hd] at q; cases q)⟩
def ownsCls : List String := ["enumerate", "zip", "dict_itemiterator", "dict_reverseitemiterator", "odict_iterator", "itertools.zip_longest", "itertools.pairwise"]
structure Iter (g : G) (F : Fm) (it : Addr) (P : Nat → Heap → Prop) (C : AH → Prop) (n : Nat) (val : Nat → V) : Prop where
  obj : ∀ i h, P i h → ∃ o vs t, h.get? it = some o ∧ o.data = .fields vs ∧ o.cls = .type t ∧ immC (.type t) = false ∧ ownsCls.contains t = false
  stay : ∀ i h h', P i h → h'.get? it = h.get? it → Mono h h' → P i h'
  item : ∀ i m H s (Q : Option Value → Shared → Prop) (E : Value → Shared → Prop), i < n → St g F m H s → P i s.heap → C H → (∀ h' tk v, VR h' (val i) v → P (i + 1) h' → (∀ c o', s.heap.get? c = some o' → c ≠ it → h'.get? c = some o') → Q (some v) { s with heap := h', toks := tk }) →
    wpAny (model g.prog g.w) F.A (pyNext (.ref it)) Q E s
  self : ∀ i s (Q : Value → Shared → Prop) (E : Value → Shared → Prop), P i s.heap → Q (.ref it) s → wpAny (model g.prog g.w) F.A (pyIter (.ref it)) Q E s
  stop : ∀ m H s (Q : Option Value → Shared → Prop) (E : Value → Shared → Prop), St g F m H s → P n s.heap → C H → (∀ h' tk, (∀ c o', s.heap.get? c = some o' → c ≠ it → h'.get? c = some o') → Q none { s with heap := h', toks := tk }) → wpAny (model g.prog g.w) F.A (pyNext (.ref it)) Q E s
theorem noOwned {it : Addr} {target : Expr} {v : Value} {o : Obj} {vs : Array Value} {t : String} {A : Around} {Q : Unit → Shared → Prop} {E : Value → Shared → Prop} (e : s.heap.get? it = some o) (hd : o.data = .fields vs) (hc : o.cls = .type t) (hn : ownsCls.contains t = false) (h : Q () s) :
    wpAny (model g.prog g.w) A (letOwnedTupleGo target (.ref it) v) Q E s := by
  have main : wpAny (model g.prog g.w) A (do
      let (.ref r, .ref a) := (Value.ref it, v) | return
      let o ← load r
      match o.cls, o.data with
      | .type n, .fields vs =>
        if ["enumerate", "zip", "dict_itemiterator", "dict_reverseitemiterator", "odict_iterator", "itertools.zip_longest", "itertools.pairwise"].contains n && vs[0]? == some (rawInt a) then
          rule "for.unpacks-the-owned-tuple"
          updateField r 0 .none
      | _, _ => pure ()) Q E s := by
    cases v <;> try exact wpAny_pure h
    refine wpAny_bind (wpAny_load e ?_)
    rw [hc, hd]
    show wpAny _ _ (if (ownsCls.contains t && _) = true then _ else _) _ _ _
    rw [hn, Bool.false_and, if_neg (by decide)]
    exact wpAny_pure h
  unfold letOwnedTupleGo
  split
  · exact main
  · exact main
  · exact wpAny_pure h
structure ForI (g : G) (F : Fm) (it : Addr) (P : Nat → Heap → Prop) (J : Nat → Loc → AH → Prop) (h₀ : Heap) (H₀ : AH) (n k : Nat) (s' : Shared) (i : Nat) (m' : Loc) (H' : AH) : Prop where
  e : k = n + 1 - i
  hi : i ≤ n
  S : St g F m' H' s'
  K : Keep F h₀ H₀ s'.heap H'
  p : P i s'.heap
  nH : H' it = none
  j : J i m' H'
theorem less {n i : Nat} (h : i < n) : n + 1 - (i + 1) < n + 1 - i := by omega
theorem for_core {it : Addr} {P : Nat → Heap → Prop} {C : AH → Prop} {n : Nat} {val : Nat → V} {target : Expr} {body orelse : List Stmt} {J : Nat → Loc → AH → Prop} {Q : Fl → Loc → AH → Prop} {X : Value → List V → Loc → AH → Prop} (I : Iter g F it P C n val)
    (hs : F.stack ≠ []) (hJ : ∀ i m H, J i m H → C H)
    (turn : ∀ i m H, i < n → J i m H → WA g F target (val i) m H (fun m H => WS g F (execs body F.env) m H (fun f m H => match f with | .next => J (i + 1) m H | .cont => J (i + 1) m H | .brk => Q .next m H | .ret v => Q (.ret v) m H) X) X)
    (fin : ∀ m H, J n m H → WS g F (execs orelse F.env) m H Q X)
    (S : St g F m H s) (K : Keep F h₀ H₀ s.heap H) (B0 : g.B.StaysIn h₀) (p : P 0 s.heap) (n0 : h₀.get? it = none) (nH : H it = none) (nm : it ∉ F.mine) (j : J 0 m H) :
    codeAny (model g.prog g.w) F.A (.forLoop target (.ref it) body orelse F.env) (fun r s' => match r with | .ok f => OkP g F FR Q h₀ H₀ f s' | .error e => cameBackBy (model g.prog g.w) F.A F.env (ErP g F X h₀ H₀) e s') s := by
  have nB : g.B.get? it = none := by
    cases q : g.B.get? it with
    | none => rfl
    | some o => rw [B0 it o q] at n0; cases n0
  have err : ∀ e s', ErP g F X h₀ H₀ e s' → notedBy (model g.prog g.w) F.A F.env (fun e s' => (match (Except.error e : Result) with | .ok f => OkP g F FR Q h₀ H₀ f s' | .error e => cameBackBy (model g.prog g.w) F.A F.env (ErP g F X h₀ H₀) e s')) e s' := fun e s' x => by
    obtain ⟨_, _, _, _, _, S', _⟩ := id x
    exact noted B0 (S'.frameL hs) x fun s'' c as m' H' S'' K'' f'' q => cameBack B0 S'' K'' f'' q
  refine codeAny_loop' rfl (fun k s' => ∃ i m' H', ForI g F it P J h₀ H₀ n k s' i m' H') ?_ (n + 1) ⟨0, m, H, rfl, Nat.zero_le _, S, K, p, nH, j⟩
  rintro k s' ⟨i, m', H', rfl, hi, S', K', p', nH', j'⟩
  show wpAny _ _ ((forTurn target (.ref it) body orelse F.env).onRaise (fun x => do noteFrame x F.env; theTreesLotGoes x)) _ _ s'
  refine wpAny_noted ?_
  unfold forTurn
  obtain ⟨o, vs, t, e1, e2, e3, e4, e5⟩ := I.obj i _ p'
  have i4 : immC o.cls = false := e3 ▸ e4
  refine wpAny_bind (wpAny_standAt (wpAny_bind (wpAny_onRaise ?_)))
  by_cases hlt : i < n
  · refine I.item i m' H' s' _ _ hlt S' p' (hJ _ _ _ j') fun h₁ tk v rv p₁ C₁ => ?_
    obtain ⟨S₁, K₁⟩ := S'.un (t := tk) (h₀ := h₀) (H₀ := H₀) e1 (notOwn e2) nH' nB i4 C₁
    have K₁ := K₁ K' n0
    obtain ⟨o₁, vs₁, t₁, a1, a2, a3, a4, a5⟩ := I.obj (i + 1) h₁ p₁
    refine wpAny_bind (noOwned (s := { s' with heap := h₁, toks := tk }) a1 a2 a3 a5 ?_)
    refine wpAny_bind (wpAny_mono (turn i m' H' hlt j' _ v S₁ rv) (fun _ s₂ yy => yy.elim fun _ m₂ H₂ _ S₂ K₂ q₂ => ?_) fun e s₂ x => err e s₂ (x.after K₁))
    have K₂' := K₁.trans K₂
    refine wpAny_bind (wpAny_mono (q₂ s₂ S₂) (fun f s₃ yy => yy.elim fun f' m₃ H₃ r₃ S₃ K₃ q₃ => ?_) fun e s₃ x => err e s₃ (x.after K₂'))
    have nf : ∀ {mm HH ss oo vv}, St g F mm HH ss → ss.heap.get? it = some oo → oo.data = .fields vv → it ∉ F.fr := fun T e d z => by
      obtain ⟨_, o', es, ep, e', d'⟩ := T.frd it z; rw [e] at e'; cases e'; rw [d] at d'; cases d'
    have st₂ : s₂.heap.get? it = some o₁ ∧ H₂ it = none := by
      obtain ⟨z1, z2⟩ := K₂.same it o₁ a1 nH' nm
      rcases z2 with z2 | ⟨z2, _⟩
      · exact ⟨z2, z1⟩
      · exact absurd z2 (nf S₁ a1 a2)
    have st₃ : s₃.heap.get? it = some o₁ ∧ H₃ it = none := by
      obtain ⟨z1, z2⟩ := K₃.same it o₁ st₂.1 st₂.2 nm
      rcases z2 with z2 | ⟨z2, _⟩
      · exact ⟨z2, z1⟩
      · exact absurd z2 (nf S₂ st₂.1 a2)
    have p₃ : P (i + 1) s₃.heap := I.stay _ _ _ (I.stay _ h₁ s₂.heap p₁ (st₂.1.trans a1.symm) (K₂.mono S₁)) (st₃.1.trans st₂.1.symm) (K₃.mono S₂)
    have K₃' := K₂'.trans K₃
    cases f' with
    | next => cases r₃; exact wpAny_pure (.inl ⟨rfl, n + 1 - (i + 1), less hlt, i + 1, m₃, H₃, rfl, hlt, S₃, K₃', p₃, st₃.2, q₃⟩)
    | cont => cases r₃; exact wpAny_pure (.inl ⟨rfl, n + 1 - (i + 1), less hlt, i + 1, m₃, H₃, rfl, hlt, S₃, K₃', p₃, st₃.2, q₃⟩)
    | brk => cases r₃; exact wpAny_pure ⟨.next, m₃, H₃, rfl, S₃, K₃', q₃⟩
    | ret x => obtain ⟨v, rfl, rv⟩ := r₃; exact wpAny_pure ⟨.ret x, m₃, H₃, ⟨v, rfl, rv⟩, S₃, K₃', q₃⟩
  · have hin : i = n := Nat.le_antisymm hi (Nat.le_of_not_lt hlt)
    subst hin
    refine I.stop m' H' s' _ _ S' p' (hJ _ _ _ j') fun h₁ tk C₁ => ?_
    obtain ⟨S₁, K₁⟩ := S'.un (t := tk) (h₀ := h₀) (H₀ := H₀) e1 (notOwn e2) nH' nB i4 C₁
    have K₁ := K₁ K' n0
    refine wpAny_pure (.inr ⟨rfl, codeAny_block ?_⟩)
    exact wpAny_mono (fin m' H' j' _ S₁) (fun _ _ x => x.after K₁) fun e s₂ x => err e s₂ (x.after K₁)
end
end Mine
end
section
open PySem PySem.W PySem.Calls PyProof.Rows
set_option linter.unusedVariables false
namespace Mine
section
variable {g : G} {F : Fm} {m : Loc} {H : AH} {X : Value → List V → Loc → AH → Prop} {Q : Fl → Loc → AH → Prop}
def ForW (g : G) (F : Fm) (target : Expr) (a : V) (body orelse : List Stmt) (m : Loc) (H : AH) (Q : Fl → Loc → AH → Prop) (X : Value → List V → Loc → AH → Prop) : Prop :=
  ∀ h₀ H₀ s v, St g F m H s → Keep F h₀ H₀ s.heap H → g.B.StaysIn h₀ → VR s.heap a v → wpAny (model g.prog g.w) F.A (pyIter v) (fun it s₂ => codeAny (model g.prog g.w) F.A (.forLoop target it body orelse F.env)
    (fun r s' => match r with | .ok f => OkP g F FR Q h₀ H₀ f s' | .error e => cameBackBy (model g.prog g.w) F.A F.env (ErP g F X h₀ H₀) e s') s₂) (ErP g F X h₀ H₀) s
abbrev kFor (g : G) (F : Fm) (target : Expr) (body orelse : List Stmt) (Q : Fl → Loc → AH → Prop) (X : Value → List V → Loc → AH → Prop) : V → Loc → AH → Prop := fun a m H => ForW g F target a body orelse m H Q X
theorem s_for {target iter : Expr} {body orelse : List Stmt} {pos : Pos} (hs : ∀ x, foldedSetIterable iter F.env x = pure x) (h : WE g F (eval iter F.env) m H (kFor g F target body orelse Q X) X) :
    WS g F (exec (.For target iter body orelse pos) F.env) m H Q X :=
  fun s S => wpAny_For (h.run S (fun v s₁ a m₁ H₁ r₁ S₁ k₁ h₁ => h₁ s.heap H s₁ v S₁ k₁ S.base r₁) (fun _ _ x => x)) hs
abbrev JTurn (g : G) (F : Fm) (target : Expr) (body : List Stmt) (J : Nat → Loc → AH → Prop) (Q : Fl → Loc → AH → Prop) (X : Value → List V → Loc → AH → Prop) (i : Nat) (x : V) (m : Loc) (H : AH) : Prop :=
  WA g F target x m H (kBody g F body (kLoop J Q i) X) X
theorem iter_list {l it : Addr} {xs : List V} (hh : F.A.handled = none) : Iter g F it (fun i h => h.IsListIter it l i) (fun H => H l = some (.list xs)) xs.length (fun i => xs.getD i .none) where
  obj := fun i h ⟨o, e, c, d⟩ => ⟨o, _, _, e, d, c, rfl, rfl⟩
  stay := fun i h h' ⟨o, e, r⟩ q _ => ⟨o, q.trans e, r⟩
  item := fun i m H s Q E hi S p c hq => by
    obtain ⟨_, vs, ep, e, hr⟩ := S.obj l _ c
    obtain ⟨v, ev, rv⟩ := hr.getElem? (i := i) (x := xs[i]) (List.getElem?_eq_getElem hi)
    have hl : s.heap.IsList l vs.toArray := ⟨_, e, rfl, ep, rfl⟩
    refine wpAny_pyNext_list_item p hl (x := v) (by simpa using ev) fun h' p' hs => hq h' s.toks v ?_ p' (fun c o' e' n => (hs.2 c n).trans e')
    rw [List.getD_eq_getElem?_getD, List.getElem?_eq_getElem hi]
    exact rv.mono fun a o im ea => (hs.2 a fun q => by subst q; obtain ⟨o', e', c', _⟩ := p; rw [e'] at ea; cases ea; have := im.cls; rw [c'] at this; cases this).trans ea
  self := fun i s Q E p h => wpAny_pyIter_listiter p h
  stop := fun m H s Q E S p c hq => by
    obtain ⟨_, vs, ep, e, hr⟩ := S.obj l _ c
    have hl : s.heap.IsList l vs.toArray := ⟨_, e, rfl, ep, rfl⟩
    refine wpAny_pyNext_list_end hh p hl ?_ fun h' hs => hq h' s.toks fun c o' e' n => hs c o' n e'
    rw [List.getElem?_toArray, List.getElem?_eq_none]
    rw [hr.length]; exact Nat.le_refl _
theorem iter_range {it : Addr} {a c : Int} {n : Nat} (hh : F.A.handled = none) : Iter g F it (fun i h => IsRangeIter h it (a + (i : Int) * c) ((n : Int) - (i : Int)) c) (fun _ => True) n (fun i => .int (a + (i : Int) * c)) where
  obj := fun i h e => ⟨_, _, _, e, rfl, rfl, rfl, rfl⟩
  stay := fun i h h' e q _ => q.trans e
  item := fun i m H s Q E hi S p _ hq => by
    refine wpAny_pyNext_range_item p (by omega) fun h' p' hs => hq h' _ _ (.int' _ _) ?_ (fun c o' e' n => (hs.2 c n).trans e')
    have e1 : a + ((i + 1 : Nat) : Int) * c = a + (i : Int) * c + c := by push_cast; rw [Int.add_mul, Int.one_mul, Int.add_assoc]
    have e2 : (n : Int) - ((i + 1 : Nat) : Int) = (n : Int) - (i : Int) - 1 := by push_cast; omega
    rw [e1, e2]; exact p'
  self := fun i s Q E p h => wpAny_pyIter_rangeiter p h
  stop := fun m H s Q E S p _ hq => wpAny_pyNext_range_end hh p (by omega) fun h' hs => hq h' s.toks fun c o' e' n => hs c o' n e'
theorem iter_tup {t it : Addr} {xs : List V} (hh : F.A.handled = none) (hne : t ≠ it) : Iter g F it (fun i h => IsTupIter h it t i ∧ ∃ vs ep, h.get? t = some (tupObj vs ep) ∧ VRs h xs vs) (fun _ => True) xs.length (fun i => xs.getD i .none) where
  obj := fun i h ⟨⟨o, e, c, d⟩, _⟩ => ⟨o, _, _, e, d, c, rfl, rfl⟩
  stay := fun i h h' ⟨⟨o, e, r⟩, vs, ep, e', hr⟩ q k => ⟨⟨o, q.trans e, r⟩, vs, ep, k.tup _ _ (.tup ..) e', hr.mono k.tup⟩
  item := fun i m H s Q E hi S p _ hq => by
    obtain ⟨p, vs, ep, e, hr⟩ := p
    obtain ⟨v, ev, rv⟩ := hr.getElem? (i := i) (x := xs[i]) (List.getElem?_eq_getElem hi)
    have hl : IsTup s.heap t vs.toArray := ⟨_, e, rfl, ep, rfl⟩
    refine next_tuple_item p hl (x := v) (by simpa using ev) fun h' p' hs => ?_
    have k : ∀ a o, Imm o → s.heap.get? a = some o → h'.get? a = some o := fun a o im ea => (hs.2 a fun q => by subst q; obtain ⟨o', e', c', _⟩ := p; rw [e'] at ea; cases ea; have := im.cls; rw [c'] at this; cases this).trans ea
    refine hq h' s.toks v ?_ ⟨p', vs, ep, (hs.2 t hne).trans e, hr.mono k⟩ (fun c o' e' n => (hs.2 c n).trans e')
    rw [List.getD_eq_getElem?_getD, List.getElem?_eq_getElem hi]
    exact rv.mono k
  self := fun i s Q E p h => wpAny_pyIter_tupleiter p.1 h
  stop := fun m H s Q E S p _ hq => by
    obtain ⟨p, vs, ep, e, hr⟩ := p
    have hl : IsTup s.heap t vs.toArray := ⟨_, e, rfl, ep, rfl⟩
    refine next_tuple_end hh p hl ?_ fun h' hs => hq h' s.toks fun c o' e' n => hs c o' n e'
    rw [List.getElem?_toArray, List.getElem?_eq_none]
    rw [hr.length]; exact Nat.le_refl _
theorem St.fresh {s : Shared} (S : St g F m H s) : s.heap.objs.size ∉ F.mine := fun q => by
  obtain ⟨_, _, o, e, _⟩ := S.mine _ q
  exact absurd (Heap.lt_size e) (Nat.lt_irrefl _)
theorem Keep.fresh {h₀ : Heap} {H₀ : AH} {s : Shared} (K : Keep F h₀ H₀ s.heap H) : h₀.get? s.heap.objs.size = none := by
  cases q : h₀.get? s.heap.objs.size with
  | none => rfl
  | some o => obtain ⟨o', e⟩ := K.alive _ o q; exact absurd (Heap.lt_size e) (Nat.lt_irrefl _)
def Iterable (g : G) (a : V) (n : Nat) (val : Nat → V) (C : AH → Prop) : Prop :=
  ∀ (F : Fm) m H s v, St g F m H s → C H → VR s.heap a v → ∀ (Q : Value → Shared → Prop) (E : Value → Shared → Prop),
    (∀ o P, (∀ F' : Fm, F'.A.handled = none → Iter g F' s.heap.objs.size P C n val) → o.isFreed = false → P 0 (s.heap.push o) → Q (.ref s.heap.objs.size) { s with heap := s.heap.push o }) → wpAny (model g.prog g.w) F.A (pyIter v) Q E s
theorem it_list {l : Addr} {xs : List V} : Iterable g (.ref l) xs.length (fun i => xs.getD i .none) (fun H => H l = some (.list xs)) := fun F m H s v S c r Q E h => by
  rw [VR.ref_iff] at r; subst r
  obtain ⟨_, vs, ep, e, hr⟩ := S.obj l _ c
  exact wpAny_pyIter_list (items := vs.toArray) ⟨_, e, rfl, ep, rfl⟩ (h _ _ (fun F' hh => iter_list hh) rfl ⟨_, Heap.get?_push_size _ rfl, rfl, rfl⟩)
theorem it_tup {xs : List V} : Iterable g (.tup xs) xs.length (fun i => xs.getD i .none) (fun _ => True) := fun F m H s v S c r Q E h => by
  rw [VR.tup_iff] at r
  obtain ⟨t, vs, ep, rfl, e, hr⟩ := r
  have C : ∀ b o, s.heap.get? b = some o → (s.heap.push { cls := .type "tuple_iterator", data := .fields #[.ref t, .int 0 0] }).get? b = some o := fun _ _ e => Heap.get?_push_of_some _ e
  exact iter_tuple (items := vs.toArray) ⟨_, e, rfl, ep, rfl⟩ (h _ _ (fun F' hh => iter_tup (xs := xs) (t := t) hh (Nat.ne_of_lt (Heap.lt_size e))) rfl ⟨⟨_, Heap.get?_push_size _ rfl, rfl, rfl⟩, vs, ep, C _ _ e, hr.mono fun _ _ _ z => C _ _ z⟩)
theorem it_range {a b : Int} {n : Nat} (ha : -(2 ^ 62) ≤ a ∧ a < 2 ^ 62) (hb : -(2 ^ 62) ≤ b ∧ b < 2 ^ 62) (hn : (n : Int) = if a < b then b - a else 0) : Iterable g (.rng a b 1) n (fun i => .int (a + i)) (fun _ => True) := fun F m H s v S c r Q E h => by
  unfold VR at r
  obtain ⟨t, t1, t2, t3, rfl, e⟩ := r
  refine wpAny_pyIter_range e (small_one ha.1 ha.2 hb.1 hb.2) (h _ (fun (i : Nat) h => IsRangeIter h s.heap.objs.size (a + (i : Int) * 1) ((n : Int) - (i : Int)) 1) (fun F' hh => ?_) rfl ?_)
  · have := iter_range (g := g) (F := F') (it := s.heap.objs.size) (a := a) (c := 1) (n := n) hh
    have e : (fun i : Nat => V.int (a + (i : Int) * 1)) = fun i : Nat => V.int (a + i) := by funext i; rw [Int.mul_one]
    rw [e] at this; exact this
  · have e1 : a + ((0 : Nat) : Int) * 1 = a := by omega
    have e2 : (n : Int) - ((0 : Nat) : Int) = Builtin.Range.rangeSize a b 1 := by rw [rangeSize_one, hn]; omega
    show IsRangeIter _ _ _ _ _
    rw [e1, e2]; exact Heap.get?_push_size _ rfl
theorem for_any {target : Expr} {body orelse : List Stmt} {a : V} {n : Nat} {val : Nat → V} {C : AH → Prop} (I : Iterable g a n val C) (J : Nat → Loc → AH → Prop) (hh : F.A.handled = none) (hs : F.stack ≠ []) (hl : ∀ i m H, J i m H → C H) (j : J 0 m H)
    (turn : ∀ i m H, i < n → J i m H → JTurn g F target body J Q X i (val i) m H) (fin : ∀ m H, J n m H → WS g F (execs orelse F.env) m H Q X) : ForW g F target a body orelse m H Q X := fun h₀ H₀ s v S K B0 r => by
  refine I F m H s v S (hl _ _ _ j) r _ _ fun o P hI hf p => ?_
  obtain ⟨S₁, K₁⟩ := S.ext (t := s.toks) (fun _ _ e => Heap.get?_push_of_some o e)
  exact for_core (hI F hh) hs hl (fun i m H hi hj => turn i m H hi hj) fin S₁ (K.trans K₁) B0 p K.fresh (S.lt (Nat.le_refl _)).1 S.fresh j
theorem getD_of {xs : List V} {i : Nat} (hi : i < xs.length) : xs.getD i .none = xs[i] := by rw [List.getD_eq_getElem?_getD, List.getElem?_eq_getElem hi]; rfl
theorem s_while {test : Expr} {body orelse : List Stmt} {pos : Pos} (J : Nat → Loc → AH → Prop) (k : Nat) (hs : F.stack ≠ []) (j : J k m H)
    (turn : ∀ n m H, J n m H → WB g F (isTrue test F.env (eval test F.env)) m H (fun b m H => if b then WS g F (execs body F.env) m H (fun f m H => match f with | .next => ∃ k, k < n ∧ J k m H | .cont => ∃ k, k < n ∧ J k m H | .brk => Q .next m H | .ret v => Q (.ret v) m H) X
      else WS g F (execs orelse F.env) m H Q X) X) : WS g F (exec (.While test body orelse pos) F.env) m H Q X := fun s S => by
  have err : ∀ e s', ErP g F X s.heap H e s' → notedBy (model g.prog g.w) F.A F.env (fun e s' => (match (Except.error e : Result) with | .ok f => OkP g F FR Q s.heap H f s' | .error e => cameBackBy (model g.prog g.w) F.A F.env (ErP g F X s.heap H) e s')) e s' := fun e s' x => by
    obtain ⟨_, _, _, _, _, S', _⟩ := id x
    exact noted S.base (S'.frameL hs) x fun s'' c as m' H' S'' K'' f'' q => cameBack S.base S'' K'' f'' q
  refine wpAny_While (codeAny_whileLoop (fun n s' => ∃ m' H', St g F m' H' s' ∧ Keep F s.heap H s'.heap H' ∧ J n m' H') (fun n s' ⟨m', H', S', K', j'⟩ => ?_) k ⟨m, H, S, .refl .., j⟩)
  refine wpAny_mono (turn n m' H' j' s' S') (fun b s₁ yy => yy.elim fun b' m₁ H₁ r₁ S₁ K₁ q₁ => ?_) fun e s₁ x => err e s₁ (x.after K')
  have K₁' := K'.trans K₁
  cases r₁
  cases b
  · exact wpAny_mono (q₁ s₁ S₁) (fun _ _ x => x.after K₁') fun e s₂ x => err e s₂ (x.after K₁')
  · refine wpAny_mono (q₁ s₁ S₁) (fun f s₂ yy => yy.elim fun f' m₂ H₂ r₂ S₂ K₂ q₂ => ?_) fun e s₂ x => err e s₂ (x.after K₁')
    have K₂' := K₁'.trans K₂
    cases f' with
    | next => cases r₂; obtain ⟨k', hk, jk⟩ := q₂; exact ⟨k', hk, m₂, H₂, S₂, K₂', jk⟩
    | cont => cases r₂; obtain ⟨k', hk, jk⟩ := q₂; exact ⟨k', hk, m₂, H₂, S₂, K₂', jk⟩
    | brk => cases r₂; exact ⟨.next, m₂, H₂, rfl, S₂, K₂', q₂⟩
    | ret x => obtain ⟨v, rfl, rv⟩ := r₂; exact ⟨.ret x, m₂, H₂, ⟨v, rfl, rv⟩, S₂, K₂', q₂⟩
end
end Mine
end
section
open PySem PySem.W PySem.Calls PyProof.Rows
set_option linter.unusedVariables false
namespace Mine
def newC (scope : Scope) (C : Addr) : List (Str × Addr) := cellsFrom (C + 1) scope.names []
theorem cellsFrom_app : ∀ (names : List (Str × NameKind)) (n : Nat) (acc : List (Str × Addr)), cellsFrom n names acc = cellsFrom n names [] ++ acc
  | [], _, _ => rfl
  | (x, k) :: r, n, acc => by
    unfold cellsFrom
    split
    · rw [cellsFrom_app r _ ((x, n) :: acc), cellsFrom_app r _ [(x, n)], List.append_assoc]; rfl
    · exact cellsFrom_app r n acc
theorem cellsFrom_mem : ∀ (names : List (Str × NameKind)) (n : Nat) (p : Str × Addr), p ∈ cellsFrom n names [] → n ≤ p.2 ∧ (p.1, NameKind.cell) ∈ names
  | [], _, _, h => by cases h
  | (x, k) :: r, n, p, h => by
    unfold cellsFrom at h
    split at h
    · rename_i hk
      rw [cellsFrom_app] at h
      rcases List.mem_append.mp h with h | h
      · obtain ⟨a, b⟩ := cellsFrom_mem r _ p h; exact ⟨Nat.le_of_succ_le a, .tail _ b⟩
      · rw [List.mem_singleton] at h; subst h
        have hk : k = .cell := eq_of_beq hk
        subst hk; exact ⟨Nat.le_refl _, .head _⟩
    · obtain ⟨a, b⟩ := cellsFrom_mem r _ p h; exact ⟨a, .tail _ b⟩
def Fm.comp (F : Fm) (scope : Scope) (cl : List (Str × Addr)) (C : Addr) : Fm := { F with env := compEnvC scope (newC scope C ++ cl) C F.env, mine := C :: (newC scope C).map (·.2) }
theorem comp_mine {F : Fm} {scope : Scope} {cl : List (Str × Addr)} {C b : Addr} (h : b ∈ (F.comp scope cl C).mine) : C ≤ b := by
  rcases List.mem_cons.mp h with rfl | h
  · exact Nat.le_refl _
  · obtain ⟨p, hp, rfl⟩ := List.mem_map.mp h
    exact Nat.le_of_succ_le (cellsFrom_mem _ _ _ hp).1
theorem lookup_app {cs cl : List (Str × Addr)} {x : Str} {c : Addr} (h : (cs ++ cl).lookup x = some c) : cs.lookup x = some c ∨ cl.lookup x = some c := by
  rw [List.lookup_append] at h
  cases q : cs.lookup x with
  | none => rw [q] at h; exact .inr h
  | some d => rw [q] at h; exact .inl h
structure CompOf (Fc F : Fm) (scope : Scope) : Prop where
  sc : Fc.env.scope = relabel scope F.env
  A : Fc.A = F.A
  lvl : Fc.lvl = F.lvl
  stack : Fc.stack = F.stack
  cells : ∀ x, scope.names.lookup x = some .free → ∃ c, Fc.env.cells.lookup x = some c
  cel : ∀ x, scope.names.lookup x = some .cell → ∃ c, Fc.env.cells.lookup x = some c ∧ c ∈ Fc.mine
def compLoc (scope : Scope) (m : Loc) : Loc := fun x => if scope.names.lookup x = some .free then m x else none
theorem closure_is (env : Env) (names : List (Str × NameKind)) (hc : ∀ n, (n, NameKind.free) ∈ names → ∃ c, env.cells.lookup n = some c) :
    ∀ (acc : List (Str × Addr)), ∃ cl, (forIn names acc (fun (x : Str × NameKind) (r : List (Str × Addr)) => (if x.2 == NameKind.free then do let a ← cellOf env x.1; pure (ForInStep.yield ((x.1, a) :: r)) else pure (ForInStep.yield r) : Sem (ForInStep (List (Str × Addr))))) : Sem (List (Str × Addr))) = pure cl ∧
      ((∀ x c, acc.lookup x = some c → env.cells.lookup x = some c) → ∀ x c, cl.lookup x = some c → env.cells.lookup x = some c) ∧
      (∀ x, ((acc.lookup x).isSome = true ∨ (x, NameKind.free) ∈ names) → (cl.lookup x).isSome = true) := by
  induction names with
  | nil => intro acc; exact ⟨acc, rfl, id, fun x h => h.elim id fun q => by cases q⟩
  | cons y r ih =>
    intro acc
    obtain ⟨n, k⟩ := y
    have ih := ih fun n hn => hc n (List.mem_cons_of_mem _ hn)
    by_cases hk : k = .free
    · subst hk
      obtain ⟨c, ec⟩ := hc n List.mem_cons_self
      obtain ⟨cl, e, h1, h2⟩ := ih ((n, c) :: acc)
      refine ⟨cl, ?_, fun hacc => h1 fun x c' hx => ?_, fun x hx => h2 x ?_⟩
      · rw [List.forIn_cons, ← e]
        simp only [beq_self_eq_true, if_true]
        unfold cellOf; rw [ec]; rfl
      · rw [List.lookup_cons] at hx
        cases q : x == n with
        | true => rw [q] at hx; cases hx; rw [beq_iff_eq.mp q]; exact ec
        | false => rw [q] at hx; exact hacc x c' hx
      · rw [List.lookup_cons]
        cases q : x == n with
        | true => exact .inl rfl
        | false =>
          refine hx.imp id fun z => ?_
          rcases List.mem_cons.mp z with z | z
          · have : x = n := by cases z; rfl
            rw [this] at q; simp at q
          · exact z
    · obtain ⟨cl, e, h1, h2⟩ := ih acc
      refine ⟨cl, ?_, h1, fun x hx => h2 x (hx.imp id fun z => ?_)⟩
      · rw [List.forIn_cons, ← e]
        have : (k == NameKind.free) = false := by simpa using hk
        simp only [this, Bool.false_eq_true, if_false]
        rfl
      · rcases List.mem_cons.mp z with z | z
        · cases z; exact absurd rfl hk
        · exact z
theorem closureFor_is {scope : Scope} {env : Env} (hc : ∀ n, (n, NameKind.free) ∈ scope.names → ∃ c, env.cells.lookup n = some c) :
    ∃ cl, closureFor scope env = pure cl ∧ (∀ x c, cl.lookup x = some c → env.cells.lookup x = some c) ∧ ∀ x, (x, NameKind.free) ∈ scope.names → ∃ c, cl.lookup x = some c := by
  obtain ⟨cl, e, h1, h2⟩ := closure_is env scope.names hc []
  refine ⟨cl, ?_, h1 (fun _ _ q => by cases q), fun x hx => Option.isSome_iff_exists.mp (h2 x (.inr hx))⟩
  unfold closureFor
  exact congrArg (fun (t : Sem (List (Str × Addr))) => t >>= fun cs => pure cs) e
theorem lookup_relabel_free {env : Env} : ∀ {names : List (Str × NameKind)} {x : Str}, names.lookup x = some .free →
    (names.map fun (n, k) => if (k == NameKind.free && env.scope.kind == .function && env.kindOf n == some .cell) then (n, NameKind.cell) else (n, k)).lookup x = some .cell ∨
    (names.map fun (n, k) => if (k == NameKind.free && env.scope.kind == .function && env.kindOf n == some .cell) then (n, NameKind.cell) else (n, k)).lookup x = some .free
  | [], _, h => by simp at h
  | (n, k) :: r, x, h => by
    have ih := @lookup_relabel_free env r x
    show List.lookup x ((if (k == NameKind.free && env.scope.kind == .function && env.kindOf n == some .cell) = true then (n, NameKind.cell) else (n, k)) :: _) = _ ∨ List.lookup x ((if (k == NameKind.free && env.scope.kind == .function && env.kindOf n == some .cell) = true then (n, NameKind.cell) else (n, k)) :: _) = _
    cases hx : x == n with
    | true =>
      simp only [List.lookup_cons, hx] at h
      cases h
      by_cases hc : (NameKind.free == NameKind.free && env.scope.kind == .function && env.kindOf n == some .cell) = true
      · rw [if_pos hc]; simp [List.lookup_cons, hx]
      · rw [if_neg hc]; simp [List.lookup_cons, hx]
    | false =>
      simp only [List.lookup_cons, hx] at h
      by_cases hc : (k == NameKind.free && env.scope.kind == .function && env.kindOf n == some .cell) = true
      · rw [if_pos hc]; simp only [List.lookup_cons, hx]; exact ih h
      · rw [if_neg hc]; simp only [List.lookup_cons, hx]; exact ih h
section
variable {g : G} {F : Fm} {m : Loc} {H : AH} {s : Shared} {h₀ : Heap} {H₀ : AH}
theorem St.enterComp {scope : Scope} {cl : List (Str × Addr)} {h' : Heap} {t : Nat} (S : St g F m H s) (hk : scope.kind = .function) (kp : ∀ b o, s.heap.get? b = some o → h'.get? b = some o) (hn : h'.Ns s.heap.objs.size (fun _ => none))
    (ok : CellsOk h' (s.heap.objs.size + 1) (newC scope s.heap.objs.size)) (hdis : ∀ y ∈ scope.names, y.2 = .cell → scope.names.lookup y.1 = some .cell)
    (hcl : ∀ x c, cl.lookup x = some c → F.env.cells.lookup x = some c) (hcl2 : ∀ x, (x, NameKind.free) ∈ scope.names → ∃ c, cl.lookup x = some c)
    (hfree : ∀ x, scope.names.lookup x = some .free → (F.env.kindOf x = some .cell ∨ F.env.kindOf x = some .free) ∧ (x == ("__classdict__" : Str)) = false) :
    St g (F.comp scope cl s.heap.objs.size) (compLoc scope m) H { s with heap := h', toks := t } ∧ CompOf (F.comp scope cl s.heap.objs.size) F scope := by
  have mn : Mono s.heap h' := ⟨fun _ _ _ e => kp _ _ e, .ext kp⟩
  obtain ⟨oL, esL, epL, eL, dL, _⟩ := id hn
  obtain ⟨n1, n2, n3⟩ := S.lt (Nat.le_refl s.heap.objs.size)
  have new : ∀ x c, (newC scope s.heap.objs.size).lookup x = some c → h'.IsCell c none ∧ s.heap.objs.size ≤ c := fun x c e => ⟨(ok.empty x c (mem_of_lookup e)).1, Nat.le_of_succ_le (ok.empty x c (mem_of_lookup e)).2⟩
  have old : ∀ x c, cl.lookup x = some c → ¬ s.heap.objs.size ≤ c := fun x c e q => by
    obtain ⟨_, v, o, e', _⟩ := S.loc.cell x c (hcl x c e)
    rw [(S.lt q).2.2] at e'; cases e'
  have fcl : ∀ x, scope.names.lookup x = some .free → ∃ c, (newC scope s.heap.objs.size ++ cl).lookup x = some c ∧ cl.lookup x = some c := fun x hx => by
    obtain ⟨c, ec⟩ := hcl2 x (mem_of_lookup hx)
    refine ⟨c, ?_, ec⟩
    rw [List.lookup_append]
    cases q : (newC scope s.heap.objs.size).lookup x with
    | none => exact ec
    | some d =>
      have := hdis _ (cellsFrom_mem _ _ _ (mem_of_lookup q)).2 rfl
      rw [hx] at this; cases this
  refine ⟨⟨fun b o e => kp b o (S.base b o e), fun b o e => ?_, ⟨hk, ⟨_, hn, fun y a ha => ?_⟩, fun y c hy => ?_, fun y z c hy hz => ?_⟩, List.mem_cons_self, fun b hb' => ?_, ?_, fun b hb' => ?_, S.frame, S.Afr, S.gens, S.os, S.room, S.envg⟩,
    ⟨rfl, rfl, rfl, rfl, fun x hx => let ⟨c, e, _⟩ := fcl x hx; ⟨c, e⟩, fun x hx => ?_⟩⟩
  · obtain ⟨b1, b2⟩ := S.obj b o e
    obtain ⟨r, e', _⟩ := b2.get
    exact ⟨b1, b2.mono mn ((kp b r e').trans e'.symm)⟩
  · unfold compLoc at ha
    by_cases q : scope.names.lookup y = some .free
    · rw [if_pos q] at ha
      obtain ⟨mr, _, hm⟩ := S.loc.val
      obtain ⟨v, rv, w⟩ := hm y a ha
      refine ⟨v, rv.mono mn.tup, .inr ?_⟩
      obtain ⟨kq, ncd⟩ := hfree y q
      rcases w with ⟨w, _⟩ | ⟨_, c, w1, w2⟩
      · rw [w] at kq; rcases kq with kq | kq <;> cases kq
      · obtain ⟨c', ec, ec'⟩ := fcl y q
        have : c' = c := by have := hcl y c' ec'; rw [w1] at this; exact (Option.some.inj this).symm
        subst this
        refine ⟨?_, c', ec, w2.keeps kp⟩
        rcases lookup_relabel_free (env := F.env) q with z | z
        · exact .inl z
        · exact .inr ⟨z, ncd⟩
    · rw [if_neg q] at ha; cases ha
  · rcases lookup_app hy with e | e
    · obtain ⟨z, le⟩ := new y c e; exact ⟨(S.lt le).1, _, z⟩
    · obtain ⟨z1, v, z2⟩ := S.loc.cell y c (hcl y c e)
      exact ⟨z1, v, z2.keeps kp⟩
  · rcases lookup_app hy with e | e <;> rcases lookup_app hz with e' | e'
    · exact name_of_addr ok.apart (mem_of_lookup e) (mem_of_lookup e')
    · exact absurd (new y c e).2 (old z c e')
    · exact absurd (new z c e').2 (old y c e)
    · exact S.loc.apart y z c (hcl y c e) (hcl z c e')
  · rcases List.mem_cons.mp hb' with rfl | hb'
    · exact ⟨n1, n2, oL, eL, .inl ⟨_, _, dL⟩⟩
    · obtain ⟨p, hp, rfl⟩ := List.mem_map.mp hb'
      obtain ⟨⟨o, eo, d⟩, le⟩ := ok.empty p.1 p.2 hp
      obtain ⟨m1, m2, _⟩ := S.lt (Nat.le_of_succ_le le)
      exact ⟨m1, m2, o, eo, .inr ⟨_, d⟩⟩
  · exact funFrames_mono S.frs fun b hb' o e => ⟨o, kp b o e, id⟩
  · obtain ⟨h1, o, es, ep, h3, h4⟩ := S.frd b hb'
    exact ⟨h1, o, es, ep, kp b o h3, h4⟩
  · have : ((newC scope s.heap.objs.size).lookup x).isSome = true := cellsFrom_some _ _ _ (.inl hx)
    obtain ⟨c, ec⟩ := Option.isSome_iff_exists.mp this
    refine ⟨c, ?_, List.mem_cons_of_mem _ (List.mem_map.mpr ⟨(x, c), mem_of_lookup ec, rfl⟩)⟩
    show (newC scope s.heap.objs.size ++ cl).lookup x = some c
    rw [List.lookup_append, ec]; rfl
theorem St.backComp {scope : Scope} {cl : List (Str × Addr)} {m' : Loc} {H' : AH} {h₁ : Heap} {s' : Shared} {C : Addr} (S : St g F m H s) (kp : ∀ b o, s.heap.get? b = some o → h₁.get? b = some o) (nC : s.heap.objs.size ≤ C)
    (S' : St g (F.comp scope cl C) m' H' s') (K' : Keep (F.comp scope cl C) h₁ H s'.heap H') : St g F m H' s' ∧ Keep F s.heap H s'.heap H' := by
  have lt : ∀ b o, s.heap.get? b = some o → b ∉ (F.comp scope cl C).mine := fun b o e q => absurd (Heap.lt_size e) (Nat.not_lt.mpr (Nat.le_trans nC (comp_mine q)))
  have same : ∀ b o, s.heap.get? b = some o → H b = none → H' b = none ∧ (s'.heap.get? b = some o ∨ (b ∈ F.fr ∧ ∃ sl, s'.heap.get? b = some { o with slots := sl })) := fun b o e n => K'.same b o (kp b o e) n (lt b o e)
  have K : Keep F s.heap H s'.heap H' := ⟨fun b o e => K'.alive b o (kp b o e), (Dct.ext kp).trans K'.dct, fun b o e n _ => same b o e n⟩
  refine ⟨⟨S'.base, S'.obj, ?_, S.locm, fun b hb => ?_, S'.frs, S'.frd, S.frame, S.Afr, S'.gens, S'.os, S.room, S.envg⟩, K⟩
  · refine S.loc.mono (K.mono S) (fun y c hy => ?_) fun b hb o e => (same b o e (S.locIs b hb).1).2.imp id fun z => z.2
    obtain ⟨n, o, e, _⟩ := S.locIs c (.inr ⟨y, hy⟩)
    exact (same c o e n).1
  · obtain ⟨n1, n2, o, e, w⟩ := S.mine b hb
    obtain ⟨n', z⟩ := same b o e n1
    rcases z with z | ⟨_, sl, z⟩
    · exact ⟨n', n2, o, z, w⟩
    · exact ⟨n', n2, _, z, w⟩
structure AccAt (F : Fm) (h : Heap) (H : AH) (acc : Addr) (ys : List V) : Prop where
  obj : ∃ vs ep, h.get? acc = some (lstObj vs ep) ∧ VRs h ys vs
  un : H acc = none
  nm : acc ∉ F.mine
theorem AccAt.nfr {acc : Addr} {ys : List V} (S : St g F m H s) (x : AccAt F s.heap H acc ys) : acc ∉ F.fr := fun q => by
  obtain ⟨_, o, es, ep, e, d⟩ := S.frd acc q
  obtain ⟨vs, ep', e', _⟩ := x.obj
  rw [e'] at e; cases e; cases d
theorem AccAt.keep {acc : Addr} {ys : List V} {h' : Heap} {H' : AH} (S : St g F m H s) (k : Keep F s.heap H h' H') (x : AccAt F s.heap H acc ys) : AccAt F h' H' acc ys := by
  obtain ⟨vs, ep, e, r⟩ := x.obj
  obtain ⟨n, z⟩ := k.same acc _ e x.un x.nm
  refine ⟨⟨vs, ep, ?_, r.mono (k.mono S).tup⟩, n, x.nm⟩
  rcases z with z | ⟨z, _⟩
  · exact z
  · exact absurd z (x.nfr S)
theorem Keep.unhide {a : Addr} {h' : Heap} {H' : AH} (K : Keep F h₀ H₀ s.heap H) (k : Keep F (s.heap.hide a) H h' H') (n0 : h₀.get? a = none) : Keep F h₀ H₀ h' H' := by
  have up : ∀ b o, b ≠ a → s.heap.get? b = some o → (s.heap.hide a).get? b = some o := fun b o n e => (Heap.hide_ne _ n).trans e
  have ne : ∀ b o, h₀.get? b = some o → b ≠ a := fun b o e q => by subst q; rw [n0] at e; cases e
  refine ⟨fun b o e => ?_, fun b o es ep e d => ?_, fun b o e n hb => ?_⟩
  · obtain ⟨o', e'⟩ := K.alive b o e
    exact k.alive b o' (up b o' (ne b o e) e')
  · obtain ⟨o', es', ep', e', d'⟩ := K.dct b o es ep e d
    exact k.dct b o' es' ep' (up b o' (ne b o e) e') d'
  · obtain ⟨n', z⟩ := K.same b o e n hb
    rcases z with z | ⟨w, sl, z⟩
    · exact k.same b o (up b o (ne b o e) z) n' hb
    · obtain ⟨n'', y⟩ := k.same b _ (up b _ (ne b o e) z) n' hb
      rcases y with y | ⟨_, sl', y⟩
      · exact ⟨n'', .inr ⟨w, sl, y⟩⟩
      · exact ⟨n'', .inr ⟨w, sl', y⟩⟩
theorem Keep.hide {a : Addr} (F : Fm) (h : Heap) (H : AH) : Keep F (h.hide a) H h H :=
  ⟨fun b o e => ⟨o, Heap.of_hide e⟩, .ext fun _ _ e => Heap.of_hide e, fun b o e n _ => ⟨n, .inl (Heap.of_hide e)⟩⟩
theorem ErP.unhide {X : Value → List V → Loc → AH → Prop} {a : Addr} {e : Value} {s' : Shared} (K : Keep F h₀ H₀ s.heap H) (x : ErP g F X (s.heap.hide a) H e s') (n0 : h₀.get? a = none) : ErP g F X h₀ H₀ e s' := by
  obtain ⟨c, as, m', H', f, S, k, q⟩ := x
  refine ⟨c, as, m', H', f.since fun b o e => ?_, S, K.unhide k n0, q⟩
  obtain ⟨o', e'⟩ := K.alive b o e
  exact ⟨o', (Heap.hide_ne _ (fun q => by subst q; rw [n0] at e; cases e)).trans e'⟩
def WAcc (g : G) (F : Fm) (acc : Addr) (t : Sem Unit) (ys : List V) (m : Loc) (H : AH) (Q : List V → Loc → AH → Prop) (X : Value → List V → Loc → AH → Prop) : Prop :=
  ∀ h₀ H₀ s, St g F m H s → Keep F h₀ H₀ s.heap H → h₀.get? acc = none → g.B.StaysIn h₀ → AccAt F s.heap H acc ys →
    wpAny (model g.prog g.w) F.A t (fun _ s' => ∃ ys' m' H', St g F m' H' s' ∧ Keep F h₀ H₀ s'.heap H' ∧ AccAt F s'.heap H' acc ys' ∧ Q ys' m' H') (ErP g F X h₀ H₀) s
variable {X : Value → List V → Loc → AH → Prop}
theorem acc_emit {acc : Addr} {ys : List V} {elt : Expr} {Q : List V → Loc → AH → Prop} (hsz : ys.length ≤ sizeLine) (h : WE g F (eval elt F.env) m H (kEmit Q ys) X) :
    WAcc g F acc (do let _ ← call (.builtin "list.append") [.ref acc, ← eval elt F.env]) ys m H Q X := fun h₀ H₀ s S K n0 B0 A => by
  refine wpAny_bind (h.run S (fun v s₁ a m₁ H₁ r₁ S₁ k₁ q₁ => ?_) fun e s' x => x.after K)
  have A₁ := A.keep S k₁
  obtain ⟨vs, ep, e, hr⟩ := A₁.obj
  refine wpAny_bind (wpAny_list_append_plain (items := vs.toArray) ⟨ep, e⟩ (fun h' ⟨ep', e'⟩ hs => wpAny_pure ?_) (by rw [List.size_toArray, hr.length]; exact hsz))
  have nB : g.B.get? acc = none := by
    cases q : g.B.get? acc with
    | none => rfl
    | some o => rw [B0 acc o q] at n0; cases n0
  obtain ⟨S₂, K₂⟩ := S₁.un (t := s₁.toks) (h₀ := h₀) (H₀ := H₀) (h' := h') e ⟨fun _ _ q => (by cases q), fun _ q => (by cases q)⟩ A₁.un nB rfl (fun c o e n => (hs.2 c n).trans e)
  have tp : ∀ b o, Imm o → s₁.heap.get? b = some o → h'.get? b = some o := fun b o i eb => (hs.2 b fun q => by subst q; rw [e] at eb; cases eb; have := i.cls; cases this).trans eb
  refine ⟨ys ++ [a], m₁, H₁, S₂, K₂ (K.trans k₁) n0, ⟨⟨vs ++ [v], ep', by rw [e']; simp, (hr.mono tp).append (.cons (r₁.mono tp) .nil')⟩, A₁.un, A₁.nm⟩, q₁⟩
def testsOf (ifs : List Expr) (env : Env) : Sem Bool := forIn ifs true fun c r => if r = true then do let ok ← isTrue c env (eval c env); pure (ForInStep.yield ok) else pure (ForInStep.yield r)
theorem tests_nil {Q : Bool → Loc → AH → Prop} (h : Q true m H) : WB g F (testsOf [] F.env) m H Q X := fun s S => wpAny_tests_nil (OkP.now S rfl rfl rfl rfl h)
theorem tests_one {c : Expr} {Q : Bool → Loc → AH → Prop} (h : WB g F (isTrue c F.env (eval c F.env)) m H Q X) : WB g F (testsOf [c] F.env) m H Q X := fun s S => wpAny_tests_one (h s S)
def turnTree (target iter : Expr) (ifs : List Expr) (it : Value) (tail : Sem Unit) (e : Expr) (d : Nat) (acc : Value) (env : Env) : Sem Fin := do
  standAt iter.pos
  match ← pyNext it with
  | none => pure (.done .next)
  | some v =>
    letOwnedTupleGo target it v
    assign target env v
    let ok ← testsOf ifs env
    if ok then
      tail
    again (.compLoop e d it acc env)
def CompR (g : G) (F : Fm) (h₀ : Heap) (H₀ : AH) (acc : Addr) (Q : List V → Loc → AH → Prop) (X : Value → List V → Loc → AH → Prop) (r : Result) (s' : Shared) : Prop := match r with
  | .ok _ => ∃ ys m' H', St g F m' H' s' ∧ Keep F h₀ H₀ s'.heap H' ∧ AccAt F s'.heap H' acc ys ∧ Q ys m' H'
  | .error e => ∃ c as m' H', St g F m' H' s' ∧ Keep F h₀ H₀ s'.heap H' ∧ FlyT h₀ e c as s'.heap H' ∧ X c as m' H'
structure CompI (g : G) (F : Fm) (it acc : Addr) (P : Nat → Heap → Prop) (J : Nat → List V → Loc → AH → Prop) (h₀ : Heap) (H₀ : AH) (n k : Nat) (s' : Shared) (i : Nat) (ys' : List V) (m' : Loc) (H' : AH) : Prop where
  e : k = n + 1 - i
  hi : i ≤ n
  S : St g F m' H' s'
  K : Keep F h₀ H₀ s'.heap H'
  p : P i s'.heap
  nH : H' it = none
  A : AccAt F s'.heap H' acc ys'
  j : J i ys' m' H'
theorem comp_core {it acc : Addr} {P : Nat → Heap → Prop} {C : AH → Prop} {n d : Nat} {val : Nat → V} {target iter elt : Expr} {ifs : List Expr} {tail : Sem Unit} {gens : List Comprehension} {scope : Scope} {pos : Pos} {ys : List V} {J : Nat → List V → Loc → AH → Prop} (I : Iter g F it P C n val)
    (hct : compTurn (.ListComp elt gens scope pos) d (.ref it) (.ref acc) F.env = turnTree target iter ifs (.ref it) tail (.ListComp elt gens scope pos) d (.ref acc) F.env)
    (hs : F.stack ≠ []) (hJ : ∀ i ys m H, J i ys m H → C H)
    (turn : ∀ i ys m H, i < n → J i ys m H → WA g F target (val i) m H (fun m H => WB g F (testsOf ifs F.env) m H (fun ok m H => if ok then WAcc g F acc tail ys m H (fun ys m H => J (i + 1) ys m H) X else J (i + 1) ys m H) X) X)
    (S : St g F m H s) (K : Keep F h₀ H₀ s.heap H) (B0 : g.B.StaysIn h₀) (p : P 0 s.heap) (n0 : h₀.get? it = none) (nH : H it = none) (nm : it ∉ F.mine) (na : h₀.get? acc = none) (nia : it ≠ acc) (A0 : AccAt F s.heap H acc ys) (j : J 0 ys m H) :
    codeAny (model g.prog g.w) F.A (.compLoop (.ListComp elt gens scope pos) d (.ref it) (.ref acc) F.env) (CompR g F h₀ H₀ acc (J n) X) s := by
  have nB : g.B.get? it = none := by
    cases q : g.B.get? it with
    | none => rfl
    | some o => rw [B0 it o q] at n0; cases n0
  have err : ∀ e s', ErP g F X h₀ H₀ e s' → notedBy (model g.prog g.w) F.A F.env (fun e s' => CompR g F h₀ H₀ acc (J n) X (.error e) s') e s' := fun e s' x => by
    obtain ⟨_, _, _, _, _, S', _⟩ := id x
    exact noted B0 (S'.frameL hs) x fun s'' c as m' H' S'' K'' f'' q => ⟨c, as, m', H', S'', K'', f'', q⟩
  refine codeAny_loop rfl (fun k s' => ∃ i ys' m' H', CompI g F it acc P J h₀ H₀ n k s' i ys' m' H') ?_ (n + 1) ⟨0, ys, m, H, rfl, Nat.zero_le _, S, K, p, nH, A0, j⟩
  rintro k s' ⟨i, ys', m', H', rfl, hi, S', K', p', nH', A', j'⟩
  show wpAny _ _ ((compTurn (.ListComp elt gens scope pos) d (.ref it) (.ref acc) F.env).onRaise (fun x => do noteFrame x F.env; theTreesLotGoes x)) _ _ s'
  refine wpAny_noted ?_
  rw [hct]
  unfold turnTree
  obtain ⟨o, vs, t, e1, e2, e3, e4, e5⟩ := I.obj i _ p'
  have i4 : immC o.cls = false := e3 ▸ e4
  refine wpAny_bind (wpAny_standAt (wpAny_bind ?_))
  by_cases hlt : i < n
  · refine I.item i m' H' s' _ _ hlt S' p' (hJ _ _ _ _ j') fun h₁ tk v rv p₁ C₁ => ?_
    obtain ⟨S₁, K₁⟩ := S'.un (t := tk) (h₀ := h₀) (H₀ := H₀) e1 (notOwn e2) nH' nB i4 C₁
    have K₁ := K₁ K' n0
    have A₁ : AccAt F h₁ H' acc ys' := by
      obtain ⟨ws, ep, ea, ra⟩ := A'.obj
      refine ⟨⟨ws, ep, C₁ acc _ ea (Ne.symm nia), ra.mono fun b o im eb => C₁ b o eb fun q => ?_⟩, A'.un, A'.nm⟩
      subst q; rw [e1] at eb; cases eb; rw [im.cls] at i4; cases i4
    obtain ⟨o₁, vs₁, t₁, a1, a2, a3, a4, a5⟩ := I.obj (i + 1) h₁ p₁
    refine wpAny_bind (noOwned (s := { s' with heap := h₁, toks := tk }) a1 a2 a3 a5 ?_)
    have nf : ∀ {mm HH ss oo vv}, St g F mm HH ss → ss.heap.get? it = some oo → oo.data = .fields vv → it ∉ F.fr := fun T e d z => by
      obtain ⟨_, o', es, ep, e', d'⟩ := T.frd it z; rw [e] at e'; cases e'; rw [d] at d'; cases d'
    have stays : ∀ {mm : Loc} {HH : AH} {ss : Shared} {mm' : Loc} {HH' : AH} {ss' : Shared}, St g F mm HH ss → Keep F ss.heap HH ss'.heap HH' → ss.heap.get? it = some o₁ ∧ HH it = none → ss'.heap.get? it = some o₁ ∧ HH' it = none := fun T k ⟨z1, z2⟩ => by
      obtain ⟨w1, w2⟩ := k.same it o₁ z1 z2 nm
      rcases w2 with w2 | ⟨w2, _⟩
      · exact ⟨w2, w1⟩
      · exact absurd w2 (nf T z1 a2)
    refine wpAny_bind (wpAny_mono (turn i ys' m' H' hlt j' _ v S₁ rv) (fun _ s₂ yy => yy.elim fun _ m₂ H₂ _ S₂ K₂ q₂ => ?_) fun e s₂ x => err e s₂ (x.after K₁))
    have K₂' := K₁.trans K₂
    have st₂ := stays (mm' := m₂) (ss' := s₂) S₁ K₂ ⟨a1, nH'⟩
    have A₂ := A₁.keep S₁ K₂
    have p₂ : P (i + 1) s₂.heap := I.stay _ h₁ s₂.heap p₁ (st₂.1.trans a1.symm) (K₂.mono S₁)
    refine wpAny_bind (wpAny_mono (q₂ s₂ S₂) (fun ok s₃ yy => yy.elim fun ok' m₃ H₃ r₃ S₃ K₃ q₃ => ?_) fun e s₃ x => err e s₃ (x.after K₂'))
    cases r₃
    have K₃' := K₂'.trans K₃
    have st₃ := stays (mm' := m₃) (ss' := s₃) S₂ K₃ st₂
    have A₃ := A₂.keep S₂ K₃
    have p₃ : P (i + 1) s₃.heap := I.stay _ _ _ p₂ (st₃.1.trans st₂.1.symm) (K₃.mono S₂)
    cases ok with
    | false =>
      refine wpAny_pure ⟨rfl, n + 1 - (i + 1), less hlt, i + 1, ys', m₃, H₃, rfl, hlt, S₃, K₃', p₃, st₃.2, A₃, q₃⟩
    | true =>
      have q₃ : WAcc g F acc tail ys' m₃ H₃ (fun ys m H => J (i + 1) ys m H) X := q₃
      have Bh : g.B.StaysIn (s₃.heap.hide acc) := fun b o e => (Heap.hide_ne _ (fun q => by subst q; rw [B0 _ _ e] at na; cases na)).trans (S₃.base b o e)
      refine wpAny_bind (wpAny_mono (q₃ (s₃.heap.hide acc) H₃ s₃ S₃ (.hide ..) (Heap.hide_self ..) Bh A₃) (fun _ s₄ ⟨ys₄, m₄, H₄, S₄, K₄, A₄, q₄⟩ => ?_) fun e s₄ x => err e s₄ (x.unhide K₃' na))
      obtain ⟨w1, w2⟩ := K₄.same it o₁ ((Heap.hide_ne _ nia).trans st₃.1) st₃.2 nm
      have w2 : s₄.heap.get? it = some o₁ := by
        rcases w2 with w2 | ⟨w2, _⟩
        · exact w2
        · exact absurd w2 (nf S₃ st₃.1 a2)
      have mn : Mono s₃.heap s₄.heap := by
        obtain ⟨vs₃, ep₃, ea₃, _⟩ := A₃.obj
        have na' : ∀ b o, (Imm o ∨ ∃ es ep, o.data = .dict es ep) → s₃.heap.get? b = some o → b ≠ acc := fun b o i eb q => by
          subst q; rw [ea₃] at eb; cases eb
          rcases i with i | ⟨_, _, i⟩
          · have := i.cls; cases this
          · cases i
        refine ⟨fun b o i eb => ?_, fun b o es ep eb d => K₄.dct b o es ep ((Heap.hide_ne _ (na' b o (.inr ⟨_, _, d⟩) eb)).trans eb) d⟩
        obtain ⟨t1, t2, t3⟩ := S₃.tupFree i eb
        rcases (K₄.same b o ((Heap.hide_ne _ (na' b o (.inl i) eb)).trans eb) t1 t2).2 with z | ⟨z, _⟩
        · exact z
        · exact absurd z t3
      exact wpAny_pure ⟨rfl, n + 1 - (i + 1), less hlt, i + 1, ys₄, m₄, H₄, rfl, hlt, S₄, K₃'.unhide K₄ na, I.stay _ _ _ p₃ (w2.trans st₃.1.symm) mn, w1, A₄, q₄⟩
  · have hin : i = n := Nat.le_antisymm hi (Nat.le_of_not_lt hlt)
    subst hin
    refine I.stop m' H' s' _ _ S' p' (hJ _ _ _ _ j') fun h₁ tk C₁ => ?_
    obtain ⟨S₁, K₁⟩ := S'.un (t := tk) (h₀ := h₀) (H₀ := H₀) e1 (notOwn e2) nH' nB i4 C₁
    have K₁ := K₁ K' n0
    refine wpAny_pure ⟨ys', m', H', S₁, K₁, ?_, j'⟩
    obtain ⟨ws, ep, ea, ra⟩ := A'.obj
    refine ⟨⟨ws, ep, C₁ acc _ ea (Ne.symm nia), ra.mono fun b o im eb => C₁ b o eb fun q => ?_⟩, A'.un, A'.nm⟩
    subst q; rw [e1] at eb; cases eb; rw [im.cls] at i4; cases i4
end
end Mine
end
section
open PySem PySem.W PySem.Calls PyProof.Rows
set_option linter.unusedVariables false
namespace Mine
section
variable {g : G} {F : Fm} {m : Loc} {H : AH} {s : Shared} {X : Value → List V → Loc → AH → Prop}
structure CompHead (F : Fm) (scope : Scope) : Prop where
  kind : scope.kind = .function
  cell : ∀ y ∈ scope.names, y.2 = .cell → scope.names.lookup y.1 = some .cell
  names : ∀ x ∈ scope.names, x.2 = .local → scope.names.lookup x.1 = some .local
  free : ∀ x, scope.names.lookup x = some .free → (F.env.kindOf x = some .cell ∨ F.env.kindOf x = some .free) ∧ (x == ("__classdict__" : Str)) = false
  cells : ∀ n, (n, NameKind.free) ∈ scope.names → ∃ c, F.env.cells.lookup n = some c
def Walk (g : G) (Fc : Fm) (acc : Addr) (target : Expr) (ifs : List Expr) (tail : Sem Unit) (a : V) (ys : List V) (m : Loc) (H : AH) (Q : List V → Loc → AH → Prop) (X : Value → List V → Loc → AH → Prop) : Prop :=
  ∃ (n : Nat) (val : Nat → V) (C : AH → Prop) (J : Nat → List V → Loc → AH → Prop), Iterable g a n val C ∧ (∀ i ys m H, J i ys m H → C H) ∧ J 0 ys m H ∧
    (∀ i ys m H, i < n → J i ys m H → WA g Fc target (val i) m H (fun m H => WB g Fc (testsOf ifs Fc.env) m H (fun ok m H => if ok then WAcc g Fc acc tail ys m H (fun ys m H => J (i + 1) ys m H) X else J (i + 1) ys m H) X) X) ∧
    ∀ ys m H, J n ys m H → Q ys m H
theorem CompR.mono {Fc : Fm} {h₀ : Heap} {H₀ : AH} {acc : Addr} {Q Q' : List V → Loc → AH → Prop} {r : Result} {s' : Shared} (hq : ∀ ys m H, Q ys m H → Q' ys m H) (x : CompR g Fc h₀ H₀ acc Q X r s') : CompR g Fc h₀ H₀ acc Q' X r s' := by
  cases r with
  | ok f => obtain ⟨ys, m', H', a, b, c, d⟩ := x; exact ⟨ys, m', H', a, b, c, hq _ _ _ d⟩
  | error e => exact x
theorem comp_loops {elt : Expr} {target iter : Expr} {ifs : List Expr} {tail : Sem Unit} {gens : List Comprehension} {d : Nat} {scope : Scope} {pos : Pos} {acc : Addr} {a : V} {v : Value} {ys : List V} {Q : List V → Loc → AH → Prop} {h₀ : Heap} {H₀ : AH}
    (hct : ∀ it, compTurn (.ListComp elt gens scope pos) d it (.ref acc) F.env = turnTree target iter ifs it tail (.ListComp elt gens scope pos) d (.ref acc) F.env)
    (hh : F.A.handled = none) (hs : F.stack ≠ []) (w : Walk g F acc target ifs tail a ys m H Q X) (S : St g F m H s) (K : Keep F h₀ H₀ s.heap H) (B0 : g.B.StaysIn h₀) (na : h₀.get? acc = none) (A0 : AccAt F s.heap H acc ys) (r : VR s.heap a v) {E : Value → Shared → Prop} :
    wpAny (model g.prog g.w) F.A (pyIter v) (fun it s' => ∃ I, it = .ref I ∧ (∀ s'', s''.heap = s'.heap → s''.gens = s'.gens → s''.os = s'.os → codeAny (model g.prog g.w) F.A (.compLoop (.ListComp elt gens scope pos) d it (.ref acc) F.env) (CompR g F h₀ H₀ acc Q X) s'') ∧
      ∀ (Q' : Value → Shared → Prop) (E' : Value → Shared → Prop), Q' it s' → wpAny (model g.prog g.w) F.A (pyIter it) Q' E' s') E s := by
  obtain ⟨n, val, C, J, I, hJ, j, turn, fin⟩ := w
  refine I F m H s v S (hJ _ _ _ _ j) r _ _ fun o P hI hf p => ⟨_, rfl, fun s'' e1 e2 e3 => ?_, fun Q' E' q => (hI F hh).self 0 _ Q' E' p q⟩
  have C' : ∀ b o', s.heap.get? b = some o' → (s.heap.push o).get? b = some o' := fun _ _ e => Heap.get?_push_of_some o e
  obtain ⟨S₁, K₁⟩ := S.ext (t := s''.toks) C'
  have S₂ : St g F m H s'' := by
    have : s'' = { s with heap := s.heap.push o, toks := s''.toks, drawn := s''.drawn } := by
      obtain ⟨a1, a2, a3, a4, a5⟩ := s''; cases e1; cases e2; cases e3; rfl
    rw [this]
    exact ⟨S₁.base, S₁.obj, S₁.loc, S₁.locm, S₁.mine, S₁.frs, S₁.frd, S₁.frame, S₁.Afr, S₁.gens, S₁.os, S₁.room, S₁.envg⟩
  have K₂ : Keep F h₀ H₀ s''.heap H := by rw [e1]; exact K.trans K₁
  have A₂ : AccAt F s''.heap H acc ys := by rw [e1]; exact A0.keep S K₁
  have ne : s.heap.objs.size ≠ acc := by obtain ⟨vs, ep, e, _⟩ := A0.obj; exact Nat.ne_of_gt (Heap.lt_size e)
  exact codeAny_mono (comp_core (hI F hh) (hct _) hs hJ turn S₂ K₂ B0 (by rw [e1]; exact p) K.fresh (S.lt (Nat.le_refl _)).1 S.fresh na ne A₂ j) fun _ _ x => x.mono fin
theorem acc_nest {elt : Expr} {t0 i0 target iter : Expr} {ifs0 ifs : List Expr} {scope : Scope} {pos : Pos} {acc : Addr} {ys : List V} {Q : List V → Loc → AH → Prop} (hh : F.A.handled = none) (hs : F.stack ≠ []) (hfs : ∀ x, foldedSetIterable iter F.env x = pure x)
    (hsz : ∀ tail, tail = (do let _ ← call (.builtin "list.append") [.ref acc, ← eval elt F.env] : Sem Unit) → WE g F (eval iter F.env) m H (fun a m H => Walk g F acc target ifs tail a ys m H Q X) X) :
    WAcc g F acc (do
      let x ← eval iter F.env
      standAt iter.pos
      let x ← foldedSetIterable iter F.env x
      let _ ← runOwn (.compStart (.ListComp elt [⟨t0, i0, ifs0, 0⟩, ⟨target, iter, ifs, 0⟩] scope pos) 1 (← holding [x] (pyIter x)) (.ref acc) F.env) F.env) ys m H Q X := fun h₀ H₀ s S K n0 B0 A0 => by
  refine wpAny_bind ((hsz _ rfl).run S (fun v s₁ a m₁ H₁ r₁ S₁ k₁ q₁ => ?_) fun e s' x => x.after K)
  have A₁ := A0.keep S k₁
  have K₁ := K.trans k₁
  refine wpAny_bind (wpAny_standAt (wpAny_bind (wpAny_of_eq (hfs v) (wpAny_bind (wpAny_holding (wpAny_mono (comp_loops (elt := elt) (iter := iter) (gens := [⟨t0, i0, ifs0, 0⟩, ⟨target, iter, ifs, 0⟩]) (d := 1) (scope := scope) (pos := pos) (fun it => rfl) hh hs q₁ S₁ K₁ B0 n0 A₁ r₁ (E := ErP g F X h₀ H₀)) (fun it s₂ ⟨I, hI, hl, hself⟩ => ?_) fun _ _ x => x))))))
  refine wpAny_bind (wpAny_runOwn (codeAny_mono (R := CompR g F h₀ H₀ acc Q X) ?_ fun r s' z => ?_))
  · have all : codeAny (model g.prog g.w) F.A (.compLoop (.ListComp elt [⟨t0, i0, ifs0, 0⟩, ⟨target, iter, ifs, 0⟩] scope pos) 1 it (.ref acc) F.env) (CompR g F h₀ H₀ acc Q X) s₂ := hl s₂ rfl rfl rfl
    refine codeAny_of_tree ?_
    show wpAny _ _ ((compStart (.ListComp elt [⟨t0, i0, ifs0, 0⟩, ⟨target, iter, ifs, 0⟩] scope pos) 1 it (.ref acc) F.env).onRaise (fun x => do noteFrame x F.env; standAt theWindowsPlace)) _ _ s₂
    refine wpAny_notedAt ?_
    unfold compStart
    show wpAny _ _ (ask >>= _) _ _ s₂
    refine wpAny_bind (wpAny_askSetting (wpAny_ite ?_))
    split
    · first
        | exact wpAny_bind (wpAny_pure (wpAny_pure (And.intro rfl all)))
        | exact wpAny_pure (And.intro rfl all)
    · first
        | exact wpAny_bind (wpAny_rule (wpAny_bind (wpAny_standAt (wpAny_bind (hself _ _ (wpAny_pure (And.intro rfl all)))))))
        | (refine wpAny_bind (wpAny_rule ?_); show wpAny _ _ (standAt iter.pos >>= _) _ _ s₂; exact wpAny_bind (wpAny_standAt (wpAny_bind (hself _ _ (wpAny_pure (And.intro rfl all))))))
  · cases r with
    | ok f => exact wpAny_pure z
    | error e =>
      obtain ⟨c, as, m', H', S', K', f', q'⟩ := z
      exact cameBack B0 S' K' f' q'
def Walk0 (g : G) (F : Fm) (scope : Scope) (target : Expr) (ifs : List Expr) (tail : Fm → Addr → Sem Unit) (a : V) (m : Loc) (H : AH) (Q : List V → AH → Prop) (X : Value → List V → Loc → AH → Prop) : Prop :=
  ∃ (n : Nat) (val : Nat → V) (C : AH → Prop) (J : Nat → List V → Loc → AH → Prop), Iterable g a n val C ∧ (∀ i ys m H, J i ys m H → C H) ∧ J 0 [] (compLoc scope m) H ∧
    (∀ Fc acc, CompOf Fc F scope → ∀ i ys m H, i < n → J i ys m H → WA g Fc target (val i) m H (fun m H => WB g Fc (testsOf ifs Fc.env) m H (fun ok m H => if ok then WAcc g Fc acc (tail Fc acc) ys m H (fun ys m H => J (i + 1) ys m H) X else J (i + 1) ys m H) X) X) ∧
    ∀ ys m H, J n ys m H → Q ys H
structure Nobody (g : G) (F : Fm) (h : Heap) (H' : AH) (a : Addr) : Prop where
  new : h.get? a = none
  base : g.B.get? a = none
  un : H' a = none
  mine : a ∉ F.mine
  fr : a ∉ F.fr
  cell : ∀ y, F.env.cells.lookup y ≠ some a
theorem St.nobody {a : Addr} {H' : AH} (S : St g F m H s) (n : s.heap.objs.size ≤ a) (u : H' a = none) : Nobody g F s.heap H' a := by
  obtain ⟨n1, n2, n3⟩ := S.lt n
  have ne : ∀ b o, s.heap.get? b = some o → b ≠ a := fun b o e q => by subst q; rw [n3] at e; cases e
  refine ⟨n3, n2, u, fun q => ?_, fun q => ?_, fun y hy => ?_⟩
  · obtain ⟨_, _, o, e, _⟩ := S.mine a q; exact ne a o e rfl
  · obtain ⟨_, o, _, _, e, _⟩ := S.frd a q; exact ne a o e rfl
  · obtain ⟨_, v, o, e, _⟩ := S.loc.cell y a hy; exact ne a o e rfl
def CPost (M : Model) (A : Around) (E : Value → Shared → Prop) (use : Option (Value → Sem Unit)) (Q : Value → Shared → Prop) (acc : Value) (C : Addr) (r : Result) (s' : Shared) : Prop :=
  match r, use with
  | .ok _, none => ∃ mc, s'.heap.Ns C mc ∧ ∀ h' mc', h'.Ns C mc' → Heap.SameBut C s'.heap h' → Q acc { s' with heap := h' }
  | .ok _, some u => wpAny M A (u acc) (fun _ s'' => ∃ mc, s''.heap.Ns C mc ∧ ∀ h' mc', h'.Ns C mc' → Heap.SameBut C s''.heap h' → Q .none { s'' with heap := h' }) E s'
  | .error x, _ => ∃ mc, s'.heap.Ns C mc ∧ ∀ h' mc', h'.Ns C mc' → Heap.SameBut C s'.heap h' → ∀ cenv : Env, wpAny M A (PySem.passOn "comprehension.variables-let-go" x cenv : Sem Value) (fun _ _ => False) E { s' with heap := h' }
theorem comp_open {M : Model} {A : Around} {env : Env} {e : Expr} {scope : Scope} {pos : Pos} {newAcc first : Sem Value} {c0 : Comprehension} {gs : List Comprehension} {cl : List (Str × Addr)} {use : Option (Value → Sem Unit)} {Q : Value → Shared → Prop} {E : Value → Shared → Prop}
    (hcl : clausesOf e = c0 :: gs) (hs : ∀ x, foldedSetIterable c0.iter env x = pure x) (hclos : closureFor scope env = pure cl) (hkind : scope.kind = .function) (hnames : ∀ x ∈ scope.names, x.2 = .local → scope.names.lookup x.1 = some .local)
    (h : wpAny M A first (fun x s₁ => wpAny M A (pyIter x) (fun it s₂ => wpAny M A newAcc (fun acc s₃ => wpAny M A (newFunctionEnv scope env.globals cl [] env.qual none .none (some env)) (fun cenv s₄ =>
      codeAny M A (.compStart e 0 it acc { cenv with scope := relabel scope env }) (CPost M A E use Q acc cenv.locals) s₄) E s₃) E s₂) E s₁) E s) :
    wpAny M A (comprehension e scope env pos newAcc false first use) Q E s := by
  unfold comprehension
  rw [hclos, hcl]
  refine wpAny_bind (wpAny_mono h (fun x s₁ h₁ => ?_) fun _ _ y => y)
  refine wpAny_bind (wpAny_standAt (wpAny_bind (wpAny_of_eq (hs x) (wpAny_bind (wpAny_holding (wpAny_mono h₁ (fun it s₂ h₂ => ?_) fun _ _ y => y))))))
  refine wpAny_standIf (wpAny_bind (wpAny_mono h₂ (fun acc s₃ h₃ => wpAny_bind (wpAny_pure (wpAny_bind (wpAny_mono h₃ (fun cenv s₄ h₄ => ?_) fun _ _ y => y)))) fun _ _ y => y))
  dsimp only
  have own : ∀ l : List (Str × NameKind), (∀ x ∈ l, x ∈ (scope.names.filter fun x => (x.2 == .local || x.2 == .cell) && x.1 != (".0" : Str)).reverse) → ∀ x ∈ l, x.2 = .local → Env.kindOf { cenv with scope := relabel scope env } x.1 = some .local :=
    fun l hl x hx q => lookup_relabel_local (hnames x (List.mem_filter.mp (List.mem_reverse.mp (hl x hx))).1 q)
  refine wpAny_holding (wpAny_bind (wpAny_attempt (wpAny_holding (wpAny_run (codeAny_mono h₄ fun r s' z => ?_)))))
  cases r with
  | ok f =>
    cases use with
    | none =>
      obtain ⟨mc, hn, z⟩ := z
      exact wpAny_bind (wpAny_holding (wpAny_comp_letGo (cenv := { cenv with scope := relabel scope env }) hkind _ s' mc (own _ fun _ q => q) hn fun h' mc' hn' hs' => wpAny_pure (z h' mc' hn' hs')))
    | some u =>
      refine wpAny_bind (wpAny_rule (wpAny_bind (wpAny_holding (wpAny_mono z (fun _ s'' z' => ?_) fun _ _ y => y))))
      obtain ⟨mc, hn, z'⟩ := z'
      refine wpAny_bind (wpAny_comp_letGo (cenv := { cenv with scope := relabel scope env }) hkind _ s'' mc (own _ fun x q => ?_) hn fun h' mc' hn' hs' => wpAny_pure (z' h' mc' hn' hs'))
      rcases List.mem_append.mp q with q | q
      · exact List.mem_of_mem_drop q
      · exact List.mem_of_mem_take q
  | error x =>
    have z' : ∃ mc, s'.heap.Ns cenv.locals mc ∧ ∀ h' mc', h'.Ns cenv.locals mc' → Heap.SameBut cenv.locals s'.heap h' → ∀ cenv' : Env, wpAny M A (PySem.passOn "comprehension.variables-let-go" x cenv' : Sem Value) (fun _ _ => False) E { s' with heap := h' } := by cases use <;> exact z
    obtain ⟨mc, hn, z'⟩ := z'
    exact wpAny_bind (wpAny_holding (wpAny_comp_letGo (cenv := { cenv with scope := relabel scope env }) hkind _ s' mc (own _ fun _ q => q) hn fun h' mc' hn' hs' => wpAny_mono (z' h' mc' hn' hs' _) (fun _ _ yy => yy.elim) fun _ _ y => y))
theorem wp_newEnvC {M : Model} {A : Around} {E : Value → Shared → Prop} {s : Shared} {scope : Scope} {globals : Addr} {cl : List (Str × Addr)} {qual : Str} {func : Option Addr} {code : Value} {outer : Env} {builtins : Addr} {Q : Env → Shared → Prop}
    (hQ : ∀ h', h'.Ns s.heap.objs.size (fun _ => none) → (∀ b o, s.heap.get? b = some o → h'.get? b = some o) → CellsOk h' (s.heap.objs.size + 1) (newC scope s.heap.objs.size) →
      Q (newEnv scope s.heap.objs.size globals (newC scope s.heap.objs.size ++ cl) qual func code (some outer) builtins) { s with heap := h' }) :
    wpAny M A (newFunctionEnv scope globals cl [] qual func code (some outer) builtins) Q E s := by
  simp only [newFunctionEnv, Option.isSome_some, if_true]
  refine wpAny_bind (wpAny_alloc ?_)
  refine wpAny_bind (wpAny_layCells _ (fun name kind cells => by cases hkc : kind == NameKind.cell <;> simp [hkc]) _ _ _ _ ?_)
  have ok := cellsFrom_ok scope.names (s.heap.push { cls := .type "dict", data := .dict #[] }) (s.heap.objs.size + 1) [] ⟨fun _ _ hm => (nomatch hm), List.Pairwise.nil⟩ (by rw [Heap.size_push]; exact Nat.le_refl _)
  rw [Heap.size_push] at ok
  rw [show ({ s with heap := s.heap.push { cls := .type "dict", data := .dict #[] } } : Shared).heap.objs.size = s.heap.objs.size + 1 from Heap.size_push .., cellsFrom_app]
  exact wpAny_bind (wpAny_pure (wpAny_pure (hQ _ ((Heap.Ns.new s.heap (.type "dict")).keeps (pushCells_keeps _ _)) (fun b o e => pushCells_keeps _ _ b o (Heap.get?_push_of_some _ e)) ok)))
theorem comp_frame {elt target iter : Expr} {ifs : List Expr} {tail : Fm → Addr → Sem Unit} {rest : List Comprehension} {scope : Scope} {pos ipos : Pos} {use : Option (Value → Sem Unit)} {Q : Value → Shared → Prop} {Qy : List V → Loc → AH → Prop}
    (hd : CompHead F scope) (hfs : ∀ x, foldedSetIterable iter F.env x = pure x) (hh : F.A.handled = none) (hs : F.stack ≠ [])
    (hct : ∀ Fc acc it, compTurn (.ListComp elt (⟨target, iter, ifs, 0⟩ :: rest) scope pos) 0 it (.ref acc) Fc.env = turnTree target iter ifs it (tail Fc acc) (.ListComp elt (⟨target, iter, ifs, 0⟩ :: rest) scope pos) 0 (.ref acc) Fc.env)
    (S : St g F m H s)
    (h : WE g F (eval iter F.env) m H (fun a m H => Walk0 g F scope target ifs tail a m H (fun ys H => Qy ys m H) (fun c as _ H => X c as m H)) X)
    (hq : ∀ acc C s' ys m' H', St g F m' H' s' → Keep F s.heap H s'.heap H' → Nobody g F s.heap H' acc → OH g s'.heap acc (.list ys) → Qy ys m' H' → Nobody g F s.heap H' C → C ≠ acc → (∃ mc, s'.heap.Ns C mc) →
      (∀ h' t m'' H'' s'', St g F m'' H'' s'' → Keep F s.heap H s''.heap H'' → H'' C = none → (∃ mc, s''.heap.Ns C mc) → (∃ mc, h'.Ns C mc) → Heap.SameBut C s''.heap h' → St g F m'' H'' { s'' with heap := h', toks := t } ∧ Keep F s.heap H h' H'') →
      CPost (model g.prog g.w) F.A (ErP g F X s.heap H) use Q (.ref acc) C (.ok .next) s') :
    wpAny (model g.prog g.w) F.A (comprehension (.ListComp elt (⟨target, iter, ifs, 0⟩ :: rest) scope pos) scope F.env ipos (newList []) false (eval iter F.env) use) Q (ErP g F X s.heap H) s := by
  obtain ⟨cl, hcl, hcl1, hcl2⟩ := closureFor_is hd.cells
  refine comp_open (c0 := ⟨target, iter, ifs, 0⟩) (gs := rest) rfl hfs hcl hd.kind hd.names (h.run S (fun v s₁ a m₁ H₁ r₁ S₁ k₁ w => ?_) fun _ _ x => x)
  obtain ⟨n, val, C, J, I, hJ, j, turn, fin⟩ := w
  refine I F m₁ H₁ s₁ v S₁ (hJ _ _ _ _ j) r₁ _ _ fun o P hI hf p => ?_
  have C₂ : ∀ b o', s₁.heap.get? b = some o' → (s₁.heap.push o).get? b = some o' := fun _ _ e => Heap.get?_push_of_some o e
  obtain ⟨S₂, K₂⟩ := S₁.ext (t := s₁.toks) C₂
  refine wpAny_newObj_type ?_
  have C₃ : ∀ b o', (s₁.heap.push o).get? b = some o' → ((s₁.heap.push o).push (lstObj [] 0)).get? b = some o' := fun _ _ e => Heap.get?_push_of_some _ e
  obtain ⟨S₃, K₃⟩ := S₂.ext (t := s₁.toks) C₃
  refine wp_newEnvC fun h₄ hns kp ok => ?_
  dsimp only at hns kp ok ⊢
  obtain ⟨S₄, hFc⟩ := S₃.enterComp (t := s₁.toks) (cl := cl) hd.kind kp hns ok hd.cell hcl1 hcl2 hd.free
  have sz : ((s₁.heap.push o).push (lstObj [] 0)).objs.size = s₁.heap.objs.size + 2 := by rw [Heap.size_push, Heap.size_push]
  have sz1 : (s₁.heap.push o).objs.size = s₁.heap.objs.size + 1 := by rw [Heap.size_push]
  have leC : s₁.heap.objs.size ≤ ((s₁.heap.push o).push (lstObj [] 0)).objs.size := by rw [sz]; exact Nat.le_add_right _ _
  have leA : s₁.heap.objs.size ≤ (s₁.heap.push o).objs.size := by rw [sz1]; exact Nat.le_add_right _ _
  have neAC : (s₁.heap.push o).objs.size ≠ ((s₁.heap.push o).push (lstObj [] 0)).objs.size := by rw [sz, sz1]; exact Nat.ne_of_lt (Nat.lt_succ_self _)
  have neIC : s₁.heap.objs.size ≠ ((s₁.heap.push o).push (lstObj [] 0)).objs.size := by rw [sz]; exact Nat.ne_of_lt (Nat.lt_add_of_pos_right (by decide))
  have ltAC : ¬ ((s₁.heap.push o).push (lstObj [] 0)).objs.size ≤ (s₁.heap.push o).objs.size := by rw [sz, sz1]; exact Nat.not_le.mpr (Nat.lt_succ_self _)
  have ltIC : ¬ ((s₁.heap.push o).push (lstObj [] 0)).objs.size ≤ s₁.heap.objs.size := by rw [sz]; exact Nat.not_le.mpr (Nat.lt_add_of_pos_right (by decide))
  have neIA : s₁.heap.objs.size ≠ (s₁.heap.push o).objs.size := by rw [sz1]; exact Nat.ne_of_lt (Nat.lt_succ_self _)
  have kp1 : ∀ b o', s₁.heap.get? b = some o' → h₄.get? b = some o' := fun b o' e => kp b o' (C₃ b o' (C₂ b o' e))
  have K₄ : Keep (F.comp scope cl ((s₁.heap.push o).push (lstObj [] 0)).objs.size) s₁.heap H₁ h₄ H₁ := ⟨fun b o' e => ⟨o', kp1 b o' e⟩, .ext kp1, fun b o' e n _ => ⟨n, .inl (kp1 b o' e)⟩⟩
  have eit : h₄.get? s₁.heap.objs.size = (s₁.heap.push o).get? s₁.heap.objs.size := by
    have := Heap.get?_push_size s₁.heap hf
    rw [this]; exact kp _ _ (C₃ _ _ this)
  have p₄ : P 0 h₄ := (hI F hh).stay 0 _ _ p eit ⟨fun b o' _ e => kp b o' (C₃ b o' e), .ext fun b o' e => kp b o' (C₃ b o' e)⟩
  have Aacc : AccAt (F.comp scope cl ((s₁.heap.push o).push (lstObj [] 0)).objs.size) h₄ H₁ (s₁.heap.push o).objs.size [] :=
    ⟨⟨[], 0, kp _ _ (Heap.get?_push_size _ rfl), .nil'⟩, (S₁.lt leA).1, fun q => ltAC (comp_mine q)⟩
  have core := comp_core (h₀ := s₁.heap) (H₀ := H₁) (X := fun c as _ H => X c as m₁ H) (hI _ (by show F.A.handled = none; exact hh)) (hct (F.comp scope cl ((s₁.heap.push o).push (lstObj [] 0)).objs.size) (s₁.heap.push o).objs.size (.ref s₁.heap.objs.size)) (by show F.stack ≠ []; exact hs) hJ (turn _ _ hFc) S₄ K₄ S₁.base p₄
    (S₁.lt (Nat.le_refl _)).2.2 (S₁.lt (Nat.le_refl _)).1 (fun q => ltIC (comp_mine q)) (S₁.lt leA).2.2 neIA Aacc j
  have core' : codeAny (model g.prog g.w) F.A (.compLoop (.ListComp elt (⟨target, iter, ifs, 0⟩ :: rest) scope pos) 0 (.ref s₁.heap.objs.size) (.ref (s₁.heap.push o).objs.size) (F.comp scope cl ((s₁.heap.push o).push (lstObj [] 0)).objs.size).env)
      (CPost (model g.prog g.w) F.A (ErP g F X s.heap H) use Q (.ref (s₁.heap.push o).objs.size) ((s₁.heap.push o).push (lstObj [] 0)).objs.size) { s₁ with heap := h₄, toks := s₁.toks } := by
    refine codeAny_mono core fun r s' z => ?_
    have since : ∀ b, s₁.heap.get? b = none → s.heap.get? b = none := fun b e => by
      cases q : s.heap.get? b with
      | none => rfl
      | some o' => obtain ⟨o'', z⟩ := k₁.alive b o' q; rw [e] at z; cases z
    have off : ∀ h' t m'' H'' s'', St g F m'' H'' s'' → Keep F s.heap H s''.heap H'' → H'' ((s₁.heap.push o).push (lstObj [] 0)).objs.size = none → (∃ mc, s''.heap.Ns ((s₁.heap.push o).push (lstObj [] 0)).objs.size mc) → (∃ mc, h'.Ns ((s₁.heap.push o).push (lstObj [] 0)).objs.size mc) →
        Heap.SameBut ((s₁.heap.push o).push (lstObj [] 0)).objs.size s''.heap h' → St g F m'' H'' { s'' with heap := h', toks := t } ∧ Keep F s.heap H h' H'' := by
      intro h' t m'' H'' s'' T k u ⟨mc, oC, esC, epC, eC, dC, _⟩ ⟨mc', oC', esC', epC', eC', dC', _⟩ hsb'
      have nb := S₁.nobody leC u
      obtain ⟨T', k'⟩ := T.off (t := t) (h₀ := s.heap) (H₀ := H) (fun c o' e n => (hsb'.2 c n).trans e) u nb.base nb.mine nb.fr nb.cell (fun o' e i => by rw [eC] at e; cases e; exact i.data.1 _ _ dC) fun o' es ep e d => ⟨oC', esC', epC', eC', dC'⟩
      exact ⟨T', k' k (since _ nb.new)⟩
    cases r with
    | ok f =>
      obtain ⟨ys, m', H', S', K', A', q'⟩ := z
      obtain ⟨S₅, K₅⟩ := S₁.backComp (fun _ _ e => e) leC S' K'
      obtain ⟨vs, ep, ea, ra⟩ := A'.obj
      have nbA := S₁.nobody leA A'.un
      have nbC := S₁.nobody leC (S'.mine _ List.mem_cons_self).1
      have := hq (s₁.heap.push o).objs.size ((s₁.heap.push o).push (lstObj [] 0)).objs.size s' ys m₁ H' S₅ (k₁.trans K₅) ⟨since _ nbA.new, nbA.base, nbA.un, nbA.mine, nbA.fr, nbA.cell⟩ ⟨vs, ep, ea, ra⟩ (fin ys m' H' q')
        ⟨since _ nbC.new, nbC.base, nbC.un, nbC.mine, nbC.fr, nbC.cell⟩ (Ne.symm neAC) (let ⟨mr, hn, _⟩ := S'.loc.val; ⟨mr, hn⟩) off
      cases use <;> exact this
    | error e =>
      obtain ⟨c, as, m', H', S', K', f', q'⟩ := z
      obtain ⟨S₅, K₅⟩ := S₁.backComp (fun _ _ e => e) leC S' K'
      obtain ⟨mr, hn, _⟩ := S'.loc.val
      have K₅' := k₁.trans K₅
      have f'' : FlyT s.heap e c as s'.heap H' := by
        obtain ⟨a, o, vs, v, T, oT, ts, x, y⟩ := f'
        exact ⟨a, o, vs, v, T, oT, ts, x, y.h1, since _ y.h2, y.h3, y.h4, y.h5, y.h6, y.h7, y.h8, y.h9, y.h10.q1, y.h10.q2, since _ y.h10.q3, y.h10.q4, y.h10.q5, y.h10.q6, y.h10.q7, y.h10.q8⟩
      have fin' : ∃ mc, s'.heap.Ns ((s₁.heap.push o).push (lstObj [] 0)).objs.size mc ∧ ∀ h' mc', h'.Ns ((s₁.heap.push o).push (lstObj [] 0)).objs.size mc' → Heap.SameBut ((s₁.heap.push o).push (lstObj [] 0)).objs.size s'.heap h' → ∀ cenv : Env, wpAny (model g.prog g.w) F.A (PySem.passOn "comprehension.variables-let-go" e cenv : Sem Value) (fun _ _ => False) (ErP g F X s.heap H) { s' with heap := h' } := by
        refine ⟨mr, hn, fun h' mc' hmc' hsb' cenv => ?_⟩
        obtain ⟨S₆, K₆⟩ := off h' s'.toks m₁ H' s' S₅ K₅' (S'.mine _ List.mem_cons_self).1 ⟨mr, hn⟩ ⟨mc', hmc'⟩ hsb'
        have f₆ : FlyT s.heap e c as h' H' := by
          obtain ⟨oL, esL, epL, eL, dL, _⟩ := id hn
          obtain ⟨a, oe, vs, v, T, oT, ts, x, h1, h2, h3, h4, h5, h6, h7, h8, h9, t1, t2, t3, t4, t5, t6, t7, t8⟩ := f''
          have ne : ∀ b o' vs, s'.heap.get? b = some o' → o'.data = .fields vs → b ≠ ((s₁.heap.push o).push (lstObj [] 0)).objs.size := fun b o' vs e d q => by
            have eL : s'.heap.get? ((s₁.heap.push o).push (lstObj [] 0)).objs.size = some oL := eL
            subst q; rw [eL] at e; cases e; rw [dL] at d; cases d
          refine ⟨a, oe, vs, v, T, oT, ts, x, h1, h2, h3, (hsb'.2 a (ne a oe vs h4 h7)).trans h4, h5, h6, h7, h8, ?_, t1, t2, t3, t4, (hsb'.2 T (ne T oT ts t5 t7)).trans t5, t6, t7, t8⟩
          refine h9.mono fun b ob i eb => (hsb'.2 b fun q => ?_).trans eb
          have eL : s'.heap.get? ((s₁.heap.push o).push (lstObj [] 0)).objs.size = some oL := eL
          subst q; rw [eL] at eb; cases eb; exact i.data.1 _ _ dL
        unfold PySem.passOn
        have f₆' := f₆
        obtain ⟨a, oe, vs, v, T, oT, ts, x, rfl, h2, h3, h4, h5, h6, h7, h8, h9, t1, t2, t3, t4, t5, t6, t7, t8⟩ := f₆
        refine wpAny_bind (wpAny_field h4 h7 t1 ?_)
        rw [if_neg (show ¬ ((Value.ref T == Value.none) = true) from by simp)]
        refine wpAny_bind (flight S₆ K₆ S.base f₆' fun s₇ S₇ K₇ f₇ => wpAny_throw ⟨c, as, m₁, H', f₇.fly, S₇, K₇, q'⟩)
      cases use <;> exact fin'
  exact codeAny_compStart_list core' ((hI F hh).self 0 _ _ _ p₄ core')
end
end Mine
end
section
open PySem PySem.W PySem.Calls PyProof.Rows
set_option linter.unusedVariables false
namespace Mine
section
variable {g : G} {F : Fm} {m : Loc} {H : AH} {s : Shared} {X : Value → List V → Loc → AH → Prop}
theorem St.trackN {a : Addr} {ys : List V} {h₀ : Heap} {H₀ : AH} (S : St g F m H s) (K : Keep F h₀ H₀ s.heap H) (nb : Nobody g F h₀ H a) (hn : OH g s.heap a (.list ys)) : St g F m (put H a (.list ys)) s ∧ Keep F h₀ H₀ s.heap (put H a (.list ys)) :=
  S.track K nb.new nb.base nb.un nb.mine nb.fr nb.cell hn
theorem e_comp {elt target iter : Expr} {ifs : List Expr} {tail : Fm → Addr → Sem Unit} {rest : List Comprehension} {scope : Scope} {pos : Pos} {Q : V → Loc → AH → Prop}
    (hd : CompHead F scope) (hfs : ∀ x, foldedSetIterable iter F.env x = pure x) (hh : F.A.handled = none) (hs : F.stack ≠ [])
    (hct : ∀ Fc acc it, compTurn (.ListComp elt (⟨target, iter, ifs, 0⟩ :: rest) scope pos) 0 it (.ref acc) Fc.env = turnTree target iter ifs it (tail Fc acc) (.ListComp elt (⟨target, iter, ifs, 0⟩ :: rest) scope pos) 0 (.ref acc) Fc.env)
    (h : WE g F (eval iter F.env) m H (fun a m H => Walk0 g F scope target ifs tail a m H (fun ys H => ∀ b, H b = none → Q (.ref b) m (put H b (.list ys))) (fun c as _ H => X c as m H)) X) :
    WE g F (eval (.ListComp elt (⟨target, iter, ifs, 0⟩ :: rest) scope pos) F.env) m H Q X := fun s S => by
  rw [eval_ListComp]
  refine comp_frame (use := none) (Qy := fun ys m H => ∀ b, H b = none → Q (.ref b) m (put H b (.list ys))) hd hfs hh hs hct S h fun acc C s' ys m' H' S' K' nA oA q nC ne ⟨mc, hn⟩ off => ⟨mc, hn, fun h' mc' hn' hsb => ?_⟩
  obtain ⟨S₁, K₁⟩ := off h' s'.toks m' H' s' S' K' nC.un ⟨mc, hn⟩ ⟨mc', hn'⟩ hsb
  have oA' : OH g h' acc (.list ys) := by
    obtain ⟨vs, ep, e, r⟩ := oA
    obtain ⟨oC, es, epC, eC, dC, _⟩ := hn
    exact ⟨vs, ep, (hsb.2 acc (Ne.symm ne)).trans e, r.mono fun b o i eb => (hsb.2 b fun z => by subst z; rw [eC] at eb; cases eb; exact i.data.1 _ _ dC).trans eb⟩
  obtain ⟨S₂, K₂⟩ := S₁.trackN K₁ nA oA'
  exact ⟨.ref acc, m', _, .ref' acc, S₂, K₂, q acc nA.un⟩
theorem s_comp {elt target iter : Expr} {ifs : List Expr} {tail : Fm → Addr → Sem Unit} {rest : List Comprehension} {scope : Scope} {pos spos : Pos} {x : Str} {px : Pos} {Q : Fl → Loc → AH → Prop}
    (hsw : swapsWith (.ListComp elt (⟨target, iter, ifs, 0⟩ :: rest) scope pos) (some (.Name x px)) spos.line F.env = pure true) (hx : Stores F x)
    (hd : CompHead F scope) (hfs : ∀ x, foldedSetIterable iter F.env x = pure x) (hh : F.A.handled = none) (hs : F.stack ≠ [])
    (hct : ∀ Fc acc it, compTurn (.ListComp elt (⟨target, iter, ifs, 0⟩ :: rest) scope pos) 0 it (.ref acc) Fc.env = turnTree target iter ifs it (tail Fc acc) (.ListComp elt (⟨target, iter, ifs, 0⟩ :: rest) scope pos) 0 (.ref acc) Fc.env)
    (h : WE g F (eval iter F.env) m H (fun a m H => Walk0 g F scope target ifs tail a m H (fun ys H => ∀ b, H b = none → Q .next (setL m x (.ref b)) (put H b (.list ys))) (fun c as _ H => X c as m H)) X) :
    WS g F (exec (.Assign [.Name x px] (.ListComp elt (⟨target, iter, ifs, 0⟩ :: rest) scope pos) spos) F.env) m H Q X := fun s S => by
  rw [exec_Assign_Name_used _ _ _ _ hsw]
  refine wpAny_bind (wpAny_standAt (wpAny_bind ?_))
  show wpAny _ F.A (do let _ ← comprehension (.ListComp elt (⟨target, iter, ifs, 0⟩ :: rest) scope pos) scope F.env _ (newList []) false (eval iter F.env) (some (assign (.Name x px) F.env))) _ _ s
  refine wpAny_bind (wpAny_mono (comp_frame (use := some (assign (.Name x px) F.env)) (Q := fun _ s' => OkP g F FR Q s.heap H .next s') (Qy := fun ys m H => ∀ b, H b = none → Q .next (setL m x (.ref b)) (put H b (.list ys))) hd hfs hh hs hct S h
    fun acc C s' ys m' H' S' K' nA oA q nC ne ⟨mc, hn⟩ off => ?_) (fun _ s' hq => wpAny_pure (wpAny_pure hq)) fun _ _ e => e)
  obtain ⟨S₂, K₂⟩ := S'.trackN K' nA oA
  show wpAny _ F.A (assign (.Name x px) F.env (.ref acc)) _ _ s'
  refine wpAny_mono (a_name (X := X) (Q := fun m H => Q .next m H) hx (q acc nA.un) s' _ S₂ (.ref' acc)) (fun _ s'' yy => yy.elim fun _ m'' H'' _ S₃ K₃ q₃ => ?_) fun _ _ x => x.after K₂
  have K₃' := K₂.trans K₃
  obtain ⟨oC, es, epC, eC, dC, rC⟩ := id hn
  have u2 : put H' acc (.list ys) C = none := by rw [put_ne _ _ ne]; exact nC.un
  obtain ⟨n'', z⟩ := K₃.same C oC eC u2 nC.mine
  have hn'' : s''.heap.Ns C mc := ns_mono hn fun o e => by
    rw [eC] at e; cases e
    exact z.imp id fun w => w.2
  refine ⟨mc, hn'', fun h' mc' hn' hsb => ?_⟩
  obtain ⟨S₄, K₄⟩ := off h' s''.toks m'' H'' s'' S₃ K₃' n'' ⟨mc, hn''⟩ ⟨mc', hn'⟩ hsb
  exact ⟨.next, m'', H'', rfl, S₄, K₄, q₃⟩
def emitTail (elt : Expr) (Fc : Fm) (acc : Addr) : Sem Unit := do let _ ← call (.builtin "list.append") [.ref acc, ← eval elt Fc.env]
def nestTail (elt t0 i0 : Expr) (ifs0 : List Expr) (target iter : Expr) (ifs : List Expr) (scope : Scope) (pos : Pos) (Fc : Fm) (acc : Addr) : Sem Unit := do
  let x ← eval iter Fc.env
  standAt iter.pos
  let x ← foldedSetIterable iter Fc.env x
  let _ ← runOwn (.compStart (.ListComp elt [⟨t0, i0, ifs0, 0⟩, ⟨target, iter, ifs, 0⟩] scope pos) 1 (← holding [x] (pyIter x)) (.ref acc) Fc.env) Fc.env
theorem turn_one (elt target iter : Expr) (ifs : List Expr) (scope : Scope) (pos : Pos) (Fc : Fm) (acc : Addr) (it : Value) :
    compTurn (.ListComp elt [⟨target, iter, ifs, 0⟩] scope pos) 0 it (.ref acc) Fc.env = turnTree target iter ifs it (emitTail elt Fc acc) (.ListComp elt [⟨target, iter, ifs, 0⟩] scope pos) 0 (.ref acc) Fc.env := rfl
theorem turn_two (elt t0 i0 target iter : Expr) (ifs0 ifs : List Expr) (scope : Scope) (pos : Pos) (Fc : Fm) (acc : Addr) (it : Value) :
    compTurn (.ListComp elt [⟨t0, i0, ifs0, 0⟩, ⟨target, iter, ifs, 0⟩] scope pos) 0 it (.ref acc) Fc.env = turnTree t0 i0 ifs0 it (nestTail elt t0 i0 ifs0 target iter ifs scope pos Fc acc) (.ListComp elt [⟨t0, i0, ifs0, 0⟩, ⟨target, iter, ifs, 0⟩] scope pos) 0 (.ref acc) Fc.env := by
  unfold compTurn turnTree testsOf
  simp only [List.getElem?_cons_zero, List.getElem?_cons_succ, Nat.zero_add]
  refine congrArg (Sem.bind (standAt i0.pos)) (funext fun _ => congrArg (Sem.bind (pyNext it)) (funext fun r => ?_))
  cases r with
  | none => rfl
  | some v =>
    refine congrArg (Sem.bind (letOwnedTupleGo t0 it v)) (funext fun _ => congrArg (Sem.bind (assign t0 Fc.env v)) (funext fun _ => congrArg (Sem.bind _) (funext fun ok => ?_)))
    unfold nestTail
    simp only [bind_assoc, pure_bind, bne_self_eq_false, Bool.false_eq_true, if_false]
end
end Mine
end
section
open PySem PySem.W PySem.Calls PyProof.Rows
set_option linter.unusedVariables false
namespace Mine
def LA (g : G) (H : AH) (a : Addr) (xs : List V) : Prop := H a = some (.list xs) ∨ ∃ vs ep, g.B.get? a = some (lstObj vs ep) ∧ VRs g.B xs vs
theorem LA.at {g : G} {F : Fm} {m : Loc} {H : AH} {s : Shared} {a : Addr} {xs : List V} (S : St g F m H s) (x : LA g H a xs) : ∃ vs ep, s.heap.get? a = some (lstObj vs ep) ∧ VRs s.heap xs vs := by
  rcases x with x | ⟨vs, ep, e, r⟩
  · exact (S.obj a _ x).2
  · exact ⟨vs, ep, S.base _ _ e, r.mono fun b o _ q => S.base b o q⟩
def Kp (g : G) (f : Value) : Prop := ∀ h, g.K.In h → ∃ k, (k = Keeper.frame ∨ k = Keeper.machine ∨ k = Keeper.boundFrame) ∧ Looks (model g.prog g.w) h (keeperOf f) k
theorem Kp.own {g : G} {f : Value} (h : keepIn g.K f = true) : Kp g f := keeps_K h
theorem Kp.blt {g : G} (id : String) : Kp g (.builtin id) := fun _ _ => ⟨.machine, .inr (.inl rfl), .now⟩
theorem Kp.type {g : G} (id : String) : Kp g (.type id) := fun _ _ => ⟨.machine, .inr (.inl rfl), .now⟩
section
variable {g : G} {F : Fm} {m : Loc} {H : AH} {X : Value → List V → Loc → AH → Prop} {Q : V → Loc → AH → Prop}
theorem evalArgs_all {M : Model} {A : Around} {E : Value → Shared → Prop} {s : Shared} {f : Value} {args : List (Bool × Sem Value)} {Q : Args → Shared → Prop} (hp : args.any (·.1) = false)
    (h : wpAny M A (spliced args) (fun vs s' => Q ⟨vs, []⟩ s') E s) : wpAny M A (evalArgs f true args []) Q E s := by
  cases args with
  | nil =>
    unfold evalArgs
    show wpAny M A (spliced [] >>= _) Q E s
    refine wpAny_bind (wpAny_mono h (fun vs s' h' => ?_) fun _ _ x => x)
    refine wpAny_bind (wpAny_pure ?_)
    refine wpAny_holding ?_
    exact wpAny_bind (wpAny_pure (wpAny_bind (wpAny_pure (wpAny_pure h'))))
  | cons x r =>
    obtain ⟨b, x⟩ := x
    cases b
    · exact evalArgs_plain h
    · simp at hp
abbrev CW (g : G) (F : Fm) (f : Value) (first : List V) (pos : Pos) (args : List Expr) (m : Loc) (H : AH) (Q : V → Loc → AH → Prop) (X : Value → List V → Loc → AH → Prop) : Prop :=
  WN g F VR first (fun fv => callWith pos f fv (backTo pos (starEach args F.env)) []) m H Q X
abbrev WC (g : G) (F : Fm) (f : Value) (xs : List V) (m : Loc) (H : AH) (Q : V → Loc → AH → Prop) (X : Value → List V → Loc → AH → Prop) : Prop := WN g F VR xs (fun vs => call f vs) m H Q X
abbrev kCall (g : G) (F : Fm) (f : Value) (first : List V) (Q : V → Loc → AH → Prop) (X : Value → List V → Loc → AH → Prop) : List V → Loc → AH → Prop := fun xs m H => WC g F f (first ++ xs) m H Q X
abbrev kFn (g : G) (F : Fm) (pos : Pos) (args : List Expr) (Q : V → Loc → AH → Prop) (X : Value → List V → Loc → AH → Prop) : V → Loc → AH → Prop := fun a m H => ∃ f, a = .cst f ∧ CW g F f [] pos args m H Q X
theorem cw_plain {f : Value} {first : List V} {pos : Pos} {args : List Expr} (hk : Kp g f) (h : WL g F (spliced (backTo pos (starEach args F.env))) m H (kCall g F f first Q X) X)
    (hp : (backTo pos (starEach args F.env)).any (·.1) = false := by rfl) : CW g F f first pos args m H Q X := fun s fv S r => by
  refine callWith_of (P := g.K.In) (by rw [hp]; rfl) hk (evalArgs_all hp (h.run S (fun vs s₁ xs m₁ H₁ r₁ S₁ k₁ h₁ => ⟨g.kin.keeps S₁.base, ?_⟩) fun _ _ x => x))
  exact wpAny_mono (h₁ s₁ _ S₁ ((r.keep S k₁).append r₁)) (fun _ _ x => x.after k₁) fun _ _ x => x.after k₁
def Items (g : G) (a : V) (H : AH) (xs : List V) : Prop := xs.length ≤ sizeLine ∧ (a = .tup xs ∨ ∃ l, a = .ref l ∧ LA g H l xs)
theorem Items.star {a : V} {xs : List V} {s : Shared} {v : Value} {Q : List Value → Shared → Prop} {E : Value → Shared → Prop} (x : Items g a H xs) (S : St g F m H s) (r : VR s.heap a v)
    (h : ∀ vs h', (∀ b o, s.heap.get? b = some o → h'.get? b = some o) → VRs h' xs vs → Q vs { s with heap := h' }) : StarOf (model g.prog g.w) F.A E v Q s := by
  obtain ⟨hz, x⟩ := x
  have : ∃ t vs ep T, (T = "list" ∨ T = "tuple") ∧ v = .ref t ∧ s.heap.get? t = some { cls := .type T, data := .seq vs.toArray ep } ∧ VRs s.heap xs vs := by
    rcases x with rfl | ⟨l, rfl, x⟩
    · rw [VR.tup_iff] at r; obtain ⟨t, vs, ep, rfl, e, r⟩ := r; exact ⟨t, vs, ep, "tuple", .inr rfl, rfl, e, r⟩
    · rw [VR.ref_iff] at r; subst r; obtain ⟨vs, ep, e, r⟩ := x.at S; exact ⟨l, vs, ep, "list", .inl rfl, rfl, e, r⟩
  obtain ⟨t, vs, ep, T, hT, rfl, e, rs⟩ := this
  have hT' : s.TypeIs (.ref t) T := ⟨_, e, rfl⟩
  have z : wpAny (model g.prog g.w) F.A (collect (.ref t)) Q E s := by
    refine wpAny_collect_seq t hT e rfl rfl (fun h' hk => ?_) (by rw [List.size_toArray, rs.length]; exact hz)
    rw [List.toList_toArray]
    exact h vs h' hk (rs.mono fun _ _ _ q => hk _ _ q)
  unfold StarOf notIterableAtAll
  rcases hT with rfl | rfl
  · exact wpAny_bind (wpAny_specialOf hT' PySem.F.slot_list_iter.lookup (wpAny_pure ⟨rfl, z⟩))
  · exact wpAny_bind (wpAny_specialOf hT' PySem.F.slot_tuple_iter.lookup (wpAny_pure ⟨rfl, z⟩))
theorem cw_star {f : Value} {first : List V} {pos p : Pos} {e : Expr} (hk : Kp g f) (h : WE g F (eval e F.env) m H (fun a m H => ∃ xs, Items g a H xs ∧ WC g F f (first ++ xs) m H Q X) X) :
    CW g F f first pos [.Starred e p] m H Q X := fun s fv S r => by
  refine ks_call (P := g.K.In) rfl hk (ks_lone (h.run S (fun v s₁ a m₁ H₁ r₁ S₁ k₁ ⟨xs, hi, h₁⟩ => hi.star S₁ r₁ fun vs h' kp rv => ?_) fun _ _ x => x))
  obtain ⟨S₂, k₂⟩ := S₁.ext (t := s₁.toks) kp
  have k := k₁.trans k₂
  exact ⟨g.kin.keeps S₂.base, wpAny_mono (h₁ _ _ S₂ ((r.mono (k.mono S).tup).append rv)) (fun _ _ x => x.after k) fun _ _ x => x.after k⟩
theorem e_call {fn : Expr} {args : List Expr} {pos : Pos} (h : WE g F (eval fn F.env) m H (kFn g F pos args Q X) X)
    (he : eval (.Call fn args [] pos) F.env = (eval fn F.env >>= fun f => callWith pos f [] (backTo pos (starEach args F.env)) []) := by rfl) : WE g F (eval (.Call fn args [] pos) F.env) m H Q X := fun s S => by
  rw [he]
  refine wpAny_bind (h.run S (fun v s₁ a m₁ H₁ r₁ S₁ k₁ ⟨f, e, h₁⟩ => ?_) fun _ _ x => x)
  subst e
  rw [VR.cst_iff] at r₁
  subst r₁
  exact wpAny_mono (h₁ s₁ [] S₁ .nil') (fun _ _ x => x.after k₁) fun _ _ x => x.after k₁
def Meth (g : G) (a : V) (name : Str) (H : AH) (f : Value) : Prop :=
  ∀ (F : Fm) m s v pl (Q : Value × List Value → Shared → Prop) (E : Value → Shared → Prop), St g F m H s → VR s.heap a v → Q (f, [v]) s → wpAny (model g.prog g.w) F.A (getMethod v name pl) Q E s
abbrev kMeth (g : G) (F : Fm) (name : Str) (pos : Pos) (args : List Expr) (Q : V → Loc → AH → Prop) (X : Value → List V → Loc → AH → Prop) : V → Loc → AH → Prop := fun a m H => ∃ f, Meth g a name H f ∧ CW g F f [a] pos args m H Q X
theorem e_meth {o : Expr} {name : Str} {apos pos : Pos} {args : List Expr} (h : WE g F (eval o F.env) m H (kMeth g F name pos args Q X) X)
    (hbase : attributeBase o name F.env (eval o F.env) = eval o F.env := by rfl)
    (hform : methodCallForm (args.length + ([] : List Keyword).length) (backTo pos (starEach args F.env)) (backToKw pos (keywordEach [] F.env)) = true := by rfl)
    (hline : (apos.endLine == pos.line) = true := by rfl) : WE g F (eval (.Call (.Attribute o name apos) args [] pos) F.env) m H Q X := fun s S => by
  rw [arm_eval_Call, hbase]
  refine wpAny_bind (h.run S (fun v s₁ a m₁ H₁ r₁ S₁ k₁ ⟨f, hm, h₁⟩ => ?_) fun _ _ x => x)
  refine wpAny_bind (wpAny_standAt ?_)
  have hpos : methodCallPos true o F.env apos pos = pure pos := by unfold methodCallPos; simp [hline]
  unfold methodCall
  rw [hform]
  refine wpAny_bind (wpAny_holding (hm F m₁ s₁ v _ _ _ S₁ r₁ ?_))
  exact wpAny_bind (wpAny_of_eq hpos (wpAny_mono (h₁ s₁ [v] S₁ (.cons r₁ .nil')) (fun _ _ x => x.after k₁) fun _ _ x => x.after k₁))
theorem meth_list {l : Addr} {xs : List V} {name : Str} {id : String} (x : LA g H l xs) (slot : Slot "list" name id) (hty : typeOf (.builtin id) = pure (.type "method_descriptor")) : Meth g (.ref l) name H (.builtin id) := fun F m s v pl Q E S r h => by
  rw [VR.ref_iff] at r; subst r
  obtain ⟨vs, ep, e, _⟩ := x.at S
  exact getMethod_builtin (T := "list") ⟨_, e, rfl⟩ PySem.F.plainAttrs_list slot hty (fun a q => by cases q; exact ⟨_, e, rfl⟩) h
theorem meth_dict {l : Addr} {es : List (Int × V)} {ep : Nat} {name : Str} {id : String} (x : H l = some (.dict es ep)) (slot : Slot "dict" name id) (hty : typeOf (.builtin id) = pure (.type "method_descriptor")) : Meth g (.ref l) name H (.builtin id) := fun F m s v pl Q E S r h => by
  rw [VR.ref_iff] at r; subst r
  obtain ⟨kvs, ⟨o, es, e, hc, _⟩, _⟩ := (S.obj l _ x).2
  exact getMethod_builtin (T := "dict") ⟨_, e, hc.1⟩ PySem.F.plainAttrs_dict slot hty (fun a q => by cases q; exact ⟨_, e, hc.2.1⟩) h
theorem meth_set {l : Addr} {T : Int → Bool} {n : Nat} (x : H l = some (.set T n)) (hb : n < scanBound) : Meth g (.ref l) "add" H (.builtin "set.add") := fun F m s v pl Q E S r h => by
  rw [VR.ref_iff] at r; subst r
  obtain ⟨o, e, hs⟩ := (S.obj l _ x).2
  exact getMethod_set_add (hs.setOf e hb) h
def named (fs : List (Str × V)) (x : Str) : Bool := fs.any fun f => f.1 == x
end
end Mine
end
section
open PySem PySem.W PySem.Calls PyProof.Rows
set_option linter.unusedVariables false
namespace Mine
section
variable {g : G} {F : Fm} {m : Loc} {H : AH} {X : Value → List V → Loc → AH → Prop}
abbrev kU (Q : Loc → AH → Prop) : Unit → Loc → AH → Prop := fun (_ : Unit) m H => Q m H
abbrev kGetA (g : G) (F : Fm) (attr : Str) (Q : V → Loc → AH → Prop) (X : Value → List V → Loc → AH → Prop) : V → Loc → AH → Prop := fun a m H => W1 g F VR a (fun v => getAttr v attr true) m H Q X
abbrev kSetA (g : G) (F : Fm) (x : V) (attr : Str) (Q : Loc → AH → Prop) (X : Value → List V → Loc → AH → Prop) : V → Loc → AH → Prop := fun a m H => W2 g F EqR a x (fun ov v => setAttr ov attr v) m H (kU Q) X
abbrev kAug1 (g : G) (F : Fm) (a : V) (attr : Str) (Q : Fl → Loc → AH → Prop) (X : Value → List V → Loc → AH → Prop) : V → Loc → AH → Prop := fun c m H => W2 g F EqR a c (fun ov v => setAttr ov attr v) m H (kU (kN Q)) X
abbrev kAug2 (g : G) (F : Fm) (a : V) (attr : Str) (op : Operator) (e : Expr) (Q : Fl → Loc → AH → Prop) (X : Value → List V → Loc → AH → Prop) : V → Loc → AH → Prop := fun old m H => WE g F (eval e F.env) m H (k2 g F VR (inplaceOp op) old (kAug1 g F a attr Q X) X) X
abbrev kAug3 (g : G) (F : Fm) (attr : Str) (op : Operator) (e : Expr) (Q : Fl → Loc → AH → Prop) (X : Value → List V → Loc → AH → Prop) : V → Loc → AH → Prop := fun a m H => W1 g F VR a (fun v => getAttr v attr true) m H (kAug2 g F a attr op e Q X) X
theorem e_attr {o : Expr} {attr : Str} {pos : Pos} {Q : V → Loc → AH → Prop} (h : WE g F (eval o F.env) m H (kGetA g F attr Q X) X)
    (hbase : attributeBase o attr F.env (eval o F.env) = eval o F.env := by rfl) : WE g F (eval (.Attribute o attr pos) F.env) m H Q X := fun s S => by
  rw [arm_eval_Attribute, hbase]
  refine wpAny_bind (h.run S (fun v s₁ a m₁ H₁ r₁ S₁ k₁ h₁ => wpAny_bind (wpAny_standAt (wpAny_bind (wpAny_holding ?_)))) fun _ _ x => x)
  refine wpAny_mono (h₁ s₁ v S₁ r₁) (fun r s₂ x => wpAny_bind (wpAny_letTemporaryGo (wpAny_pure (x.after k₁)))) fun _ _ x => x.after k₁
theorem a_attr {o : Expr} {attr : Str} {pos : Pos} {x : V} {Q : Loc → AH → Prop} (h : WE g F (eval o F.env) m H (kSetA g F x attr Q X) X) : WA g F (.Attribute o attr pos) x m H Q X := fun s v S r => by
  show wpAny _ _ (assign (.Attribute o attr pos) F.env v) _ _ s
  rw [assign_Attribute]
  refine wpAny_bind (wpAny_holding (h.run S (fun ov s₁ a m₁ H₁ r₁ S₁ k₁ h₁ => wpAny_bind (wpAny_standAt (wpAny_bind (wpAny_holding ?_)))) fun _ _ x => x))
  exact wpAny_mono (h₁ s₁ ov v S₁ r₁ (r.keep S k₁)) (fun _ s₂ x => wpAny_release (x.after k₁)) fun _ _ x => x.after k₁
theorem s_augattr {o e : Expr} {attr : Str} {tpos pos : Pos} {op : Operator} {Q : Fl → Loc → AH → Prop}
    (h : WE g F (eval o F.env) m H (kAug3 g F attr op e Q X) X) :
    WS g F (exec (.AugAssign (.Attribute o attr tpos) op e pos) F.env) m H Q X := fun s S => by
  refine wpAny_AugAssign_AttributeAny (h.run S (fun ov s₁ a m₁ H₁ r₁ S₁ k₁ h₁ => ?_) fun _ _ x => x)
  refine wpAny_mono (h₁ s₁ ov S₁ r₁) (fun old s₂ yy => yy.elim fun o' m₂ H₂ r₂ S₂ k₂ h₂ => ?_) fun _ _ x => x.after k₁
  have K₂ := k₁.trans k₂
  refine h₂.run S₂ (fun b s₃ b' m₃ H₃ r₃ S₃ k₃ h₃ => ?_) fun _ _ x => x.after K₂
  have K₃ := K₂.trans k₃
  refine wpAny_mono (h₃ s₃ _ _ S₃ (r₂.keep S₂ k₃) r₃) (fun c s₄ yy => yy.elim fun c' m₄ H₄ r₄ S₄ k₄ h₄ => ?_) fun _ _ x => x.after K₃
  have K₄ := K₃.trans k₄
  exact wpAny_mono (h₄ s₄ _ _ S₄ (((r₁.keep S₁ k₂).keep S₂ k₃).keep S₃ k₄) r₄) (fun _ s₅ yy => yy.elim fun _ m₅ H₅ _ S₅ k₅ h₅ => ⟨.next, m₅, H₅, rfl, S₅, K₄.trans k₅, h₅⟩) fun _ _ x => x.after K₄
def GI (g : G) (F : Fm) (a i : V) (m : Loc) (H : AH) (Q : V → Loc → AH → Prop) (X : Value → List V → Loc → AH → Prop) : Prop :=
  ∃ T id, typeLookup (.type T) "__getitem__" = pure (some (.builtin id)) ∧ (∀ s v, St g F m H s → VR s.heap a v → s.TypeIs v T) ∧ W2 g F VR a i getItem m H Q X
abbrev kGI (g : G) (F : Fm) (a : V) (Q : V → Loc → AH → Prop) (X : Value → List V → Loc → AH → Prop) : V → Loc → AH → Prop := fun b m H => GI g F a b m H Q X
abbrev kSub (g : G) (F : Fm) (i : Expr) (Q : V → Loc → AH → Prop) (X : Value → List V → Loc → AH → Prop) : V → Loc → AH → Prop := fun a m H => WE g F (eval i F.env) m H (kGI g F a Q X) X
abbrev kSI (g : G) (F : Fm) (x a : V) (Q : Loc → AH → Prop) (X : Value → List V → Loc → AH → Prop) : V → Loc → AH → Prop := fun b m H => W3 g F EqR a b x (fun ov iv v => setItem ov iv v) m H (kU Q) X
abbrev kASub (g : G) (F : Fm) (i : Expr) (x : V) (Q : Loc → AH → Prop) (X : Value → List V → Loc → AH → Prop) : V → Loc → AH → Prop := fun a m H => WE g F (eval i F.env) m H (kSI g F x a Q X) X
theorem e_sub {o i : Expr} {pos : Pos} {Q : V → Loc → AH → Prop} (h : WE g F (eval o F.env) m H (kSub g F i Q X) X)
    (hi : ∀ ov iv, subscripted i false ov iv = operate [ov, iv] (getItem ov iv) ∨ subscripted i false ov iv = operate [iv, ov] (getItem ov iv) := by intros; first | exact Or.inl rfl | exact Or.inr rfl) : WE g F (eval (.Subscript o i pos) F.env) m H Q X := fun s S => by
  rw [eval_Subscript]
  refine wpAny_bind (h.run S (fun ov s₁ a m₁ H₁ r₁ S₁ k₁ h₁ => wpAny_bind (wpAny_holding (h₁.run S₁ (fun iv s₂ b m₂ H₂ r₂ S₂ k₂ h₂ => wpAny_bind (wpAny_standAt ?_)) fun _ _ x => x.after k₁))) fun _ _ x => x)
  obtain ⟨T, id, hl, hT, hg⟩ := h₂
  have ra := r₁.keep S₁ k₂
  have hT' := hT s₂ ov S₂ ra
  refine wpAny_bind ?_
  rw [getitemInPython_of_ne hT'.not_modules]
  refine wpAny_bind (wpAny_specialOf hT' hl ?_)
  have k := k₁.trans k₂
  have fin : wpAny (model g.prog g.w) F.A (getItem ov iv) (fun r s₃ => wpAny (model g.prog g.w) F.A (letTemporaryGo o ov r >>= fun _ => pure r) (OkP g F VR Q s.heap H) (ErP g F X s.heap H) s₃) (ErP g F X s.heap H) s₂ :=
    wpAny_mono (hg s₂ ov iv S₂ ra r₂) (fun r s₃ x => wpAny_bind (wpAny_letTemporaryGo (wpAny_pure (x.after k)))) fun _ _ x => x.after k
  refine wpAny_pure (wpAny_bind ?_)
  rcases hi ov iv with e | e <;> rw [e] <;> exact wpAny_operating fin
theorem a_sub {o i : Expr} {pos : Pos} {x : V} {Q : Loc → AH → Prop} (h : WE g F (eval o F.env) m H (kASub g F i x Q X) X) : WA g F (.Subscript o i pos) x m H Q X := fun s v S r => by
  show wpAny _ _ (assign (.Subscript o i pos) F.env v) _ _ s
  rw [assign_Subscript]
  refine wpAny_bind (wpAny_holding (h.run S (fun ov s₁ a m₁ H₁ r₁ S₁ k₁ h₁ => wpAny_bind (wpAny_holding (h₁.run S₁ (fun iv s₂ b m₂ H₂ r₂ S₂ k₂ h₂ => wpAny_bind (wpAny_standAt (wpAny_bind (wpAny_holding ?_)))) fun _ _ x => x.after k₁))) fun _ _ x => x))
  have k := k₁.trans k₂
  exact wpAny_mono (h₂ s₂ ov iv v S₂ (r₁.keep S₁ k₂) r₂ (r.keep S k)) (fun _ s₃ x => wpAny_release (x.after k)) fun _ _ x => x.after k
theorem s_augsub {o i e : Expr} {tpos pos : Pos} {op : Operator} {Q : Fl → Loc → AH → Prop}
    (h : WE g F (eval o F.env) m H (fun a m H => WE g F (eval i F.env) m H (fun b m H => W2 g F VR a b getItem m H (fun old m H => WE g F (eval e F.env) m H (fun c m H => W2 g F VR old c (inplaceOp op) m H (fun d m H => W3 g F EqR a b d (fun ov iv v => setItem ov iv v) m H (fun (_ : Unit) m H => Q .next m H) X) X) X) X) X) X)
    (hi : ∀ ov iv new, augStore i ov iv new = (do holding [new, ov, iv] (setItem ov iv new); release [new, ov, iv] []; pure .next) := by intros; rfl) :
    WS g F (exec (.AugAssign (.Subscript o i tpos) op e pos) F.env) m H Q X := fun s S => by
  refine wpAny_AugAssign_SubscriptAny (h.run S (fun ov s₁ a m₁ H₁ r₁ S₁ k₁ h₁ => ?_) fun _ _ x => x) hi
  refine h₁.run S₁ (fun iv s₂ b m₂ H₂ r₂ S₂ k₂ h₂ => ?_) fun _ _ x => x.after k₁
  have K₂ := k₁.trans k₂
  have ra₂ := r₁.keep S₁ k₂
  refine wpAny_mono (h₂ s₂ ov iv S₂ ra₂ r₂) (fun old s₃ yy => yy.elim fun o' m₃ H₃ r₃ S₃ k₃ h₃ => ?_) fun _ _ x => x.after K₂
  have K₃ := K₂.trans k₃
  refine h₃.run S₃ (fun c s₄ c' m₄ H₄ r₄ S₄ k₄ h₄ => ?_) fun _ _ x => x.after K₃
  have K₄ := K₃.trans k₄
  refine wpAny_mono (h₄ s₄ _ _ S₄ (r₃.keep S₃ k₄) r₄) (fun d s₅ yy => yy.elim fun d' m₅ H₅ r₅ S₅ k₅ h₅ => ?_) fun _ _ x => x.after K₄
  have K₅ := K₄.trans k₅
  exact wpAny_mono (h₅ s₅ _ _ _ S₅ (((ra₂.keep S₂ k₃).keep S₃ k₄).keep S₄ k₅) (((r₂.keep S₂ k₃).keep S₃ k₄).keep S₄ k₅) r₅) (fun _ s₆ yy => yy.elim fun _ m₆ H₆ _ S₆ k₆ h₆ => ⟨.next, m₆, H₆, rfl, S₆, K₅.trans k₆, h₆⟩) fun _ _ x => x.after K₅
theorem s_delsub {o i : Expr} {pos pos' : Pos} {Q : Fl → Loc → AH → Prop} (h : WE g F (eval o F.env) m H (fun a m H => WE g F (eval i F.env) m H (fun b m H => W2 g F EqR a b (fun ov iv => delItem ov iv) m H (fun (_ : Unit) m H => Q .next m H) X) X) X) :
    WS g F (exec (.Delete [.Subscript o i pos'] pos) F.env) m H Q X := fun s S => by
  refine wpAny_Delete (wpAny_deleteEach_cons (wpAny_delete_Subscript (h.run S (fun ov s₁ a m₁ H₁ r₁ S₁ k₁ h₁ => h₁.run S₁ (fun iv s₂ b m₂ H₂ r₂ S₂ k₂ h₂ => ?_) fun _ _ x => x.after k₁) fun _ _ x => x)))
  have k := k₁.trans k₂
  exact wpAny_mono (h₂ s₂ ov iv S₂ (r₁.keep S₁ k₂) r₂) (fun _ s₃ yy => yy.elim fun _ m₃ H₃ _ S₃ k₃ h₃ => wpAny_deleteEach_nil ⟨.next, m₃, H₃, rfl, S₃, k.trans k₃, h₃⟩) fun _ _ x => x.after k
theorem s_expr {e : Expr} {pos : Pos} {Q : Fl → Loc → AH → Prop} (h : WE g F (eval e F.env) m H (kX Q) X) (hs : swapsWith e none pos.line F.env = pure false := by rfl) : WS g F (exec (.Expr e pos) F.env) m H Q X := fun s S => by
  have hi : interactive F.env = false := by unfold interactive; rw [S.loc.kind]; rfl
  exact wpAny_Expr_any (h.run S (fun v s₁ a m₁ H₁ r₁ S₁ k₁ h₁ => ⟨.next, m₁, H₁, rfl, S₁, k₁, h₁⟩) fun _ _ x => x) hi hs
def WIn (g : G) (F : Fm) : List Expr → List V → Loc → AH → (Loc → AH → Prop) → (Value → List V → Loc → AH → Prop) → Prop
  | [], _, m, H, Q, _ => Q m H
  | t :: ts, x :: xs, m, H, Q, X => WA g F t x m H (fun m H => WIn g F ts xs m H Q X) X
  | _ :: _, [], _, _, _, _ => False
theorem win_run {h₀ : Heap} {H₀ : AH} {Q : Loc → AH → Prop} : ∀ {ts : List Expr} {xs : List V} {vs : List Value} {m : Loc} {H : AH} {s : Shared} {fs : List (Value → Sem Unit)}, fs = ts.map (fun t v => assign t F.env v) → WIn g F ts xs m H Q X → St g F m H s → Keep F h₀ H₀ s.heap H → VRs s.heap xs vs →
    wpAny (model g.prog g.w) F.A (assignInOrder fs vs) (fun _ s' => ∃ m' H', St g F m' H' s' ∧ Keep F h₀ H₀ s'.heap H' ∧ Q m' H') (ErP g F X h₀ H₀) s
  | [], xs, vs, m, H, s, _, e, h, S, K, r => by subst e; exact wpAny_pure ⟨m, H, S, K, h⟩
  | t :: ts, [], vs, m, H, s, _, e, h, S, K, r => h.elim
  | t :: ts, x :: xs, vs, m, H, s, _, e, h, S, K, r => by
    subst e
    obtain ⟨v, r', rfl, rv, rs⟩ := r.uncons
    refine wpAny_bind (wpAny_holding (wpAny_mono (h s v S rv) (fun _ s₁ yy => yy.elim fun _ m₁ H₁ _ S₁ k₁ h₁ => ?_) fun _ _ x => x.after K))
    exact win_run rfl h₁ S₁ (K.trans k₁) (rs.keep S k₁)
theorem a_tuple {elts : List Expr} {k : Nat} {pos : Pos} {xs : List V} {Q : Loc → AH → Prop} (hh : F.A.handled = none) (hn : elts.length = xs.length) (h : WIn g F elts xs m H Q X)
    (he : assignEach elts F.env = elts.map (fun t => (false, fun v => assign t F.env v)) := by rfl) : WA g F (.Tuple elts k pos) (.tup xs) m H Q X := fun s v S r => by
  rw [VR.tup_iff] at r
  obtain ⟨t, vs, ep, rfl, e, r⟩ := r
  refine assign_Tuple_tuple hh (items := vs.toArray) ⟨_, e, rfl, ep, rfl⟩ (by rw [he, List.length_map, List.size_toArray, r.length, hn]) (by rw [he]; induction elts <;> simp_all [List.findIdx?_cons]) fun h' hx => ?_
  have kp : ∀ b o, s.heap.get? b = some o → h'.get? b = some o := fun b o q => hx b o (Nat.ne_of_lt (Heap.lt_size q)) q
  obtain ⟨S₁, k₁⟩ := S.ext (t := s.toks) kp
  rw [List.toList_toArray]
  refine wpAny_mono (win_run (ts := elts) (by rw [he, List.map_map]; rfl) h S₁ k₁ (r.mono fun _ _ _ q => kp _ _ q)) (fun _ s' ⟨m', H', S', K', q⟩ => ⟨(), m', H', rfl, S', K', q⟩) fun _ _ x => x
end
end Mine
end
section
open PySem PySem.W PySem.Calls PyProof.Rows Builtin.Getset_descriptor
set_option linter.unusedVariables false
namespace Mine
theorem isStr_str (x y : Str) (t : Tok) : (Value.str x t).isStr y = (x == y) := rfl
theorem nsR_look {h : Heap} {name : Str} {x : V} : ∀ {fs : List (Str × V)} {es : List DictEntry}, NsR h fs es → fs.lookup name = some x → ∃ v, getL name es = some (some v) ∧ VR h x v
  | [], _, _, e => by cases e
  | f :: fs, es, ⟨hs, t, v, r, e, hv, hr⟩, hl => by
    subst e
    unfold getL
    rw [List.find?_cons]
    rw [List.lookup_cons] at hl
    by_cases q : f.1 = name
    · subst q
      rw [show (f.1 == f.1) = true from beq_self_eq_true _] at hl
      cases hl
      refine ⟨v, ?_, hv⟩
      rw [isStr_str, beq_self_eq_true]
    · have q1 : (name == f.1) = false := beq_eq_false_iff_ne.mpr (Ne.symm q)
      have q2 : (f.1 == name) = false := beq_eq_false_iff_ne.mpr q
      rw [q1] at hl
      obtain ⟨v', g1, g2⟩ := nsR_look hr hl
      refine ⟨v', ?_, g2⟩
      rw [isStr_str, q2]
      unfold getL at g1
      cases z : List.find? (fun x => x.key.isStr name) r with
      | some e' => rw [z] at g1; exact g1
      | none => rw [z] at g1; dsimp only at g1; split at g1 <;> cases g1
theorem nsR_ref {h : Heap} : ∀ {fs : List (Str × V)} {es : List DictEntry}, NsR h fs es → es.any (·.refKey) = false
  | [], _, e => by subst e; rfl
  | f :: fs, es, ⟨hs, t, v, r, e, hv, hr⟩ => by subst e; rw [List.any_cons, nsR_ref hr]; rfl
theorem nsR_miss {h : Heap} {name : Str} {fs : List (Str × V)} {es : List DictEntry} (x : NsR h fs es) (hl : fs.lookup name = none) : getL name es = some none := by
  have : es.find? (·.key.isStr name) = none := by
    induction fs generalizing es with
    | nil => cases x; rfl
    | cons f fs ih =>
      obtain ⟨hs, t, v, r, e, hv, hr⟩ := x
      subst e
      rw [List.lookup_cons] at hl
      by_cases q : name = f.1
      · subst q; rw [beq_self_eq_true] at hl; cases hl
      · rw [beq_eq_false_iff_ne.mpr q] at hl
        rw [List.find?_cons, isStr_str, beq_eq_false_iff_ne.mpr (Ne.symm q)]
        exact ih hr hl
  unfold getL
  rw [this, nsR_ref x]
  rfl
def putF (name : Str) (x : V) : List (Str × V) → List (Str × V)
  | [] => [(name, x)]
  | f :: r => if f.1 == name then (f.1, x) :: r else f :: putF name x r
theorem nsR_put {h : Heap} {name : Str} {x : V} {v : Value} {hsh : Int} {t : Tok} (hv : VR h x v) : ∀ {fs : List (Str × V)} {es : List DictEntry}, NsR h fs es → NsR h (putF name x fs) (putL name hsh (.str name t) v es)
  | [], _, e => by cases e; exact ⟨hsh, t, v, [], rfl, hv, rfl⟩
  | f :: fs, es, ⟨hs, t', v', r, e, hv', hr⟩ => by
    subst e
    unfold putF putL
    rw [isStr_str]
    by_cases q : (f.1 == name) = true
    · rw [if_pos q, if_pos q]; exact ⟨hs, t', v, r, rfl, hv, hr⟩
    · rw [if_neg q, if_neg q]; exact ⟨hs, t', v', _, rfl, hv', nsR_put hv hr⟩
theorem nsR_len {h : Heap} : ∀ {fs : List (Str × V)} {es : List DictEntry}, NsR h fs es → es.length = fs.length
  | [], _, e => by cases e; rfl
  | f :: fs, es, ⟨hs, t', v', r, e, hv', hr⟩ => by subst e; simp [nsR_len hr]
theorem putF_len (name : Str) (x : V) : ∀ fs : List (Str × V), (putF name x fs).length ≤ fs.length + 1
  | [] => Nat.le_refl _
  | f :: r => by unfold putF; split <;> simp; have := putF_len name x r; omega
structure AttrD (K : Frag) (C : Addr) (name : Str) : Prop where
  plain : plainGet K C name = true
  dict : hasDictIn K C = true
  attr : ∃ attr, findIn K (.ref C) name = some attr ∧ noGet K attr = true
  sets : findIn K (.ref C) "__setattr__" = some (some (.builtin "object.__setattr__"))
  over : plainOver K C = true
  taker : takerIn K C name = some none
structure AttrS (K : Frag) (C : Addr) (name : Str) (p i : Nat) : Prop where
  plain : plainGet K C name = true
  cls : (clsIn K C).isSome = true
  attr : findIn K (.ref C) name = some (some (.ref p))
  get : specialIn K (.ref p) "__get__" = some (some (.builtin "member_descriptor.__get__"))
  takes : takesIn K (.ref p) = some true
  slot : slotIn K p C = some i
  sets : findIn K (.ref C) "__setattr__" = some (some (.builtin "object.__setattr__"))
  over : plainOver K C = true
  taker : takerIn K C name = some (some (.ref p))
  typ : typeIn K (.ref p) = some (.type "member_descriptor")
  small : i < 1000
structure MethD (K : Frag) (C : Addr) (name : Str) (f : Addr) : Prop where
  plain : plainGet K C name = true
  find : findIn K (.ref C) name = some (some (.ref f))
  fn : isFn K (.ref f) = true
def handed : V → Bool
  | .cst _ => false
  | _ => true
theorem handed_in {h : Heap} {x : V} {v : Value} (e : handed x = true) (r : VR h x v) : handedIn v = true := by
  cases x with
  | cst => cases e
  | none => rw [VR.none_iff] at r; subst r; rfl
  | bool => rw [VR.bool_iff] at r; subst r; rfl
  | int => rw [VR.int_iff] at r; obtain ⟨_, rfl⟩ := r; rfl
  | str => rw [VR.str_iff] at r; obtain ⟨_, rfl⟩ := r; rfl
  | ref => rw [VR.ref_iff] at r; subst r; rfl
  | tup => rw [VR.tup_iff] at r; obtain ⟨_, _, _, rfl, _⟩ := r; rfl
  | rng => unfold VR at r; obtain ⟨_, _, _, _, rfl, _⟩ := r; rfl
  | view => unfold VR at r; obtain ⟨_, rfl, _⟩ := r; rfl
section
variable {g : G} {F : Fm} {m : Loc} {H : AH} {s : Shared} {X : Value → List V → Loc → AH → Prop}
theorem St.kin (S : St g F m H s) : g.K.In s.heap := g.kin.keeps S.base
theorem inst_at {a C dx : Addr} {fs : List (Str × V)} (S : St g F m H s) (ha : H a = some (.inst C dx)) (hd : H dx = some (.ns fs)) : ∃ es n, InstAt s.heap a (instObj C dx) C (some (dictOf es n)) ∧ s.heap.get? dx = some (dictOf es n) ∧ NsR s.heap fs es := by
  have e1 : s.heap.get? a = some (instObj C dx) := (S.obj a _ ha).2
  obtain ⟨es, n, e2, r⟩ := (S.obj dx _ hd).2
  exact ⟨es, n, ⟨e1, rfl, rfl, e2⟩, e2, r⟩
theorem x_get {a C dx : Addr} {fs : List (Str × V)} {name : Str} {x : V} {Q : V → Loc → AH → Prop} (A : AttrD g.K C name) (ha : H a = some (.inst C dx)) (hd : H dx = some (.ns fs)) (hx : fs.lookup name = some x) (hh : handed x = true) (h : Q x m H) : W1 g F VR (.ref a) (fun v => getAttr v name true) m H Q X := fun s v S r => by
  rw [VR.ref_iff] at r; subst r
  obtain ⟨es, n, I, _, hr⟩ := inst_at S ha hd
  obtain ⟨v, hv, rv⟩ := nsR_look hr hx
  obtain ⟨attr, h1, h2⟩ := A.attr
  exact get_value S.kin I (plainGet_of A.plain).1 (findObj_own A.dict h1 h2 (by rw [lookIn_dict]; exact hv)) (handed_in hh rv) (OkP.now S rfl rfl rfl rv h)
theorem meth_inst {a C dx f : Addr} {fs : List (Str × V)} {name : Str} (M : MethD g.K C name f) (ha : H a = some (.inst C dx)) (hd : H dx = some (.ns fs)) (hx : fs.lookup name = none) : Meth g (.ref a) name H (.ref f) := fun F m s v pl Q E S r h => by
  rw [VR.ref_iff] at r; subst r
  obtain ⟨es, n, I, _, hr⟩ := inst_at S ha hd
  exact method_fn S.kin I (plainGet_of M.plain).1 (plainGet_of M.plain).2 M.find (beq_iff_eq.mp M.fn) (by show (lookIn name (dictOf es n)).map _ = _; rw [lookIn_dict, nsR_miss hr hx]; rfl) h
theorem x_set {a C dx : Addr} {fs : List (Str × V)} {name : Str} {x : V} {Q : Loc → AH → Prop} (A : AttrD g.K C name) (ha : H a = some (.inst C dx)) (hd : H dx = some (.ns fs)) (hz : fs.length ≤ 900) (h : Q m (put H dx (.ns (putF name x fs)))) :
    W2 g F EqR (.ref a) x (fun ov v => setAttr ov name v) m H (fun (_ : Unit) m H => Q m H) X := fun s v u S r ru => by
  rw [VR.ref_iff] at r; subst r
  obtain ⟨es, n, I, D, hr⟩ := inst_at S ha hd
  refine set_plain S.kin I A.sets (osa_open (s := { s with toks := s.toks + 1 }) S.kin I A.over A.taker fun b => ?_)
  obtain ⟨cd, hc, hdi⟩ := any_some A.dict
  have hx := I.at_
  refine wpAny_bind (wpAny_pure (wpAny_bind (wpAny_bind (wpAny_loadPart hx (wpAny_bind ((looks_clsIn (h := s.heap) S.kin hc) _ _ _ _ (fun _ _ e => e) ?_))))))
  rw [hdi]
  refine wpAny_pure (a := some dx) (wpAny_bind (wpAny_pure (wpAny_bind ?_)))
  unfold nsSet
  refine wpAny_bind (wpAny_bind (wpAny_askSetting (wpAny_pure (wpAny_bind (wpAny_mkText (wpAny_bind (wpAny_loadPart D ?_)))))))
  have hrf : es.toArray.any (·.refKey) = false := by rw [← Array.any_toList]; exact nsR_ref hr
  dsimp only
  rw [aRefKeyMayBeTheName_at, hrf, Bool.and_false]
  have D' : (s.heap.update dx (Obj.putName name (PyData.keyHash g.w.params name) (.str name (s.toks + 1)) u)).get? dx = some (dictOf (putL name (PyData.keyHash g.w.params name) (.str name (s.toks + 1)) u es) (putN name es n)) := by
    rw [← putName_dict]
    exact Heap.get?_update_self _ D (by rw [putName_dict]; rfl)
  refine wpAny_updatePart D ?_
  have C : Chg (· = dx) s.heap (s.heap.update dx (Obj.putName name (PyData.keyHash g.w.params name) (.str name (s.toks + 1)) u)) := .sameBut ⟨Heap.size_update .., fun b q => Heap.get?_update_other _ _ (Ne.symm q)⟩ D' fun _ _ _ _ _ => ⟨_, _, rfl⟩
  have hr' : NsR (s.heap.update dx (Obj.putName name (PyData.keyHash g.w.params name) (.str name (s.toks + 1)) u)) (putF name x fs) (putL name (PyData.keyHash g.w.params name) (.str name (s.toks + 1)) u es) := by
    have mn : Mono s.heap (s.heap.update dx (Obj.putName name (PyData.keyHash g.w.params name) (.str name (s.toks + 1)) u)) := ⟨fun b o i e => C.same b o e fun q => (by subst q; rw [D] at e; cases e; have := i.cls; cases this), C.dct⟩
    exact NsR.mono mn _ _ (nsR_put ru hr)
  refine wpAny_bind (wpAny_lookBehind D' (pastItsLine_dict ?_) ?_)
  · rw [List.size_toArray, nsR_len hr', sizeLine_eq]; have := putF_len name x fs; omega
  · obtain ⟨S', K'⟩ := S.set (t := s.toks + 2) C hd (o' := .ns (putF name x fs)) ⟨_, _, D', hr'⟩
    exact wpAny_pure ⟨(), m, _, rfl, S', K', h⟩
theorem slR_get {h : Heap} : ∀ {xs : List V} {sl : List (Option Value)}, SlR h xs sl → ∀ {i : Nat} {x : V}, xs[i]? = some x → ∃ v, sl[i]? = some (some v) ∧ VR h x v
  | [], _, _, _, _, e => by simp at e
  | y :: ys, _, ⟨v, r, e', hv, hr⟩, i, x, e => by
    subst e'
    cases i with
    | zero => simp only [List.getElem?_cons_zero, Option.some.injEq] at e ⊢; subst e; exact ⟨v, rfl, hv⟩
    | succ j => simp only [List.getElem?_cons_succ] at e ⊢; exact slR_get hr e
theorem slR_len {h : Heap} : ∀ {xs : List V} {sl : List (Option Value)}, SlR h xs sl → sl.length = xs.length
  | [], _, e => by cases e; rfl
  | y :: ys, _, ⟨v, r, e', hv, hr⟩ => by subst e'; simp [slR_len hr]
theorem slR_set {h : Heap} {x : V} {v : Value} (hx : VR h x v) : ∀ {xs : List V} {sl : List (Option Value)} {i : Nat}, SlR h xs sl → SlR h (xs.set i x) (sl.set i (some v))
  | [], _, _, e => by cases e; rfl
  | y :: ys, _, i, ⟨u, r, e', hv, hr⟩ => by
    subst e'
    cases i with
    | zero => exact ⟨v, r, rfl, hx, hr⟩
    | succ j => exact ⟨u, _, rfl, hv, slR_set hx hr⟩
theorem slR_app {h : Heap} {x : V} {v : Value} (hx : VR h x v) : ∀ {xs : List V} {sl : List (Option Value)}, SlR h xs sl → SlR h (xs ++ [x]) (sl ++ [some v])
  | [], _, e => by cases e; exact ⟨v, [], rfl, hx, rfl⟩
  | y :: ys, _, ⟨u, r, e', hv, hr⟩ => by subst e'; exact ⟨u, _, rfl, hv, slR_app hx hr⟩
theorem node_at {a C : Addr} {xs : List V} (S : St g F m H s) (ha : H a = some (.node C xs)) : ∃ dx sl o, InstAt s.heap a (nodeObj C dx sl) C (some o) ∧ SlR s.heap xs sl ∧ (∃ es ep, o.data = .dict es ep) ∧ s.heap.get? dx = some o := by
  obtain ⟨dx, sl, e, hr, o, es, ep, hd, d⟩ := (S.obj a _ ha).2
  exact ⟨dx, sl, o, ⟨e, rfl, rfl, hd⟩, hr, ⟨es, ep, d⟩, hd⟩
theorem x_slot {a C : Addr} {xs : List V} {name : Str} {p i : Nat} {x : V} {Q : V → Loc → AH → Prop} (A : AttrS g.K C name p i) (ha : H a = some (.node C xs)) (hx : xs[i]? = some x) (hh : handed x = true) (h : Q x m H) : W1 g F VR (.ref a) (fun v => getAttr v name true) m H Q X := fun s v S r => by
  rw [VR.ref_iff] at r; subst r
  obtain ⟨dx, sl, o, I, hr, _, _⟩ := node_at S ha
  obtain ⟨v, hv, rv⟩ := slR_get hr hx
  refine get_bind S.kin I (plainGet_of A.plain).1 (findObj_data A.cls A.attr A.get A.takes) (plainGet_of A.plain).2 (wpAny_call (slot_get (s := { s with toks := s.toks + 1 }) S.kin I A.slot (v := v) (by simp [hv]) ?_))
  exact handed_on (handed_in hh rv) (OkP.now S rfl rfl rfl rv h)
def setS (xs : List V) (i : Nat) (x : V) : List V := if i < xs.length then xs.set i x else xs ++ [x]
theorem x_slotset {a C : Addr} {xs : List V} {name : Str} {p i : Nat} {x : V} {Q : Loc → AH → Prop} (A : AttrS g.K C name p i) (ha : H a = some (.node C xs)) (hi : i ≤ xs.length) (h : Q m (put H a (.node C (setS xs i x)))) :
    W2 g F EqR (.ref a) x (fun ov v => setAttr ov name v) m H (fun (_ : Unit) m H => Q m H) X := fun s v u S r ru => by
  rw [VR.ref_iff] at r; subst r
  obtain ⟨dx, sl, o, I, hr, ⟨esd, epd, dd⟩, hdx⟩ := node_at S ha
  refine set_plain S.kin I A.sets (osa_descr (s := { s with toks := s.toks + 1 }) KF.slot_mset S.kin I A.over A.taker A.typ ?_)
  obtain ⟨n, tn, owner, behind, tb, d, sl', cd, ho, hc, hm, hb, hie⟩ := slot_of S.kin A.slot
  have L0 := I.type (M := model g.prog g.w)
  have L1 := looks_mroIn (M := model g.prog g.w) S.kin hm
  have L2 : Looks (model g.prog g.w) s.heap (Builtin.Slots.slotNamesOf (.ref C)) cd.slotNames := (looks_clsIn S.kin hc).andThen .now
  have hx := I.at_
  have hlen := slR_len hr
  have sle : sl.length = xs.length := hlen
  have newsl : (((nodeObj C dx sl).slots ++ Array.replicate (i + 1 - (nodeObj C dx sl).slots.size) none).setIfInBounds i (some u)) = ((if i < sl.length then sl.set i (some u) else sl ++ [some u]) : List (Option Value)).toArray := by
    show ((sl.toArray ++ Array.replicate (i + 1 - sl.toArray.size) none).setIfInBounds i (some u)) = _
    split
    · rename_i q
      have e0 : i + 1 - sl.toArray.size = 0 := by simp; omega
      rw [e0]
      simp
    · have e0 : i = sl.length := by omega
      subst e0
      have e1 : sl.length + 1 - sl.toArray.size = 1 := by simp
      rw [e1]
      apply Array.toList_inj.mp
      simp
  let f : Obj → Obj := fun o => { o with slots := (o.slots ++ Array.replicate (i + 1 - o.slots.size) none).setIfInBounds i (some u) }
  have D' : (s.heap.update a f).get? a = some (nodeObj C dx (if i < sl.length then sl.set i (some u) else sl ++ [some u])) := by
    rw [Heap.get?_update_self f hx rfl]
    show some ({ nodeObj C dx sl with slots := _ } : Obj) = _
    rw [newsl]
  have Cg : Chg (· = a) s.heap (s.heap.update a f) := .sameBut ⟨Heap.size_update .., fun b q => Heap.get?_update_other _ _ (Ne.symm q)⟩ D' fun o₀ _ _ e q => by rw [hx] at e; cases e; cases q
  have mn : Mono s.heap (s.heap.update a f) := ⟨fun b o' i' e => Cg.same b o' e fun q => (by subst q; rw [hx] at e; cases e; have := i'.cls; cases this), Cg.dct⟩
  have hda : dx ≠ a := fun q => by subst q; rw [hx] at hdx; cases hdx; cases dd
  have hr' : SlR (s.heap.update a f) (setS xs i x) (if i < sl.length then sl.set i (some u) else sl ++ [some u]) := by
    unfold setS
    rw [sle]
    split
    · exact slR_set (ru.mono mn.tup) (SlR.mono mn _ _ hr)
    · exact slR_app (ru.mono mn.tup) (SlR.mono mn _ _ hr)
  obtain ⟨S', K'⟩ := S.set (t := s.toks + 1) Cg ha (o' := .node C (setS xs i x)) ⟨dx, _, D', hr', o, esd, epd, (Heap.get?_update_other _ _ (Ne.symm hda)).trans hdx, dd⟩
  have fin : OkP g F EqR (fun (_ : Unit) m H => Q m H) s.heap H () { s with heap := s.heap.update a f, toks := s.toks + 1 } := ⟨(), m, _, rfl, S', K', h⟩
  clear S' K' hr' D' Cg mn newsl
  obtain ⟨hh, gg, dr, t, os⟩ := s
  dsimp only at ho hx L0 L1 L2
  have f0 := looks_field (M := model g.prog g.w) ho 0 (v := .str n tn) rfl
  have f1 := looks_field (M := model g.prog g.w) ho 1 (v := owner) rfl
  have f3 := looks_field (M := model g.prog g.w) ho 3 (v := .builtin "proto.slot#set") rfl
  have f4 := looks_field (M := model g.prog g.w) ho 4 (v := .int behind tb) rfl
  refine codeAny_call_builtin KF.slot_mset.plain KF.entry_mset (KF.slot_mset.check _ _ _ _ _ _ _ _ ⟨_, ho, rfl⟩ (KF.args_mset _ _ _) ?_)
  unfold Builtin.«member_descriptor.__set__» descrSet descrStoreThrough descrCheckInstance descrNameAndClass isInstance
  have f5 : Looks (model g.prog g.w) hh (descrItself (.ref p)) [.ref p] := ((Looks.ld (part := none) ho).andThen .now).andThen (Looks.of_pure (by kernel_rfl))
  repeat lk
  refine ⟨Code.quiet_builtin _ (by decide +kernel), codeAny_builtin KF.entry_slotset ?_⟩
  unfold Builtin.«proto.slot#set» Builtin.Slots.target
  repeat lk
  rw [if_neg hb]
  refine wpAny_pure (wpAny_bind ?_)
  unfold setSlotAt
  dsimp only
  rw [if_neg (by rw [sizeLine_eq]; have := A.small; omega)]
  rw [← hie]
  exact wpAny_updatePart hx (wpAny_pure fin)
end
end Mine
end
section
open PySem PySem.W PySem.Calls PyProof.Rows
set_option linter.unusedVariables false
namespace Mine
section
variable {g : G} {F : Fm} {m : Loc} {H : AH} {s : Shared} {X : Value → List V → Loc → AH → Prop} {Q : V → Loc → AH → Prop}
def WCode (g : G) (F : Fm) (f : Value) (xs : List V) (m : Loc) (H : AH) (Q : V → Loc → AH → Prop) (X : Value → List V → Loc → AH → Prop) : Prop :=
  ∀ s vs, St g F m H s → VRs s.heap xs vs → codeAny (model g.prog g.w) F.A (.call f ⟨vs, []⟩) (fun r s' => match r with | .ok (.ret v) => OkP g F VR Q s.heap H v s' | .ok _ => False | .error e => ErP g F X s.heap H e s') s
theorem WCode.call {f : Value} {xs : List V} (h : WCode g F f xs m H Q X) : WC g F f xs m H Q X := fun s vs S r => wpAny_call (h s vs S r)
def Fm.up (F : Fm) (A : Around) : Fm := { F with A := A, lvl := F.lvl + 1 }
theorem St.up {c : Code} (S : St g F m H s) (hl : F.lvl < 100) (hw : c.weight ≤ 1) (hu : c.cUnits ≤ 10) (he : c.envs = []) (hg : c.guards = []) : St g (F.up (F.A.under c)) m H s := by
  refine ⟨S.base, S.obj, ⟨S.loc.kind, S.loc.val, S.loc.cell, S.loc.apart⟩, S.locm, S.mine, S.frs, S.frd, S.frame, ?_, S.gens, S.os, ?_, S.envg⟩
  · show pushEnvs c.envs F.A.frames = some F.stack
    rw [he, S.Afr]; rfl
  · obtain ⟨r1, r2, r3, r4⟩ := S.room
    refine ⟨?_, ?_, hl, ?_⟩
    · show F.A.depth + c.weight ≤ 310 + 3 * (F.lvl + 1); omega
    · show F.A.units + c.cUnits ≤ 100 + 20 * (F.lvl + 1); omega
    · show pushGuards c.guards F.A.guards = some []
      rw [hg, r4]; rfl
theorem St.down {A : Around} {m' : Loc} {H' : AH} {s' : Shared} (S : St g F m H s) (S' : St g (F.up A) m' H' s') : St g F m' H' s' :=
  ⟨S'.base, S'.obj, ⟨S'.loc.kind, S'.loc.val, S'.loc.cell, S'.loc.apart⟩, S'.locm, S'.mine, S'.frs, S'.frd, S'.frame, S.Afr, S'.gens, S'.os, S.room, S'.envg⟩
theorem tc_weight {C : Addr} {vs : List Value} : (Code.builtin "type.__call__" ⟨.ref C :: vs, []⟩).weight ≤ 1 := Nat.le_of_eq rfl
theorem tc_units {C : Addr} {vs : List Value} : (Code.builtin "type.__call__" ⟨.ref C :: vs, []⟩).cUnits ≤ 10 := by
  have : (Code.builtin "type.__call__" ⟨.ref C :: vs, []⟩).cUnits = 1 := rfl
  omega
theorem made {C fI : Addr} {xs : List V} (hm : makesIn g.K C = true) (hi : findIn g.K (.ref C) "__init__" = some (some (.ref fI))) (hf : typeIn g.K (.ref fI) = some (.type "function")) (hl : F.lvl < 100) {s : Shared} {vs : List Value} (S : St g F m H s) (r : VRs s.heap xs vs) (H₂ : AH)
    (hS : St g F m H₂ { s with heap := (s.heap.push emptyDict).push (instObj C s.heap.objs.size) } ∧ Keep F s.heap H ((s.heap.push emptyDict).push (instObj C s.heap.objs.size)) H₂)
    (h : ∀ A, A.handled = F.A.handled → WCode g (F.up A) (.ref fI) (.ref (s.heap.objs.size + 1) :: xs) m H₂ (fun r m H => r = .none ∧ Q (.ref (s.heap.objs.size + 1)) m H) X) :
    codeAny (model g.prog g.w) F.A (.call (.ref C) ⟨vs, []⟩) (fun r s' => match r with | .ok (.ret v) => OkP g F VR Q s.heap H v s' | .ok _ => False | .error e => ErP g F X s.heap H e s') s := by
  obtain ⟨S₂, K₂⟩ := hS
  obtain ⟨hh, gg, d, t, os⟩ := s
  refine make_core (makes_of S.kin hm) (looks_findIn S.kin hi) (fun self => bind_fn S.kin self hf) (.inl rfl) ?_
  have kp : ∀ b o, hh.get? b = some o → ((hh.push emptyDict).push (instObj C hh.objs.size)).get? b = some o := fun _ _ e => Heap.get?_push_of_some _ (Heap.get?_push_of_some _ e)
  refine codeAny_mono (h (F.A.under (.builtin "type.__call__" ⟨.ref C :: vs, []⟩)) rfl ⟨_, gg, d, t, os⟩ (.ref (hh.objs.size + 1) :: vs) (S₂.up hl tc_weight tc_units rfl rfl) (.cons (.ref' _) (r.mono fun _ _ _ e => kp _ _ e))) fun r s' z => ?_
  unfold InitBack
  rcases r with e | (v | _ | _ | _)
  · obtain ⟨c, as, m', H', f, S', K', q⟩ := z
    exact ⟨c, as, m', H', f.since (fun b o e => ⟨o, kp b o e⟩), S₂.down S', K₂.trans ⟨K'.alive, K'.dct, K'.same⟩, q⟩
  all_goals first
    | exact z.elim
    | (obtain ⟨b, m', H', rb, S', K', e, q⟩ := z
       subst e
       rw [VR.none_iff] at rb
       exact ⟨rb, .ref _, m', H', .ref' _, S₂.down S', K₂.trans ⟨K'.alive, K'.dct, K'.same⟩, q⟩)
theorem c_inst {C fI : Addr} {xs : List V} (hm : makesIn g.K C = true) (hi : findIn g.K (.ref C) "__init__" = some (some (.ref fI))) (hf : typeIn g.K (.ref fI) = some (.type "function")) (hl : F.lvl < 100)
    (h : ∀ A, A.handled = F.A.handled → ∀ x dx, H x = none → H dx = none → dx ≠ x → WCode g (F.up A) (.ref fI) (.ref x :: xs) m (put (put H dx (.ns [])) x (.inst C dx)) (fun r m H => r = .none ∧ Q (.ref x) m H) X) : WCode g F (.ref C) xs m H Q X := fun s vs S r => by
  have n0 := S.lt (Nat.le_refl s.heap.objs.size)
  have n1 := S.lt (Nat.le_succ s.heap.objs.size)
  have ne : s.heap.objs.size ≠ s.heap.objs.size + 1 := Nat.ne_of_lt (Nat.lt_succ_self _)
  obtain ⟨S₁, K₁⟩ := S.new (t := s.toks) (h' := s.heap.push emptyDict) (o' := .ns []) (fun _ _ e => Heap.get?_push_of_some _ e) n0.2.2 ⟨[], 0, Heap.get?_push_size _ rfl, rfl⟩
  have hsz : (s.heap.push emptyDict).objs.size = s.heap.objs.size + 1 := Heap.size_push ..
  have hN : (s.heap.push emptyDict).get? (s.heap.objs.size + 1) = none := Heap.get?_none_of_le (Nat.le_of_eq hsz)
  obtain ⟨S₂, K₂⟩ := S₁.new (t := s.toks) (h' := (s.heap.push emptyDict).push (instObj C s.heap.objs.size)) (o' := .inst C s.heap.objs.size) (fun _ _ e => Heap.get?_push_of_some _ e) hN (by rw [← hsz]; exact Heap.get?_push_size _ rfl)
  exact made hm hi hf hl S r _ ⟨S₂, K₁.trans K₂⟩ fun A hA => h A hA _ _ n1.1 n0.1 ne
theorem c_node {C fI : Addr} {xs : List V} (hm : makesIn g.K C = true) (hi : findIn g.K (.ref C) "__init__" = some (some (.ref fI))) (hf : typeIn g.K (.ref fI) = some (.type "function")) (hl : F.lvl < 100)
    (h : ∀ A, A.handled = F.A.handled → ∀ x, H x = none → WCode g (F.up A) (.ref fI) (.ref x :: xs) m (put H x (.node C [])) (fun r m H => r = .none ∧ Q (.ref x) m H) X) : WCode g F (.ref C) xs m H Q X := fun s vs S r => by
  have n0 := S.lt (Nat.le_refl s.heap.objs.size)
  have n1 := S.lt (Nat.le_succ s.heap.objs.size)
  obtain ⟨S₁, K₁⟩ := S.ext (t := s.toks) (h' := s.heap.push emptyDict) (fun _ _ e => Heap.get?_push_of_some _ e)
  have hsz : (s.heap.push emptyDict).objs.size = s.heap.objs.size + 1 := Heap.size_push ..
  have hN : (s.heap.push emptyDict).get? (s.heap.objs.size + 1) = none := Heap.get?_none_of_le (Nat.le_of_eq hsz)
  have hD : ((s.heap.push emptyDict).push (instObj C s.heap.objs.size)).get? s.heap.objs.size = some emptyDict := Heap.get?_push_of_some _ (Heap.get?_push_size _ rfl)
  obtain ⟨S₂, K₂⟩ := S₁.new (t := s.toks) (h' := (s.heap.push emptyDict).push (instObj C s.heap.objs.size)) (o' := .node C []) (fun _ _ e => Heap.get?_push_of_some _ e) hN
    ⟨s.heap.objs.size, [], by rw [← hsz]; exact Heap.get?_push_size _ rfl, rfl, _, _, _, hD, rfl⟩
  exact made hm hi hf hl S r _ ⟨S₂, K₁.trans K₂⟩ fun A hA => h A hA _ n1.1
end
end Mine
end
section
open PySem PySem.W PySem.Calls PyProof.Rows PySem.SeqAt
set_option linter.unusedVariables false
namespace Mine
mutual
def veq : V → V → Bool
  | .none, .none => true
  | .bool a, .bool b => a == b
  | .bool a, .int b => (if a then 1 else 0) == b
  | .int a, .bool b => a == (if b then 1 else 0)
  | .int a, .int b => a == b
  | .str a, .str b => a == b
  | .tup xs, .tup ys => veqs xs ys
  | _, _ => false
def veqs : List V → List V → Bool
  | [], [] => true
  | x :: xs, y :: ys => veq x y && veqs xs ys
  | _, _ => false
end
mutual
def dat : V → Bool
  | .none => true
  | .bool _ => true
  | .int _ => true
  | .str _ => true
  | .tup xs => dats xs
  | _ => false
def dats : List V → Bool
  | [] => true
  | x :: xs => dat x && dats xs
end
mutual
def dep : V → Nat
  | .tup xs => deps xs + 1
  | _ => 0
def deps : List V → Nat
  | [] => 0
  | x :: xs => max (dep x) (deps xs)
end
mutual
theorem VR.inj {h : Heap} : ∀ (x y : V) (v : Value), dat x = true → dat y = true → VR h x v → VR h y v → x = y
  | .none, y, v, _, dy, rx, ry => by
    rw [VR.none_iff] at rx; subst rx
    cases y with
    | none => rfl
    | bool b => rw [VR.bool_iff] at ry; cases ry
    | int b => rw [VR.int_iff] at ry; obtain ⟨_, ry⟩ := ry; cases ry
    | str b => rw [VR.str_iff] at ry; obtain ⟨_, ry⟩ := ry; cases ry
    | tup b => rw [VR.tup_iff] at ry; obtain ⟨_, _, _, ry, _⟩ := ry; cases ry
    | _ => unfold dat at dy; cases dy
  | .bool a, y, v, _, dy, rx, ry => by
    rw [VR.bool_iff] at rx; subst rx
    cases y with
    | none => rw [VR.none_iff] at ry; cases ry
    | bool b => rw [VR.bool_iff] at ry; cases ry; rfl
    | int b => rw [VR.int_iff] at ry; obtain ⟨_, ry⟩ := ry; cases ry
    | str b => rw [VR.str_iff] at ry; obtain ⟨_, ry⟩ := ry; cases ry
    | tup b => rw [VR.tup_iff] at ry; obtain ⟨_, _, _, ry, _⟩ := ry; cases ry
    | _ => unfold dat at dy; cases dy
  | .int a, y, v, _, dy, rx, ry => by
    rw [VR.int_iff] at rx; obtain ⟨t, rx⟩ := rx; subst rx
    cases y with
    | none => rw [VR.none_iff] at ry; cases ry
    | bool b => rw [VR.bool_iff] at ry; cases ry
    | int b => rw [VR.int_iff] at ry; obtain ⟨_, ry⟩ := ry; cases ry; rfl
    | str b => rw [VR.str_iff] at ry; obtain ⟨_, ry⟩ := ry; cases ry
    | tup b => rw [VR.tup_iff] at ry; obtain ⟨_, _, _, ry, _⟩ := ry; cases ry
    | _ => unfold dat at dy; cases dy
  | .str a, y, v, _, dy, rx, ry => by
    rw [VR.str_iff] at rx; obtain ⟨t, rx⟩ := rx; subst rx
    cases y with
    | none => rw [VR.none_iff] at ry; cases ry
    | bool b => rw [VR.bool_iff] at ry; cases ry
    | int b => rw [VR.int_iff] at ry; obtain ⟨_, ry⟩ := ry; cases ry
    | str b => rw [VR.str_iff] at ry; obtain ⟨_, ry⟩ := ry; cases ry; rfl
    | tup b => rw [VR.tup_iff] at ry; obtain ⟨_, _, _, ry, _⟩ := ry; cases ry
    | _ => unfold dat at dy; cases dy
  | .tup xs, y, v, dx, dy, rx, ry => by
    rw [VR.tup_iff] at rx; obtain ⟨l, vs, ep, rx, e, rx'⟩ := rx; subst rx
    cases y with
    | none => rw [VR.none_iff] at ry; cases ry
    | bool b => rw [VR.bool_iff] at ry; cases ry
    | int b => rw [VR.int_iff] at ry; obtain ⟨_, ry⟩ := ry; cases ry
    | str b => rw [VR.str_iff] at ry; obtain ⟨_, ry⟩ := ry; cases ry
    | tup ys =>
      rw [VR.tup_iff] at ry; obtain ⟨l', vs', ep', ry, e', ry'⟩ := ry
      cases ry
      rw [e] at e'
      have hv : vs = vs' := by
        have := congrArg (fun o : Option Obj => o.map (·.data)) e'
        simp only [Option.map_some, Option.some.injEq, Data.seq.injEq] at this
        simpa using congrArg Array.toList this.1
      subst hv
      rw [VRs.inj xs ys vs (by unfold dat at dx; exact dx) (by unfold dat at dy; exact dy) rx' ry']
    | _ => unfold dat at dy; cases dy
  | .rng _ _ _, _, _, dx, _, _, _ => by unfold dat at dx; cases dx
  | .view _ _, _, _, dx, _, _, _ => by unfold dat at dx; cases dx
  | .ref _, _, _, dx, _, _, _ => by unfold dat at dx; cases dx
  | .cst _, _, _, dx, _, _, _ => by unfold dat at dx; cases dx
theorem VRs.inj {h : Heap} : ∀ (xs ys : List V) (vs : List Value), dats xs = true → dats ys = true → VRs h xs vs → VRs h ys vs → xs = ys
  | [], ys, vs, _, _, rx, ry => by
    rw [VRs.nil_iff] at rx; subst rx
    cases ys with
    | nil => rfl
    | cons y ys => obtain ⟨_, _, q, _⟩ := ry.uncons; cases q
  | x :: xs, ys, vs, dx, dy, rx, ry => by
    obtain ⟨v, r, rfl, hx, hr⟩ := rx.uncons
    cases ys with
    | nil => rw [VRs.nil_iff] at ry; cases ry
    | cons y ys =>
      obtain ⟨v', r', q, hy, hr'⟩ := ry.uncons
      cases q
      unfold dats at dx dy
      rw [Bool.and_eq_true] at dx dy
      rw [VR.inj x y v dx.1 dy.1 hx hy, VRs.inj xs ys r dx.2 dy.2 hr hr']
end
mutual
theorem veq_refl : ∀ (x : V), dat x = true → veq x x = true
  | .none, _ => by unfold veq; rfl
  | .bool _, _ => by unfold veq; simp
  | .int _, _ => by unfold veq; simp
  | .str _, _ => by unfold veq; simp
  | .tup xs, d => by unfold veq; unfold dat at d; exact veqs_refl xs d
  | .rng _ _ _, d => by unfold dat at d; cases d
  | .view _ _, d => by unfold dat at d; cases d
  | .ref _, d => by unfold dat at d; cases d
  | .cst _, d => by unfold dat at d; cases d
theorem veqs_refl : ∀ (xs : List V), dats xs = true → veqs xs xs = true
  | [], _ => by unfold veqs; rfl
  | x :: xs, d => by unfold veqs; unfold dats at d; rw [Bool.and_eq_true] at d; rw [veq_refl x d.1, veqs_refl xs d.2]; rfl
end
theorem veqs_len : ∀ {xs ys : List V}, veqs xs ys = true → xs.length = ys.length
  | [], [], _ => rfl
  | [], _ :: _, e => by unfold veqs at e; cases e
  | _ :: _, [], e => by unfold veqs at e; cases e
  | x :: xs, y :: ys, e => by unfold veqs at e; rw [Bool.and_eq_true] at e; simp [veqs_len e.2]
theorem veqs_all : ∀ (xs ys : List V), xs.length = ys.length → (List.range xs.length).all (fun j => veq (xs.getD j .none) (ys.getD j .none)) = veqs xs ys
  | [], [], _ => by unfold veqs; rfl
  | x :: xs, y :: ys, e => by
    unfold veqs
    rw [← veqs_all xs ys (by simpa using e), List.length_cons, List.range_succ_eq_map, List.all_cons, List.all_map]
    rfl
theorem veqs_min (xs ys : List V) : ((List.range (min xs.length ys.length)).all (fun j => veq (xs.getD j .none) (ys.getD j .none)) && xs.length == ys.length) = veqs xs ys := by
  by_cases e : xs.length = ys.length
  · rw [← veqs_all xs ys e, e, Nat.min_self]; simp
  · rw [beq_eq_false_iff_ne.mpr e, Bool.and_false]
    cases q : veqs xs ys with
    | false => rfl
    | true => exact absurd (veqs_len q) e
theorem dats_get : ∀ {xs : List V} {j : Nat}, dats xs = true → dat (xs.getD j .none) = true
  | [], _, _ => by simp; unfold dat; rfl
  | x :: xs, j, d => by
    unfold dats at d; rw [Bool.and_eq_true] at d
    cases j with
    | zero => exact d.1
    | succ j => rw [List.getD_cons_succ]; exact dats_get d.2
theorem deps_get : ∀ {xs : List V} {j : Nat}, dep (xs.getD j .none) ≤ deps xs
  | [], _ => by simp; unfold dep; omega
  | x :: xs, j => by
    unfold deps
    cases j with
    | zero => exact Nat.le_max_left ..
    | succ j => rw [List.getD_cons_succ]; exact Nat.le_trans deps_get (Nat.le_max_right ..)
theorem VRs.at {h : Heap} {xs : List V} {vs : List Value} (r : VRs h xs vs) {j : Nat} (hj : j < vs.length) : VR h (xs.getD j .none) vs[j] := by
  have hx : j < xs.length := by rw [← r.length]; exact hj
  obtain ⟨v, e, rv⟩ := r.getElem? (List.getElem?_eq_getElem hx)
  rw [List.getElem?_eq_getElem hj] at e
  cases e
  rw [getD_of hx]; exact rv
structure Kinds (P : Value → Value → Bool → Prop) (s : Shared) : Prop where
  nn : P .none .none true
  nb : ∀ b, P .none (.bool b) false
  ni : ∀ b t, P .none (.int b t) false
  ns : ∀ b t, P .none (.str b t) false
  nt : ∀ l (vs : Array Value), s.heap.IsTuple l vs → P .none (.ref l) false
  bn : ∀ a, P (.bool a) .none false
  bb : ∀ a b, P (.bool a) (.bool b) (a == b)
  bi : ∀ a b t, P (.bool a) (.int b t) ((if a then 1 else 0) == b)
  bs : ∀ a b t, P (.bool a) (.str b t) false
  bt : ∀ a l (vs : Array Value), s.heap.IsTuple l vs → P (.bool a) (.ref l) false
  in' : ∀ a t, P (.int a t) .none false
  ib : ∀ a t b, P (.int a t) (.bool b) (a == (if b then 1 else 0))
  ii : ∀ a t b u, P (.int a t) (.int b u) (a == b)
  is' : ∀ a t b u, P (.int a t) (.str b u) false
  it : ∀ a t l (vs : Array Value), s.heap.IsTuple l vs → P (.int a t) (.ref l) false
  sn : ∀ a t, P (.str a t) .none false
  sb : ∀ a t b, P (.str a t) (.bool b) false
  si : ∀ a t b u, P (.str a t) (.int b u) false
  ss : ∀ a t b u, P (.str a t) (.str b u) (a == b)
  st : ∀ a t l (vs : Array Value), s.heap.IsTuple l vs → P (.str a t) (.ref l) false
  tn : ∀ l (vs : Array Value), s.heap.IsTuple l vs → P (.ref l) .none false
  tb : ∀ l (vs : Array Value) b, s.heap.IsTuple l vs → P (.ref l) (.bool b) false
  ti : ∀ l (vs : Array Value) b t, s.heap.IsTuple l vs → P (.ref l) (.int b t) false
  ts : ∀ l (vs : Array Value) b t, s.heap.IsTuple l vs → P (.ref l) (.str b t) false
theorem isT {s : Shared} {x : List V} {v : Value} (r : VR s.heap (.tup x) v) : ∃ l vs, v = .ref l ∧ s.heap.IsTuple l vs.toArray ∧ VRs s.heap x vs := by
  rw [VR.tup_iff] at r
  obtain ⟨l, vs, ep, rfl, e, q⟩ := r
  exact ⟨l, vs, rfl, ⟨_, e, rfl, ep, rfl⟩, q⟩
theorem kinds {P : Value → Value → Bool → Prop} {s : Shared} (K : Kinds P s) {x y : V} {v u : Value} (dx : dat x = true) (dy : dat y = true) (rx : VR s.heap x v) (ry : VR s.heap y u)
    (TT : ∀ a b lx ly (vsx vsy : List Value), x = .tup a → y = .tup b → s.heap.IsTuple lx vsx.toArray → s.heap.IsTuple ly vsy.toArray → VRs s.heap a vsx → VRs s.heap b vsy → P (.ref lx) (.ref ly) (veqs a b)) : P v u (veq x y) := by
  cases x with
  | none =>
    rw [VR.none_iff] at rx; subst rx
    cases y with
    | none => rw [VR.none_iff] at ry; subst ry; exact K.nn
    | bool b => rw [VR.bool_iff] at ry; subst ry; exact K.nb _
    | int b => rw [VR.int_iff] at ry; obtain ⟨_, rfl⟩ := ry; exact K.ni _ _
    | str b => rw [VR.str_iff] at ry; obtain ⟨_, rfl⟩ := ry; exact K.ns _ _
    | tup b => obtain ⟨l, vs, rfl, T, q⟩ := isT ry; exact K.nt _ _ T
    | _ => cases dy
  | bool a =>
    rw [VR.bool_iff] at rx; subst rx
    cases y with
    | none => rw [VR.none_iff] at ry; subst ry; exact K.bn _
    | bool b => rw [VR.bool_iff] at ry; subst ry; exact K.bb _ _
    | int b => rw [VR.int_iff] at ry; obtain ⟨_, rfl⟩ := ry; exact K.bi _ _ _
    | str b => rw [VR.str_iff] at ry; obtain ⟨_, rfl⟩ := ry; exact K.bs _ _ _
    | tup b => obtain ⟨l, vs, rfl, T, q⟩ := isT ry; exact K.bt _ _ _ T
    | _ => cases dy
  | int a =>
    rw [VR.int_iff] at rx; obtain ⟨_, rfl⟩ := rx
    cases y with
    | none => rw [VR.none_iff] at ry; subst ry; exact K.in' _ _
    | bool b => rw [VR.bool_iff] at ry; subst ry; exact K.ib _ _ _
    | int b => rw [VR.int_iff] at ry; obtain ⟨_, rfl⟩ := ry; exact K.ii _ _ _ _
    | str b => rw [VR.str_iff] at ry; obtain ⟨_, rfl⟩ := ry; exact K.is' _ _ _ _
    | tup b => obtain ⟨l, vs, rfl, T, q⟩ := isT ry; exact K.it _ _ _ _ T
    | _ => cases dy
  | str a =>
    rw [VR.str_iff] at rx; obtain ⟨_, rfl⟩ := rx
    cases y with
    | none => rw [VR.none_iff] at ry; subst ry; exact K.sn _ _
    | bool b => rw [VR.bool_iff] at ry; subst ry; exact K.sb _ _ _
    | int b => rw [VR.int_iff] at ry; obtain ⟨_, rfl⟩ := ry; exact K.si _ _ _ _
    | str b => rw [VR.str_iff] at ry; obtain ⟨_, rfl⟩ := ry; exact K.ss _ _ _ _
    | tup b => obtain ⟨l, vs, rfl, T, q⟩ := isT ry; exact K.st _ _ _ _ T
    | _ => cases dy
  | tup a =>
    obtain ⟨lx, vsx, rfl, Tx, qx⟩ := isT rx
    cases y with
    | none => rw [VR.none_iff] at ry; subst ry; exact K.tn _ _ Tx
    | bool b => rw [VR.bool_iff] at ry; subst ry; exact K.tb _ _ _ Tx
    | int b => rw [VR.int_iff] at ry; obtain ⟨_, rfl⟩ := ry; exact K.ti _ _ _ _ Tx
    | str b => rw [VR.str_iff] at ry; obtain ⟨_, rfl⟩ := ry; exact K.ts _ _ _ _ Tx
    | tup b => obtain ⟨l, vs, rfl, T, q⟩ := isT ry; exact TT _ _ _ _ _ _ rfl rfl Tx T qx q
    | _ => cases dy
  | _ => cases dx
theorem kindsE {A : Around} {s : Shared} (hu : A.units < cLine) : Kinds (EqAt A s) s :=
  ⟨EqAt.same _, EqAt.none_bool, EqAt.none_int, EqAt.none_str, fun _ _ T => EqAt.none_tuple T hu, EqAt.bool_none, EqAt.bool_bool, EqAt.bool_int, EqAt.bool_str, fun _ _ _ T => EqAt.bool_tuple _ T hu,
    EqAt.int_none, EqAt.int_bool, EqAt.int_int, EqAt.int_str, fun _ _ _ _ T => EqAt.int_tuple _ _ T hu, EqAt.str_none, EqAt.str_bool, EqAt.str_int, EqAt.str_str, fun _ _ _ _ T => EqAt.str_tuple _ _ T hu,
    fun _ _ T => EqAt.tuple_none T hu, fun _ _ _ T => EqAt.tuple_bool _ T hu, fun _ _ _ _ T => EqAt.tuple_int _ _ T hu, fun _ _ _ _ T => EqAt.tuple_str _ _ T hu⟩
theorem kindsR {A : Around} {s : Shared} (hu : A.units < cLine) : Kinds (RcAt A s) s :=
  ⟨RcAt.none_none, RcAt.none_bool, RcAt.none_int, RcAt.none_str, fun _ _ T => RcAt.none_tuple T hu, RcAt.bool_none, RcAt.bool_bool, RcAt.bool_int, RcAt.bool_str, fun _ _ _ T => RcAt.bool_tuple _ T hu,
    RcAt.int_none, RcAt.int_bool, RcAt.int_int, RcAt.int_str, fun _ _ _ _ T => RcAt.int_tuple _ _ T hu, RcAt.str_none, RcAt.str_bool, RcAt.str_int, RcAt.str_str, fun _ _ _ _ T => RcAt.str_tuple _ _ T hu,
    fun _ _ T => RcAt.tuple_none T hu, fun _ _ _ T => RcAt.tuple_bool _ T hu, fun _ _ _ _ T => RcAt.tuple_int _ _ T hu, fun _ _ _ _ T => RcAt.tuple_str _ _ T hu⟩
theorem kindsN {A : Around} {s : Shared} (hu : A.units < cLine) : Kinds (fun v u b => RcNeAt A s v u (!b)) s :=
  ⟨RcNeAt.none_none, RcNeAt.none_bool, RcNeAt.none_int, RcNeAt.none_str, fun _ _ T => RcNeAt.none_tuple T hu, RcNeAt.bool_none, RcNeAt.bool_bool, RcNeAt.bool_int, RcNeAt.bool_str, fun _ _ _ T => RcNeAt.bool_tuple _ T hu,
    RcNeAt.int_none, RcNeAt.int_bool, RcNeAt.int_int, RcNeAt.int_str, fun _ _ _ _ T => RcNeAt.int_tuple _ _ T hu, RcNeAt.str_none, RcNeAt.str_bool, RcNeAt.str_int, RcNeAt.str_str, fun _ _ _ _ T => RcNeAt.str_tuple _ _ T hu,
    fun _ _ T => RcNeAt.tuple_none T hu, fun _ _ _ T => RcNeAt.tuple_bool _ T hu, fun _ _ _ _ T => RcNeAt.tuple_int _ _ T hu, fun _ _ _ _ T => RcNeAt.tuple_str _ _ T hu⟩
theorem eq_at : ∀ (n : Nat) (A : Around) (s : Shared) (x y : V) (v u : Value), dep x ≤ n → dat x = true → dat y = true → A.units + n < cLine → VR s.heap x v → VR s.heap y u → EqAt A s v u (veq x y) := by
  intro n
  induction n with
  | zero =>
    intro A s x y v u hn dx dy hu rx ry
    refine kinds (kindsE hu) dx dy rx ry fun a b lx ly vsx vsy ex ey _ _ _ _ => ?_
    subst ex
    exact absurd hn (Nat.not_succ_le_zero _)
  | succ n ih =>
    intro A s x y v u hn dx dy hu rx ry
    refine kinds (kindsE (by omega)) dx dy rx ry fun a b lx ly vsx vsy ex ey Tx Ty qx qy => ?_
    subst ex ey
    have hn : deps a ≤ n := Nat.le_of_succ_le_succ hn
    have dx : dats a = true := dx
    have dy : dats b = true := dy
    by_cases hl : lx = ly
    · subst hl
      have hv : vsx = vsy := by
        obtain ⟨o, e, _, n1, d1⟩ := Tx
        obtain ⟨o', e', _, n2, d2⟩ := Ty
        rw [e] at e'; cases e'
        rw [d1] at d2
        simp only [Data.seq.injEq] at d2
        simpa using congrArg Array.toList d2.1
      subst hv
      have := VRs.inj a b vsx dx dy qx qy
      subst this
      rw [veqs_refl _ dx]
      exact EqAt.same _
    · refine EqAt.of_refs hl ?_
      have := RcAt.tuples (A := A) (e := fun j => veq (a.getD j .none) (b.getD j .none)) Tx Ty (by omega) fun j h1 h2 => ?_
      · rw [← veqs_min]
        simp only [List.size_toArray, qx.length, qy.length] at this
        exact this
      · simp only [List.size_toArray] at h1 h2
        simp only [List.getElem_toArray]
        exact ih A.in1 s _ _ _ _ (Nat.le_trans deps_get hn) (dats_get dx) (dats_get dy) (by show A.units + 1 + n < cLine; omega) (qx.at h1) (qy.at h2)
theorem rc_at {A : Around} {s : Shared} {x y : V} {v u : Value} (hn : True) (dx : dat x = true) (dy : dat y = true) (hu : A.units + (dep x + 1) < cLine) (rx : VR s.heap x v) (ry : VR s.heap y u) : RcAt A s v u (veq x y) := by
  have hu' : A.units < cLine := by omega
  refine kinds (kindsR hu') dx dy rx ry fun a b lx ly vsx vsy ex ey Tx Ty qx qy => ?_
  subst ex ey
  have dx : dats a = true := dx
  have dy : dats b = true := dy
  have hu : A.units + (deps a + 1 + 1) < cLine := hu
  have := RcAt.tuples (A := A) (e := fun j => veq (a.getD j .none) (b.getD j .none)) Tx Ty hu' fun j h1 h2 => ?_
  · rw [← veqs_min]
    simp only [List.size_toArray, qx.length, qy.length] at this
    exact this
  · simp only [List.size_toArray] at h1 h2
    simp only [List.getElem_toArray]
    exact eq_at (deps a) A.in1 s _ _ _ _ deps_get (dats_get dx) (dats_get dy) (by show A.units + 1 + deps a < cLine; omega) (qx.at h1) (qy.at h2)
theorem rcne_at {A : Around} {s : Shared} {x y : V} {v u : Value} (hn : True) (dx : dat x = true) (dy : dat y = true) (hu : A.units + (dep x + 1) < cLine) (rx : VR s.heap x v) (ry : VR s.heap y u) : RcNeAt A s v u (!veq x y) := by
  have hu' : A.units < cLine := by omega
  refine kinds (kindsN hu') dx dy rx ry fun a b lx ly vsx vsy ex ey Tx Ty qx qy => ?_
  subst ex ey
  have dx : dats a = true := dx
  have dy : dats b = true := dy
  have hu : A.units + (deps a + 1 + 1) < cLine := hu
  have := RcNeAt.tuples (A := A) (e := fun j => veq (a.getD j .none) (b.getD j .none)) Tx Ty hu' fun j h1 h2 => ?_
  · show RcNeAt A s _ _ (!veqs a b)
    rw [← veqs_min]
    simp only [List.size_toArray, qx.length, qy.length] at this
    exact this
  · simp only [List.size_toArray] at h1 h2
    simp only [List.getElem_toArray]
    exact eq_at (deps a) A.in1 s _ _ _ _ deps_get (dats_get dx) (dats_get dy) (by show A.units + 1 + deps a < cLine; omega) (qx.at h1) (qy.at h2)
end Mine
end
section
open PySem PySem.W PySem.Calls PyProof.Rows PySem.SeqAt
set_option linter.unusedVariables false
namespace Mine
section
variable {g : G} {F : Fm} {m : Loc} {H : AH} {X : Value → List V → Loc → AH → Prop} {Q : V → Loc → AH → Prop}
theorem St.small {s : Shared} (S : St g F m H s) : F.A.units ≤ 2100 ∧ F.A.depth ≤ 610 := by have := S.room; omega
theorem wc0 {f : Value} (h : WE g F (call f []) m H Q X) : WC g F f [] m H Q X := fun s vs S r => by rw [VRs.nil_iff] at r; subst r; exact h s S
theorem wc1 {f : Value} {x : V} (h : W1 g F VR x (fun v => call f [v]) m H Q X) : WC g F f [x] m H Q X := fun s vs S r => by
  obtain ⟨v, r', rfl, rv, rr⟩ := r.uncons; rw [VRs.nil_iff] at rr; subst rr; exact h s v S rv
theorem wc2 {f : Value} {x y : V} (h : W2 g F VR x y (fun v u => call f [v, u]) m H Q X) : WC g F f [x, y] m H Q X := fun s vs S r => by
  obtain ⟨v, r', rfl, rv, rr⟩ := r.uncons
  obtain ⟨u, r'', rfl, ru, rr⟩ := rr.uncons; rw [VRs.nil_iff] at rr; subst rr; exact h s v u S rv ru
theorem tr_bool {b : Bool} {Q : Bool → Loc → AH → Prop} (h : Q b m H) : W1 g F EqR (.bool b) truthy m H Q X := fun s v S r => by
  rw [VR.bool_iff] at r; subst r; exact wpAny_truthy_bool (OkP.now S rfl rfl rfl rfl h)
theorem tr_int {n : Int} {Q : Bool → Loc → AH → Prop} (h : Q (n != 0) m H) : W1 g F EqR (.int n) truthy m H Q X := fun s v S r => by
  rw [VR.int_iff] at r; obtain ⟨t, rfl⟩ := r; exact PySem.P.truthy_int (OkP.now S rfl rfl rfl rfl h)
theorem tr_none {Q : Bool → Loc → AH → Prop} (h : Q false m H) : W1 g F EqR .none truthy m H Q X := fun s v S r => by
  rw [VR.none_iff] at r; subst r; exact truthy_none (OkP.now S rfl rfl rfl rfl h)
theorem tr_list {l : Addr} {xs : List V} {Q : Bool → Loc → AH → Prop} (hl : LA g H l xs) (hz : xs.length < 2 ^ 60) (h : Q (!xs.isEmpty) m H) : W1 g F EqR (.ref l) truthy m H Q X := fun s v S r => by
  rw [VR.ref_iff] at r; subst r
  obtain ⟨vs, ep, e, rs⟩ := hl.at S
  refine wpAny_truthy_list (items := vs.toArray) ⟨_, e, rfl, ep, rfl⟩ (by rw [List.size_toArray, rs.length]; omega) (OkP.now S rfl rfl rfl ?_ h)
  show (!xs.isEmpty) = (!vs.toArray.isEmpty)
  have := rs.length
  cases xs <;> cases vs <;> simp_all
theorem o_add {a b : Int} (h : Q (.int (a + b)) m H) : W2 g F VR (.int a) (.int b) (binaryOp .Add) m H Q X := fun s v u S r r' => by
  rw [VR.int_iff] at r r'; obtain ⟨t, rfl⟩ := r; obtain ⟨t', rfl⟩ := r'; exact PySem.P.add_int (OkP.now S rfl rfl rfl (.int' _ _) h)
theorem o_sub {a b : Int} (h : Q (.int (a - b)) m H) : W2 g F VR (.int a) (.int b) (binaryOp .Sub) m H Q X := fun s v u S r r' => by
  rw [VR.int_iff] at r r'; obtain ⟨t, rfl⟩ := r; obtain ⟨t', rfl⟩ := r'; exact PySem.P.sub_int (OkP.now S rfl rfl rfl (.int' _ _) h)
theorem o_iadd {a b : Int} (h : Q (.int (a + b)) m H) : W2 g F VR (.int a) (.int b) (inplaceOp .Add) m H Q X := fun s v u S r r' => by
  rw [VR.int_iff] at r r'; obtain ⟨t, rfl⟩ := r; obtain ⟨t', rfl⟩ := r'; exact PySem.P.iadd_int (OkP.now S rfl rfl rfl (.int' _ _) h)
theorem o_isub {a b : Int} (h : Q (.int (a - b)) m H) : W2 g F VR (.int a) (.int b) (inplaceOp .Sub) m H Q X := fun s v u S r r' => by
  rw [VR.int_iff] at r r'; obtain ⟨t, rfl⟩ := r; obtain ⟨t', rfl⟩ := r'; exact PySem.P.isub_int (OkP.now S rfl rfl rfl (.int' _ _) h)
theorem o_mod {a b : Int} (hb : b ≠ 0) (h : Q (.int (a.fmod b)) m H) : W2 g F VR (.int a) (.int b) (binaryOp .Mod) m H Q X := fun s v u S r r' => by
  rw [VR.int_iff] at r r'; obtain ⟨t, rfl⟩ := r; obtain ⟨t', rfl⟩ := r'; exact mod_int' hb (OkP.now S rfl rfl rfl (.int' _ _) h)
theorem o_div {a b : Int} (hb : b ≠ 0) (hs : b.natAbs < 2 ^ 30) (h : Q (.int (a.fdiv b)) m H) : W2 g F VR (.int a) (.int b) (binaryOp .FloorDiv) m H Q X := fun s v u S r r' => by
  rw [VR.int_iff] at r r'; obtain ⟨t, rfl⟩ := r; obtain ⟨t', rfl⟩ := r'; exact floordiv_int hb (OkP.now S rfl rfl rfl (.int' _ _) h) (.inl (PyProof.noPylong_small hs))
theorem o_neg {a : Int} (h : Q (.int (-a)) m H) : W1 g F VR (.int a) (unaryOp .USub) m H Q X := fun s v S r => by
  rw [VR.int_iff] at r; obtain ⟨t, rfl⟩ := r; exact PySem.P.neg_int (OkP.now S rfl rfl rfl (.int' _ _) h)
theorem o_lt {a b : Int} (h : Q (.bool (decide (a < b))) m H) : W2 g F VR (.int a) (.int b) (compareOp .Lt) m H Q X := fun s v u S r r' => by
  rw [VR.int_iff] at r r'; obtain ⟨t, rfl⟩ := r; obtain ⟨t', rfl⟩ := r'; exact PySem.P.lt_int (OkP.now S rfl rfl rfl (.bool' _) h)
theorem o_le {a b : Int} (h : Q (.bool (decide (a ≤ b))) m H) : W2 g F VR (.int a) (.int b) (compareOp .LtE) m H Q X := fun s v u S r r' => by
  rw [VR.int_iff] at r r'; obtain ⟨t, rfl⟩ := r; obtain ⟨t', rfl⟩ := r'; exact PySem.P.le_int (OkP.now S rfl rfl rfl (.bool' _) h)
theorem o_gt {a b : Int} (h : Q (.bool (decide (a > b))) m H) : W2 g F VR (.int a) (.int b) (compareOp .Gt) m H Q X := fun s v u S r r' => by
  rw [VR.int_iff] at r r'; obtain ⟨t, rfl⟩ := r; obtain ⟨t', rfl⟩ := r'; exact PySem.P.gt_int (OkP.now S rfl rfl rfl (.bool' _) h)
theorem o_ge {a b : Int} (h : Q (.bool (decide (a ≥ b))) m H) : W2 g F VR (.int a) (.int b) (compareOp .GtE) m H Q X := fun s v u S r r' => by
  rw [VR.int_iff] at r r'; obtain ⟨t, rfl⟩ := r; obtain ⟨t', rfl⟩ := r'; exact PySem.P.ge_int (OkP.now S rfl rfl rfl (.bool' _) h)
theorem o_eq {x y : V} (dx : dat x = true) (dy : dat y = true) (hd : dep x ≤ 1000) (h : Q (.bool (veq x y)) m H) : W2 g F VR x y (compareOp .Eq) m H Q X := fun s v u S r r' =>
  rc_at trivial dx dy (by have := S.small; have : cLine = 9900 := rfl; omega) r r' g.prog g.w _ _ (OkP.now S rfl rfl rfl (.bool' _) h)
theorem o_ne {x y : V} (dx : dat x = true) (dy : dat y = true) (hd : dep x ≤ 1000) (h : Q (.bool (!veq x y)) m H) : W2 g F VR x y (compareOp .NotEq) m H Q X := fun s v u S r r' =>
  rcne_at trivial dx dy (by have := S.small; have : cLine = 9900 := rfl; omega) r r' g.prog g.w _ _ (OkP.now S rfl rfl rfl (.bool' _) h)
theorem o_eqi {a b : Int} (h : Q (.bool (a == b)) m H) : W2 g F VR (.int a) (.int b) (compareOp .Eq) m H Q X := o_eq (by unfold dat; rfl) (by unfold dat; rfl) (by unfold dep; omega) (by unfold veq; exact h)
theorem o_nei {a b : Int} (h : Q (.bool (!(a == b))) m H) : W2 g F VR (.int a) (.int b) (compareOp .NotEq) m H Q X := o_ne (by unfold dat; rfl) (by unfold dat; rfl) (by unfold dep; omega) (by unfold veq; exact h)
def isNone : V → Bool
  | .none => true
  | _ => false
theorem VR.isNone {h : Heap} {x : V} {v : Value} (r : VR h x v) (hx : ∀ w, x ≠ .cst w) : (v == Value.none) = isNone x := by
  cases x with
  | cst w => exact absurd rfl (hx w)
  | none => rw [VR.none_iff] at r; subst r; rfl
  | bool => rw [VR.bool_iff] at r; subst r; rfl
  | int => rw [VR.int_iff] at r; obtain ⟨_, rfl⟩ := r; rfl
  | str => rw [VR.str_iff] at r; obtain ⟨_, rfl⟩ := r; rfl
  | ref => rw [VR.ref_iff] at r; subst r; rfl
  | tup => rw [VR.tup_iff] at r; obtain ⟨_, _, _, rfl, _⟩ := r; rfl
  | rng => unfold VR at r; obtain ⟨_, _, _, _, rfl, _⟩ := r; rfl
  | view => unfold VR at r; obtain ⟨_, rfl, _⟩ := r; rfl
theorem o_isn {x : V} (hx : ∀ w, x ≠ .cst w) (h : Q (.bool (isNone x)) m H) : W2 g F VR x .none (compareOp .Is) m H Q X := fun s v u S r r' => by
  rw [VR.none_iff] at r'; subst r'
  exact is_none_gen (OkP.now S rfl rfl rfl (by rw [r.isNone hx]; exact .bool' _) h)
theorem o_isnn {x : V} (hx : ∀ w, x ≠ .cst w) (h : Q (.bool (!isNone x)) m H) : W2 g F VR x .none (compareOp .IsNot) m H Q X := fun s v u S r r' => by
  rw [VR.none_iff] at r'; subst r'
  exact isnot_none_gen (OkP.now S rfl rfl rfl (by rw [r.isNone hx]; exact .bool' _) h)
theorem o_isb {c d : Bool} (h : Q (.bool (c == d)) m H) : W2 g F VR (.bool c) (.bool d) (compareOp .Is) m H Q X := fun s v u S r r' => by
  rw [VR.bool_iff] at r r'; subst r r'; exact is_bool (OkP.now S rfl rfl rfl (.bool' _) h)
theorem o_isnb {c d : Bool} (h : Q (.bool (c != d)) m H) : W2 g F VR (.bool c) (.bool d) (compareOp .IsNot) m H Q X := fun s v u S r r' => by
  rw [VR.bool_iff] at r r'; subst r r'; exact isnot_bool (OkP.now S rfl rfl rfl (.bool' _) h)
theorem o_eqL {a b : Addr} {xs ys : List V} (ha : LA g H a xs) (hb : LA g H b ys) (dx : dats xs = true) (dy : dats ys = true) (hd : deps xs ≤ 1000) (h : Q (.bool (veqs xs ys)) m H) : W2 g F VR (.ref a) (.ref b) (compareOp .Eq) m H Q X := fun s v u S r r' => by
  rw [VR.ref_iff] at r r'; subst r r'
  obtain ⟨vs, ep, e, rs⟩ := ha.at S
  obtain ⟨ws, ep', e', rs'⟩ := hb.at S
  have sm := S.small
  have cl : cLine = 9900 := rfl
  have l1 : s.heap.IsList a vs.toArray := ⟨_, e, rfl, ep, rfl⟩
  have l2 : s.heap.IsList b ws.toArray := ⟨_, e', rfl, ep', rfl⟩
  by_cases q : xs.length = ys.length
  · refine eq_listAt (e := fun j => veq (xs.getD j .none) (ys.getD j .none)) l1 l2 (by simp [rs.length, rs'.length, q]) (by omega) (fun j h1 h2 => ?_) (OkP.now S rfl rfl rfl ?_ h)
    · simp only [List.size_toArray] at h1 h2
      simp only [List.getElem_toArray]
      exact eq_at (deps xs) F.A.in1 s _ _ _ _ deps_get (dats_get dx) (dats_get dy) (by show F.A.units + 1 + deps xs < cLine; omega) (rs.at h1) (rs'.at h2)
    · rw [List.size_toArray, rs.length, veqs_all xs ys q]; exact .bool' _
  · have : veqs xs ys = false := by
      cases z : veqs xs ys with
      | false => rfl
      | true => exact absurd (veqs_len z) q
    rw [this] at h
    exact eq_list_lengthsAt l1 l2 (by simp [rs.length, rs'.length, q]) (by omega) (OkP.now S rfl rfl rfl (.bool' _) h)
theorem o_neL {a b : Addr} {xs ys : List V} (ha : LA g H a xs) (hb : LA g H b ys) (dx : dats xs = true) (dy : dats ys = true) (hd : deps xs ≤ 1000) (h : Q (.bool (!veqs xs ys)) m H) : W2 g F VR (.ref a) (.ref b) (compareOp .NotEq) m H Q X := fun s v u S r r' => by
  rw [VR.ref_iff] at r r'; subst r r'
  obtain ⟨vs, ep, e, rs⟩ := ha.at S
  obtain ⟨ws, ep', e', rs'⟩ := hb.at S
  have sm := S.small
  have cl : cLine = 9900 := rfl
  have l1 : s.heap.IsList a vs.toArray := ⟨_, e, rfl, ep, rfl⟩
  have l2 : s.heap.IsList b ws.toArray := ⟨_, e', rfl, ep', rfl⟩
  by_cases q : xs.length = ys.length
  · refine RcNeAt.lists (A := F.A) (s := s) (e := fun j => veq (xs.getD j .none) (ys.getD j .none)) l1 l2 (by simp [rs.length, rs'.length, q]) (by omega) (fun j h1 h2 => ?_) g.prog g.w _ _ (OkP.now S rfl rfl rfl ?_ h)
    · simp only [List.size_toArray] at h1 h2
      simp only [List.getElem_toArray]
      exact eq_at (deps xs) F.A.in1 s _ _ _ _ deps_get (dats_get dx) (dats_get dy) (by show F.A.units + 1 + deps xs < cLine; omega) (rs.at h1) (rs'.at h2)
    · rw [List.size_toArray, rs.length, veqs_all xs ys q]; exact .bool' _
  · have : veqs xs ys = false := by
      cases z : veqs xs ys with
      | false => rfl
      | true => exact absurd (veqs_len z) q
    rw [this] at h
    exact RcNeAt.lists_lengths (A := F.A) (s := s) l1 l2 (by simp [rs.length, rs'.length, q]) (by omega) g.prog g.w _ _ (OkP.now S rfl rfl rfl (.bool' _) h)
open Classical in
noncomputable def eqBy (h : Heap) (x : V) (v : Value) : Bool := if q : ∃ y, dat y = true ∧ VR h y v then veq (choose q) x else false
theorem eqBy_is {h : Heap} {x y : V} {v : Value} (d : dat y = true) (r : VR h y v) : eqBy h x v = veq y x := by
  unfold eqBy
  have q : ∃ y, dat y = true ∧ VR h y v := ⟨y, d, r⟩
  rw [dif_pos q]
  have := Classical.choose_spec q
  rw [VR.inj _ y v this.1 d this.2 r]
theorem any_eqBy {h : Heap} {x : V} : ∀ {xs : List V} {vs : List Value}, dats xs = true → VRs h xs vs → vs.any (eqBy h x) = xs.any (fun y => veq y x)
  | [], _, _, r => by rw [VRs.nil_iff] at r; subst r; rfl
  | y :: ys, _, d, r => by
    obtain ⟨v, r', rfl, rv, rr⟩ := r.uncons
    unfold dats at d; rw [Bool.and_eq_true] at d
    rw [List.any_cons, List.any_cons, eqBy_is d.1 rv, any_eqBy d.2 rr]
theorem in_mem {h : Heap} : ∀ {xs : List V} {vs : List Value} {v : Value}, VRs h xs vs → v ∈ vs → dats xs = true → ∃ y, y ∈ xs ∧ dat y = true ∧ VR h y v ∧ dep y ≤ deps xs
  | [], _, _, r, hv, _ => by rw [VRs.nil_iff] at r; subst r; cases hv
  | y :: ys, _, v, r, hv, d => by
    obtain ⟨v', r', rfl, rv, rr⟩ := r.uncons
    unfold dats at d; rw [Bool.and_eq_true] at d
    rcases List.mem_cons.mp hv with rfl | hv
    · exact ⟨y, List.mem_cons_self, d.1, rv, by unfold deps; exact Nat.le_max_left ..⟩
    · obtain ⟨z, h1, h2, h3, h4⟩ := in_mem rr hv d.2
      exact ⟨z, List.mem_cons_of_mem _ h1, h2, h3, by unfold deps; exact Nat.le_trans h4 (Nat.le_max_right ..)⟩
theorem o_in {x : V} {l : Addr} {xs : List V} (hl : LA g H l xs) (dx : dat x = true) (ds : dats xs = true) (hd : deps xs ≤ 1000) (h : Q (.bool (xs.any fun y => veq y x)) m H) : W2 g F VR x (.ref l) (compareOp .In) m H Q X := fun s v u S r r' => by
  rw [VR.ref_iff] at r'; subst r'
  obtain ⟨vs, ep, e, rs⟩ := hl.at S
  have sm := S.small
  have cl : cLine = 9900 := rfl
  refine in_listAt (items := vs.toArray) (eqBy s.heap x) ⟨_, e, rfl, ep, rfl⟩ (fun y hy => ?_) (OkP.now S rfl rfl rfl ?_ h)
  · obtain ⟨z, h1, h2, h3, h4⟩ := in_mem rs (by simpa using hy) ds
    rw [eqBy_is h2 h3]
    exact eq_at (deps xs) F.A.in1 s _ _ _ _ h4 h2 dx (by show F.A.units + 1 + deps xs < cLine; omega) h3 r
  · rw [List.any_toArray, any_eqBy ds rs]; exact .bool' _
theorem o_nin {x : V} {l : Addr} {xs : List V} (hl : LA g H l xs) (dx : dat x = true) (ds : dats xs = true) (hd : deps xs ≤ 1000) (h : Q (.bool (!xs.any fun y => veq y x)) m H) : W2 g F VR x (.ref l) (compareOp .NotIn) m H Q X := fun s v u S r r' => by
  rw [VR.ref_iff] at r'; subst r'
  obtain ⟨vs, ep, e, rs⟩ := hl.at S
  have sm := S.small
  have cl : cLine = 9900 := rfl
  refine notIn_listAt (items := vs.toArray) (eqBy s.heap x) ⟨_, e, rfl, ep, rfl⟩ (fun y hy => ?_) (OkP.now S rfl rfl rfl ?_ h)
  · obtain ⟨z, h1, h2, h3, h4⟩ := in_mem rs (by simpa using hy) ds
    rw [eqBy_is h2 h3]
    exact eq_at (deps xs) F.A.in1 s _ _ _ _ h4 h2 dx (by show F.A.units + 1 + deps xs < cLine; omega) h3 r
  · rw [List.any_toArray, any_eqBy ds rs]; exact .bool' _
end
end Mine
end
section
open PySem PySem.W PySem.Calls PyProof.Rows PySem.SeqAt
set_option linter.unusedVariables false
set_option maxRecDepth 100000
namespace Mine
section
variable {g : G} {F : Fm} {m : Loc} {H : AH} {s : Shared} {X : Value → List V → Loc → AH → Prop} {Q : V → Loc → AH → Prop}
def nums (ns : List Int) : List V := ns.map .int
theorem nums_are {h : Heap} : ∀ {ns : List Int} {vs : List Value}, VRs h (nums ns) vs → IntsAre vs ns
  | [], _, r => by unfold nums at r; rw [List.map_nil, VRs.nil_iff] at r; subst r; exact .nil
  | n :: ns, _, r => by
    unfold nums at r; rw [List.map_cons] at r
    obtain ⟨v, r', rfl, rv, rr⟩ := r.uncons
    rw [VR.int_iff] at rv; obtain ⟨t, rfl⟩ := rv
    exact .cons n t (nums_are rr)
theorem are_nums {h : Heap} : ∀ {ns : List Int} {vs : List Value}, IntsAre vs ns → VRs h (nums ns) vs
  | _, _, .nil => .nil'
  | _, _, .cons n t r => .cons (.int' n t) (are_nums r)
theorem ints_length (ns : List Int) : (nums ns).length = ns.length := by simp [nums]
theorem dats_ints : ∀ ns : List Int, dats (nums ns) = true
  | [] => by unfold nums; rw [List.map_nil]; unfold dats; rfl
  | n :: ns => by unfold nums; rw [List.map_cons]; unfold dats; have := dats_ints ns; unfold nums at this; rw [this]; unfold dat; rfl
theorem deps_ints : ∀ ns : List Int, deps (nums ns) = 0
  | [] => by unfold nums; rw [List.map_nil]; unfold deps; rfl
  | n :: ns => by unfold nums; rw [List.map_cons]; unfold deps; have := deps_ints ns; unfold nums at this; rw [this]; unfold dep; rfl
theorem veqs_ints : ∀ ns ms : List Int, veqs (nums ns) (nums ms) = (ns == ms)
  | [], [] => by unfold nums; simp [veqs]
  | [], _ :: _ => by unfold nums; simp [veqs]
  | _ :: _, [] => by unfold nums; simp [veqs]
  | n :: ns, k :: ms => by
    have := veqs_ints ns ms
    unfold nums at this ⊢
    simp only [List.map_cons]
    unfold veqs veq
    rw [this]; rfl
theorem any_ints (x : Int) (ns : List Int) : ((nums ns).any fun y => veq y (.int x)) = ns.contains x := by
  induction ns with
  | nil => rfl
  | cons n ns ih =>
    unfold nums at ih ⊢
    rw [List.map_cons, List.any_cons, ih, List.contains_cons]
    unfold veq
    congr 1
    by_cases q : n = x
    · rw [q]
    · rw [beq_eq_false_iff_ne.mpr q, beq_eq_false_iff_ne.mpr (Ne.symm q)]
theorem ints_get {ns : List Int} {i : Nat} {n : Int} (e : ns[i]? = some n) : (nums ns)[i]? = some (.int n) := by simp [nums, e]
theorem St.mut {l : Addr} {xs ys : List V} {vs ws : List Value} {ep : Nat} {f : Array Value → Array Value} {t : Nat} (S : St g F m H s) (hl : H l = some (.list xs)) (e : s.heap.get? l = some (lstObj vs ep)) (hf : f vs.toArray = ws.toArray) (hr : VRs s.heap ys ws) :
    St g F m (put H l (.list ys)) { s with heap := s.heap.update l (Obj.mapSeq f), toks := t } ∧ Keep F s.heap H (s.heap.update l (Obj.mapSeq f)) (put H l (.list ys)) := by
  have D := IsL.update (show IsL s.heap l vs.toArray ep from e) f
  rw [hf] at D
  have C : Chg (· = l) s.heap (s.heap.update l (Obj.mapSeq f)) := .sameBut ⟨Heap.size_update .., fun b q => Heap.get?_update_other _ _ (Ne.symm q)⟩ D fun o₀ _ _ e' q => by rw [e] at e'; cases e'; cases q
  refine S.set C hl ⟨ws, _, D, hr.mono fun b o i e' => C.same b o e' fun q => ?_⟩
  subst q; rw [e] at e'; cases e'; have := i.cls; cases this
theorem St.listAt {l : Addr} {xs : List V} (S : St g F m H s) (hl : H l = some (.list xs)) : ∃ vs ep, s.heap.get? l = some (lstObj vs ep) ∧ VRs s.heap xs vs := (S.obj l _ hl).2
theorem LA.own {l : Addr} {xs : List V} (h : H l = some (.list xs)) : LA g H l xs := .inl h
theorem VRs.set {h : Heap} {x : V} {v : Value} (rx : VR h x v) : ∀ {xs : List V} {vs : List Value} {i : Nat}, VRs h xs vs → VRs h (xs.set i x) (vs.set i v)
  | [], _, _, r => by rw [VRs.nil_iff] at r; subst r; exact .nil'
  | y :: ys, _, i, r => by
    obtain ⟨u, r', rfl, rv, rr⟩ := r.uncons
    cases i with
    | zero => exact .cons rx rr
    | succ j => exact .cons rv (VRs.set rx rr)
theorem VRs.snoc {h : Heap} {x : V} : ∀ {xs : List V} {vs : List Value}, VRs h (xs ++ [x]) vs → ∃ ws v, vs = ws ++ [v] ∧ VRs h xs ws ∧ VR h x v
  | [], _, r => by obtain ⟨v, r', rfl, rv, rr⟩ := r.uncons; rw [VRs.nil_iff] at rr; subst rr; exact ⟨[], v, rfl, .nil', rv⟩
  | y :: ys, _, r => by
    obtain ⟨u, r', rfl, ru, rr⟩ := r.uncons
    obtain ⟨ws, v, rfl, rw', rv⟩ := VRs.snoc rr
    exact ⟨u :: ws, v, rfl, .cons ru rw', rv⟩
theorem o_item {l : Addr} {xs : List V} {k : Int} {x : V} (hl : LA g H l xs) (h0 : 0 ≤ k) (hz : k < 2 ^ 60) (hx : xs[k.toNat]? = some x) (h : Q x m H) : W2 g F VR (.ref l) (.int k) getItem m H Q X := fun s v u S r r' => by
  rw [VR.ref_iff] at r; subst r; rw [VR.int_iff] at r'; obtain ⟨t, rfl⟩ := r'
  obtain ⟨vs, ep, e, rs⟩ := hl.at S
  obtain ⟨v, ev, rv⟩ := rs.getElem? hx
  exact wpAny_getItem_list (items := vs.toArray) ⟨_, e, rfl, ep, rfl⟩ h0 (by omega) (by simpa using ev) (OkP.now S rfl rfl rfl rv h)
theorem o_last {l : Addr} {xs : List V} {x : V} (hl : LA g H l xs) (hx : xs[xs.length - 1]? = some x) (h : Q x m H) : W2 g F VR (.ref l) (.int (-1)) getItem m H Q X := fun s v u S r r' => by
  rw [VR.ref_iff] at r; subst r; rw [VR.int_iff] at r'; obtain ⟨t, rfl⟩ := r'
  obtain ⟨vs, ep, e, rs⟩ := hl.at S
  obtain ⟨v, ev, rv⟩ := rs.getElem? hx
  have hl' := rs.length
  have : xs.length - 1 < xs.length := (List.getElem?_eq_some_iff.mp hx).1
  refine wpAny_getItem_list_neg (items := vs.toArray) (x := v) ⟨_, e, rfl, ep, rfl⟩ (by omega) (by simp; omega) (by omega) ?_ (OkP.now S rfl rfl rfl rv h)
  rw [show ((-1 : Int) + (vs.toArray.size : Int)).toNat = xs.length - 1 by simp; omega]
  simpa using ev
theorem gi_list {l : Addr} {xs : List V} {i : V} (hl : LA g H l xs) (h : W2 g F VR (.ref l) i getItem m H Q X) : GI g F (.ref l) i m H Q X :=
  ⟨"list", _, list_getitem_lookup, fun s v S r => by rw [VR.ref_iff] at r; subst r; obtain ⟨vs, ep, e, _⟩ := hl.at S; exact ⟨_, e, rfl⟩, h⟩
theorem o_itemT {xs : List V} {k : Int} {x : V} (h0 : 0 ≤ k) (hz : k < 2 ^ 60) (hx : xs[k.toNat]? = some x) (h : Q x m H) : W2 g F VR (.tup xs) (.int k) getItem m H Q X := fun s v u S r r' => by
  rw [VR.tup_iff] at r; obtain ⟨t, vs, ep, rfl, e, rs⟩ := r; rw [VR.int_iff] at r'; obtain ⟨t', rfl⟩ := r'
  obtain ⟨v, ev, rv⟩ := rs.getElem? hx
  have hlt : k.toNat < vs.length := (List.getElem?_eq_some_iff.mp ev).1
  refine PyProof.Rows.getItem_tuple (items := vs.toArray) (j := k.toNat) (x := v) ⟨_, e, rfl, ep, rfl⟩ (by omega) (by omega) ?_ (by simpa using ev) (OkP.now S rfl rfl rfl rv h)
  unfold seqIndex?
  have h1 : ¬ k < 0 := by omega
  have h2 : 0 ≤ k ∧ k < (vs.toArray.size : Int) := by simp; omega
  simp only [h1, if_false]
  split
  · rfl
  · rename_i q; simp at q; omega
theorem gi_tup {xs : List V} {i : V} (h : W2 g F VR (.tup xs) i getItem m H Q X) : GI g F (.tup xs) i m H Q X :=
  ⟨"tuple", _, PySem.F.slot_tuple_getitem.lookup, fun s v S r => by rw [VR.tup_iff] at r; obtain ⟨t, vs, ep, rfl, e, rs⟩ := r; exact ⟨_, e, rfl⟩, h⟩
theorem o_setitem {l : Addr} {xs : List V} {k : Int} {x : V} {Q : Loc → AH → Prop} (hl : H l = some (.list xs)) (h0 : 0 ≤ k) (hk : k < xs.length) (hz : xs.length < 2 ^ 60) (h : Q m (put H l (.list (xs.set k.toNat x)))) :
    W3 g F EqR (.ref l) (.int k) x (fun ov iv v => setItem ov iv v) m H (fun (_ : Unit) m H => Q m H) X := fun s v u w S r r' rx => by
  rw [VR.ref_iff] at r; subst r; rw [VR.int_iff] at r'; obtain ⟨t, rfl⟩ := r'
  obtain ⟨vs, ep, e, rs⟩ := S.listAt hl
  have hT : s.TypeIs (.ref l) "list" := ⟨_, e, rfl⟩
  unfold setItem
  refine wpAny_holding ?_
  refine wpAny_bind (wpAny_sequenceKey hT (by decide) ?_)
  refine wpAny_bind (wpAny_callSpecial?_slot (name := Str.ofString "__setitem__") hT slot_list_setitem (wpAny_call_entry slot_list_setitem hT entry_list_setitem ?_ (args_list_setitem _ _ _)))
  show wpAny _ _ (Builtin.List.listSubscript? (.int k t) >>= _) _ _ s
  refine wpAny_bind (wpAny_listSubscript_int (fitsIndex_of h0 (by omega)) ?_)
  obtain ⟨j, rfl⟩ := Int.eq_ofNat_of_zero_le h0
  have hj : j < vs.toArray.size := by rw [List.size_toArray, rs.length]; omega
  obtain ⟨S', K'⟩ := S.mut (t := s.toks) (f := (·.setIfInBounds j w)) (ys := xs.set j x) (ws := vs.set j w) hl e (by simp) (VRs.set rx rs)
  show wpAny _ _ ((seqItemAt l j >>= fun r => pure (r.map (j, ·))) >>= _) _ _ s
  refine wpAny_bind (wpAny_bind (wpAny_seqItemAt e rfl (wpAny_pure ?_)))
  rw [Array.getElem?_eq_getElem hj]
  show wpAny _ _ (setSeqItemAt l j w >>= _) _ _ s
  refine wpAny_bind (wpAny_setSeqItemAt e rfl ?_)
  have fin : OkP g F EqR (fun (_ : Unit) m H => Q m H) s.heap H () { s with heap := s.heap.update l (Obj.mapSeq (·.setIfInBounds j w)) } := ⟨(), m, _, rfl, S', K', h⟩
  first
    | exact wpAny_bind (wpAny_pure (wpAny_pure ⟨.none, rfl, wpAny_pure fin⟩))
    | exact wpAny_pure ⟨.none, rfl, wpAny_pure fin⟩
theorem c_append {l : Addr} {xs : List V} {x : V} (hl : H l = some (.list xs)) (hz : xs.length ≤ 16000000) (h : Q .none m (put H l (.list (xs ++ [x])))) : WC g F (.builtin "list.append") [.ref l, x] m H Q X := wc2 fun s v u S r ru => by
  rw [VR.ref_iff] at r; subst r
  obtain ⟨vs, ep, e, rs⟩ := S.listAt hl
  obtain ⟨S', K'⟩ := S.mut (t := s.toks) (f := fun z => z.push u) (ys := xs ++ [x]) (ws := vs ++ [u]) hl e (by simp) (rs.append (.cons ru .nil'))
  exact call_meets PySem.F.slot_list_append ⟨_, e, rfl⟩ PySem.F.entry_list_append (PySem.F.args_list_append_2 _ _) (list_append l vs.toArray ep u (by rw [List.size_toArray, rs.length, sizeLine_eq]; omega)) ⟨e, .none, m, _, .none', S', K', h⟩
theorem c_clear {l : Addr} {xs : List V} (hl : H l = some (.list xs)) (hz : xs.length ≤ 16000000) (h : Q .none m (put H l (.list []))) : WC g F (.builtin "list.clear") [.ref l] m H Q X := wc1 fun s v S r => by
  rw [VR.ref_iff] at r; subst r
  obtain ⟨vs, ep, e, rs⟩ := S.listAt hl
  obtain ⟨S', K'⟩ := S.mut (t := s.toks) (f := fun _ => #[]) (ys := []) (ws := []) hl e rfl .nil'
  exact call_meets PySem.F.slot_list_clear ⟨_, e, rfl⟩ PySem.F.entry_list_clear (PySem.F.args_list_clear_1 _) (AutoSeq1.list_clear_list_0 l vs.toArray ep (by rw [List.size_toArray, rs.length, sizeLine_eq]; omega)) ⟨e, .none, m, _, .none', S', K', h⟩
theorem c_pop {l : Addr} {xs : List V} {x : V} (hl : H l = some (.list (xs ++ [x]))) (hz : xs.length < 16000000) (h : Q x m (put H l (.list xs))) : WC g F (.builtin "list.pop") [.ref l] m H Q X := wc1 fun s v S r => by
  rw [VR.ref_iff] at r; subst r
  obtain ⟨vs, ep, e, rs⟩ := S.listAt hl
  obtain ⟨ws, v, rfl, rw', rv⟩ := rs.snoc
  have hlen := rw'.length
  obtain ⟨S', K'⟩ := S.mut (t := s.toks) (f := fun z => z.eraseIdxIfInBounds ((ws ++ [v]).toArray.size - 1)) (ys := xs) (ws := ws) hl e (by simp [Array.eraseIdxIfInBounds, List.eraseIdx_append_of_length_le]) rw'
  refine call_meets PySem.F.slot_list_pop ⟨_, e, rfl⟩ PySem.F.entry_list_pop (PySem.F.args_list_pop_1 _) (MeetsSeq.list_pop_last l (ws ++ [v]).toArray ep v (by simp) (by simp [hlen, sizeLine_eq]; omega)) ⟨e, x, m, _, ?_, S', K', h⟩
  exact rv.mono (K'.mono S).tup
theorem c_extend {l : Addr} {a : V} {xs ys : List V} (hl : H l = some (.list xs)) (ha : Items g a H ys) (hz : xs.length + ys.length ≤ 16000000) (h : Q .none m (put H l (.list (xs ++ ys)))) : WC g F (.builtin "list.extend") [.ref l, a] m H Q X := wc2 fun s v u S r ru => by
  rw [VR.ref_iff] at r; subst r
  obtain ⟨vs, ep, e, rs⟩ := S.listAt hl
  obtain ⟨_, ha⟩ := ha
  rcases ha with rfl | ⟨b, rfl, hb⟩
  · rw [VR.tup_iff] at ru; obtain ⟨b, ws, ep', rfl, e', rs'⟩ := ru
    obtain ⟨S', K'⟩ := S.mut (t := s.toks) (f := fun z => z ++ ws.toArray) (ys := xs ++ ys) (ws := vs ++ ws) hl e (by simp) (rs.append rs')
    exact call_meets PySem.F.slot_list_extend ⟨_, e, rfl⟩ PySem.F.entry_list_extend (PySem.F.args_list_extend_2 _ _) (AutoSeq1.list_extend_list_tuple_0 l vs.toArray ep b ws.toArray ep' (by simp [Builtin.List.listTooLong, rs.length, rs'.length, sizeLine_eq]; omega) (by rw [List.size_toArray, rs.length, sizeLine_eq]; omega) (by simp [rs.length, rs'.length, sizeLine_eq]; omega))
      ⟨e, e', .none, m, _, .none', S', K', h⟩
  · rw [VR.ref_iff] at ru; subst ru; obtain ⟨ws, ep', e', rs'⟩ := hb.at S
    obtain ⟨S', K'⟩ := S.mut (t := s.toks) (f := fun z => z ++ ws.toArray) (ys := xs ++ ys) (ws := vs ++ ws) hl e (by simp) (rs.append rs')
    exact call_meets PySem.F.slot_list_extend ⟨_, e, rfl⟩ PySem.F.entry_list_extend (PySem.F.args_list_extend_2 _ _) (AutoSeq1.list_extend_list_list_0 l vs.toArray ep b ws.toArray ep' (by simp [Builtin.List.listTooLong, rs.length, rs'.length, sizeLine_eq]; omega) (by rw [List.size_toArray, rs.length, sizeLine_eq]; omega) (by simp [rs.length, rs'.length, sizeLine_eq]; omega))
      ⟨e, e', .none, m, _, .none', S', K', h⟩
end
end Mine
end
section
open PySem PySem.W PySem.Calls PyProof.Rows PySem.SeqAt
set_option linter.unusedVariables false
set_option maxRecDepth 100000
namespace Mine
section
variable {g : G} {F : Fm} {m : Loc} {H : AH} {s : Shared} {X : Value → List V → Loc → AH → Prop} {Q : V → Loc → AH → Prop}
theorem c_len {l : Addr} {xs : List V} (hl : LA g H l xs) (hz : xs.length < 2 ^ 60) (h : Q (.int xs.length) m H) : WC g F (.builtin "len") [.ref l] m H Q X := wc1 fun s v S r => by
  rw [VR.ref_iff] at r; subst r
  obtain ⟨vs, ep, e, rs⟩ := hl.at S
  refine call_len_list (items := vs.toArray) ⟨_, e, rfl, ep, rfl⟩ (by rw [List.size_toArray, rs.length]; omega) (OkP.now S rfl rfl rfl ?_ h)
  rw [List.size_toArray, rs.length]; exact .int' _ _
theorem c_lenT {xs : List V} (hz : xs.length < 2 ^ 60) (h : Q (.int xs.length) m H) : WC g F (.builtin "len") [.tup xs] m H Q X := wc1 fun s v S r => by
  rw [VR.tup_iff] at r; obtain ⟨l, vs, ep, rfl, e, rs⟩ := r
  refine PyProof.Rows.len_tuple (items := vs.toArray) ⟨_, e, rfl, ep, rfl⟩ (by rw [List.size_toArray, rs.length]; omega) (OkP.now S rfl rfl rfl ?_ h)
  rw [List.size_toArray, rs.length]; exact .int' _ _
theorem rng_ok {s : Shared} {a b c : Int} {t u v : Tok} {tk : Nat} (S : St g F m H s) (h : Q (.rng a b c) m H) : OkP g F VR Q s.heap H (.ref s.heap.objs.size) { s with heap := s.heap.push { cls := .type "range", data := .fields #[.int a t, .int b u, .int c v] }, toks := tk } := by
  obtain ⟨S', K'⟩ := S.ext (t := tk) (h' := s.heap.push { cls := .type "range", data := .fields #[.int a t, .int b u, .int c v] }) (fun _ _ e => Heap.get?_push_of_some _ e)
  refine ⟨.rng a b c, m, H, ?_, S', K', h⟩
  unfold VR
  exact ⟨_, t, u, v, rfl, Heap.get?_push_size _ rfl⟩
theorem c_range1 {n : Int} (h : Q (.rng 0 n 1) m H) : WC g F (.type "range") [.int n] m H Q X := wc1 fun s v S r => by
  rw [VR.int_iff] at r; obtain ⟨t, rfl⟩ := r
  exact call_range_1 (rng_ok S h)
theorem c_range2 {a b : Int} (h : Q (.rng a b 1) m H) : WC g F (.type "range") [.int a, .int b] m H Q X := wc2 fun s v u S r r' => by
  rw [VR.int_iff] at r r'; obtain ⟨t, rfl⟩ := r; obtain ⟨t', rfl⟩ := r'
  exact call_range_2 (rng_ok S h)
theorem new_list {s : Shared} {ys : List V} {vs : List Value} {ep : Nat} {h' : Heap} {tk : Nat} {a : Addr} (S : St g F m H s) (kp : ∀ b o, s.heap.get? b = some o → h'.get? b = some o) (n : s.heap.get? a = none) (e : h'.get? a = some (lstObj vs ep)) (r : VRs h' ys vs) (h : ∀ a, H a = none → Q (.ref a) m (put H a (.list ys))) :
    OkP g F VR Q s.heap H (.ref a) { s with heap := h', toks := tk } := by
  obtain ⟨S', K'⟩ := S.new (t := tk) (o' := .list ys) kp n ⟨vs, ep, e, r⟩
  exact ⟨.ref a, m, _, .ref' a, S', K', h a (S.untracked n)⟩
theorem range_nums {h : Heap} {a : Int} {n : Nat} {acc : Array Value} (x : ItemsOf (fun i v => ∃ t, v = .int (a + i * 1) t) acc n) : VRs h (nums ((List.range n).map fun (i : Nat) => a + (i : Int))) acc.toList := by
  obtain ⟨hsz, hx⟩ := x
  have : ∀ (k : Nat), k ≤ n → VRs h (nums ((List.range k).map fun (i : Nat) => a + (i : Int))) (acc.toList.take k) := by
    intro k
    induction k with
    | zero => intro _; simp [nums]; exact .nil'
    | succ k ih =>
      intro hk
      have hk' : k < acc.toList.length := by simp; omega
      rw [List.range_succ, List.map_append, List.take_succ_eq_append_getElem hk']
      unfold nums
      rw [List.map_append]
      refine (ih (by omega)).append (.cons ?_ .nil')
      obtain ⟨t, e⟩ := hx k acc[k] (Array.getElem?_eq_getElem (by simpa using hk'))
      simp only [Array.getElem_toList]
      rw [e, Int.mul_one]
      exact .int' _ _
  have := this n (Nat.le_refl _)
  rwa [List.take_of_length_le (by simp [hsz])] at this
theorem c_listrange {a b : Int} {n : Nat} (hh : F.A.handled = none) (ha : -(2 ^ 62) ≤ a ∧ a < 2 ^ 62) (hb : -(2 ^ 62) ≤ b ∧ b < 2 ^ 62) (hn : (n : Int) = if a < b then b - a else 0) (hz : n ≤ 2 ^ 24) (h : ∀ l, H l = none → Q (.ref l) m (put H l (.list (nums ((List.range n).map fun (i : Nat) => a + (i : Int)))))) :
    WC g F (.type "list") [.rng a b 1] m H Q X := wc1 fun s v S r => by
  unfold VR at r
  obtain ⟨t, t1, t2, t3, rfl, e⟩ := r
  refine call_list_range hh e (small_one ha.1 ha.2 hb.1 hb.2) (n := n) (by rw [rangeSize_one, hn]) hz fun h' tk acc c' kp e' x => ?_
  exact new_list S kp (Heap.get?_none_of_le (Nat.le_refl _)) (vs := acc.toList) (ep := c') (by simpa using e') (range_nums x) h
theorem c_listof {a : V} {ys : List V} (ha : Items g a H ys) (h : ∀ l, H l = none → Q (.ref l) m (put H l (.list ys))) : WC g F (.type "list") [a] m H Q X := wc1 fun s v S r => by
  obtain ⟨hz, ha⟩ := ha
  have : ∃ t vs ep T, (T = "list" ∨ T = "tuple") ∧ v = .ref t ∧ s.heap.get? t = some { cls := .type T, data := .seq vs.toArray ep } ∧ VRs s.heap ys vs := by
    rcases ha with rfl | ⟨l, rfl, x⟩
    · rw [VR.tup_iff] at r; obtain ⟨t, vs, ep, rfl, e, r⟩ := r; exact ⟨t, vs, ep, "tuple", .inr rfl, rfl, e, r⟩
    · rw [VR.ref_iff] at r; subst r; obtain ⟨vs, ep, e, r⟩ := x.at S; exact ⟨l, vs, ep, "list", .inl rfl, rfl, e, r⟩
  obtain ⟨t, vs, ep, T, hT, rfl, e, rs⟩ := this
  refine call_list_seq t hT e rfl rfl (fun h' c' kp e' => ?_) (by rw [List.size_toArray, rs.length]; exact hz)
  exact new_list S kp (Heap.get?_none_of_le (Nat.le_refl _)) e' (rs.mono fun _ _ _ q => kp _ _ q) h
theorem c_tupleof {l : Addr} {ys : List V} (hl : LA g H l ys) (hz : ys.length ≤ 2 ^ 24) (h : Q (.tup ys) m H) : WC g F (.type "tuple") [.ref l] m H Q X := wc1 fun s v S r => by
  rw [VR.ref_iff] at r; subst r
  obtain ⟨vs, ep, e, rs⟩ := hl.at S
  refine call_tuple_list (items := vs.toArray) ⟨_, e, rfl, ep, rfl⟩ (fun h' kp => ?_) (by rw [List.size_toArray, rs.length, sizeLine_eq]; exact hz)
  have kp' : ∀ b o, s.heap.get? b = some o → (h'.push (tupObj vs 0)).get? b = some o := fun b o q => Heap.get?_push_of_some _ (kp b o q)
  obtain ⟨S', K'⟩ := S.ext (t := s.toks) kp'
  exact ⟨.tup ys, m, H, .tup' (Heap.get?_push_size _ rfl) (rs.mono fun _ _ _ q => kp' _ _ q), S', K', h⟩
theorem c_min2 {a b : Int} (hh : F.A.handled = none) (h : Q (.int (min a b)) m H) : WC g F (.builtin "min") [.int a, .int b] m H Q X := wc2 fun s v u S r r' => by
  rw [VR.int_iff] at r r'; obtain ⟨t, rfl⟩ := r; obtain ⟨t', rfl⟩ := r'
  refine min_two_ints hh fun h' tk kp => ?_
  obtain ⟨S', K'⟩ := S.ext (t := tk) kp
  refine ⟨.int (min a b), m, H, ?_, S', K', h⟩
  split
  · rw [show min a b = b by omega]; exact .int' _ _
  · rw [show min a b = a by omega]; exact .int' _ _
theorem c_max2 {a b : Int} (hh : F.A.handled = none) (h : Q (.int (max a b)) m H) : WC g F (.builtin "max") [.int a, .int b] m H Q X := wc2 fun s v u S r r' => by
  rw [VR.int_iff] at r r'; obtain ⟨t, rfl⟩ := r; obtain ⟨t', rfl⟩ := r'
  refine max_two_ints hh fun h' tk kp => ?_
  obtain ⟨S', K'⟩ := S.ext (t := tk) kp
  refine ⟨.int (max a b), m, H, ?_, S', K', h⟩
  split
  · rw [show max a b = b by omega]; exact .int' _ _
  · rw [show max a b = a by omega]; exact .int' _ _
theorem nums_items : ∀ {vs : List Value} {ns : List Int}, IntsAre vs ns → ∃ ys : List (Int × Tok), vs = ys.map (fun p => .int p.1 p.2) ∧ ns = ys.map (·.1)
  | _, _, .nil => ⟨[], rfl, rfl⟩
  | _, _, .cons n t r => by obtain ⟨ys, e1, e2⟩ := nums_items r; exact ⟨(n, t) :: ys, by simp [e1], by simp [e2]⟩
theorem c_sum {l : Addr} {ns : List Int} (hh : F.A.handled = none) (hl : LA g H l (nums ns)) (h : Q (.int ns.sum) m H) : WC g F (.builtin "sum") [.ref l] m H Q X := wc1 fun s v S r => by
  rw [VR.ref_iff] at r; subst r
  obtain ⟨vs, ep, e, rs⟩ := hl.at S
  obtain ⟨ys, rfl, rfl⟩ := nums_items (nums_are rs)
  refine sum_intListG (xs := ys.toArray) hh ⟨_, e, rfl, ep, by simp [intItems]⟩ fun h' tk t' kp => ?_
  obtain ⟨S', K'⟩ := S.ext (t := tk) kp
  refine ⟨.int _, m, H, ?_, S', K', h⟩
  rw [preSum_eq]
  simp only [List.size_toArray]
  rw [List.take_of_length_le (by simp)]
  exact .int' _ _
theorem c_sorted {l : Addr} {ns : List Int} (hl : LA g H l (nums ns)) (hz : ns.length < 64) (h : ∀ l ms, ms.Perm ns → ms.Pairwise (· ≤ ·) → H l = none → Q (.ref l) m (put H l (.list (nums ms)))) : WC g F (.builtin "sorted") [.ref l] m H Q X := wc1 fun s v S r => by
  rw [VR.ref_iff] at r; subst r
  obtain ⟨vs, ep, e, rs⟩ := hl.at S
  refine sorted_ints (vs := vs) (ns := ns) ⟨_, e, rfl, ep, rfl⟩ (nums_are rs) (by rw [rs.length, ints_length]; exact hz) fun out ms hI hp hs => ?_
  have n1 : s.heap.get? (s.heap.objs.size + 1) = none := Heap.get?_none_of_le (Nat.le_succ _)
  have kp : ∀ b o, s.heap.get? b = some o → (sortedAll s.heap vs out).get? b = some o := fun b o q => sortedAll_old q
  obtain ⟨n', e'⟩ := sortedAll_at s.heap vs out
  exact new_list S kp n1 (vs := out.toList) (ep := n') (by simpa using e') (are_nums hI) fun a ha => h a ms hp hs ha
end
end Mine
end
section
open PySem PySem.W PySem.Calls PyProof.Rows PySem.SeqAt
set_option linter.unusedVariables false
set_option maxRecDepth 100000
namespace Mine
def dget (es : List (Int × V)) (k : Int) : Option V := (es.find? fun e => e.1 = k).map (·.2)
def dput (es : List (Int × V)) (k : Int) (x : V) : List (Int × V) := if es.any (fun e => e.1 = k) then es.map (fun e => if e.1 = k then (e.1, x) else e) else es ++ [(k, x)]
def ddel (es : List (Int × V)) (k : Int) : List (Int × V) := es.filter fun e => decide (e.1 ≠ k)
theorem kv_get {h : Heap} {k : Int} : ∀ {es : List (Int × V)} {kvs : List (Int × Value)}, KV h es kvs → match dget es k with | some x => ∃ v, valueAt kvs k = some v ∧ VR h x v | none => valueAt kvs k = none
  | [], _, e => by cases e; exact rfl
  | e :: es, _, ⟨v, r, q, hv, hr⟩ => by
    subst q
    have ih := kv_get (k := k) hr
    unfold dget valueAt at *
    by_cases z : e.1 = k
    · simp only [List.find?_cons, z, decide_true]
      exact ⟨v, rfl, hv⟩
    · simp only [List.find?_cons, z, decide_false]
      exact ih
theorem kv_any {h : Heap} {k : Int} : ∀ {es : List (Int × V)} {kvs : List (Int × Value)}, KV h es kvs → kvs.any (fun kv => kv.1 = k) = es.any (fun e => e.1 = k)
  | [], _, e => by cases e; rfl
  | e :: es, _, ⟨v, r, q, hv, hr⟩ => by subst q; rw [List.any_cons, List.any_cons, kv_any hr]
theorem kv_map {h : Heap} {k : Int} {x : V} {v : Value} (hx : VR h x v) : ∀ {es : List (Int × V)} {kvs : List (Int × Value)}, KV h es kvs → KV h (es.map (fun e => if e.1 = k then (e.1, x) else e)) (kvs.map (fun kv => if kv.1 = k then (kv.1, v) else kv))
  | [], _, e => by cases e; rfl
  | e :: es, _, ⟨u, r, q, hv, hr⟩ => by
    subst q
    rw [List.map_cons, List.map_cons]
    by_cases z : e.1 = k
    · rw [if_pos z, if_pos z]; exact ⟨v, _, rfl, hx, kv_map hx hr⟩
    · rw [if_neg z, if_neg z]; exact ⟨u, _, rfl, hv, kv_map hx hr⟩
theorem kv_app {h : Heap} {k : Int} {x : V} {v : Value} (hx : VR h x v) : ∀ {es : List (Int × V)} {kvs : List (Int × Value)}, KV h es kvs → KV h (es ++ [(k, x)]) (kvs ++ [(k, v)])
  | [], _, e => by cases e; exact ⟨v, [], rfl, hx, rfl⟩
  | e :: es, _, ⟨u, r, q, hv, hr⟩ => by subst q; exact ⟨u, _, rfl, hv, kv_app hx hr⟩
theorem kv_put {h : Heap} {k : Int} {x : V} {v : Value} (hx : VR h x v) {es : List (Int × V)} {kvs : List (Int × Value)} (r : KV h es kvs) : KV h (dput es k x) (stored kvs k v) := by
  unfold dput stored
  rw [kv_any r]
  split
  · exact kv_map hx r
  · exact kv_app hx r
theorem kv_del {h : Heap} {k : Int} : ∀ {es : List (Int × V)} {kvs : List (Int × Value)}, KV h es kvs → KV h (ddel es k) (without kvs k)
  | [], _, e => by cases e; rfl
  | e :: es, _, ⟨u, r, q, hv, hr⟩ => by
    subst q
    unfold ddel without
    rw [List.filter_cons, List.filter_cons]
    by_cases z : e.1 = k
    · simp only [z, ne_eq, not_true_eq_false, decide_false, Bool.false_eq_true, if_false]; exact kv_del hr
    · simp only [z, ne_eq, not_false_eq_true, decide_true, if_true]; exact ⟨u, _, rfl, hv, kv_del hr⟩
theorem kv_len {h : Heap} : ∀ {es : List (Int × V)} {kvs : List (Int × Value)}, KV h es kvs → kvs.length = es.length
  | [], _, e => by cases e; rfl
  | e :: es, _, ⟨u, r, q, hv, hr⟩ => by subst q; simp [kv_len hr]
theorem kv_at {h : Heap} : ∀ {es : List (Int × V)} {kvs : List (Int × Value)}, KV h es kvs → ∀ {i : Nat} {e : Int × V}, es[i]? = some e → ∃ v, kvs[i]? = some (e.1, v) ∧ VR h e.2 v
  | [], _, _, _, _, q => by simp at q
  | e :: es, _, ⟨u, r, q, hv, hr⟩, i, e', z => by
    subst q
    cases i with
    | zero => simp only [List.getElem?_cons_zero, Option.some.injEq] at z ⊢; subst z; exact ⟨u, rfl, hv⟩
    | succ j => simp only [List.getElem?_cons_succ] at z ⊢; exact kv_at hr z
section
variable {g : G} {F : Fm} {m : Loc} {H : AH} {s : Shared} {X : Value → List V → Loc → AH → Prop} {Q : V → Loc → AH → Prop}
theorem St.dictAt {d : Addr} {es : List (Int × V)} {ep : Nat} (S : St g F m H s) (hd : H d = some (.dict es ep)) : ∃ kvs, s.heap.DictAt (intKind g.prog g.w) d kvs ep ∧ KV s.heap es kvs := (S.obj d _ hd).2
theorem St.notMods {d : Addr} {o : O} (S : St g F m H s) (hd : H d = some o) : (d == sysModules) = false := by
  have h1 := (S.obj d o hd).1
  obtain ⟨x, hx⟩ := g.sysm
  refine beq_eq_false_iff_ne.mpr fun q => ?_
  subst q; rw [hx] at h1; cases h1
theorem e_dict0 {pos : Pos} (h : ∀ d, H d = none → Q (.ref d) m (put H d (.dict [] 0))) : WE g F (eval (.Dict [] [] pos) F.env) m H Q X := fun s S => by
  refine wpAny_Dict_empty ?_
  have n : s.heap.get? s.heap.objs.size = none := Heap.get?_none_of_le (Nat.le_refl _)
  obtain ⟨S', K'⟩ := S.new (t := s.toks) (h' := s.heap.push { cls := .type "dict", data := .dict #[] }) (o' := .dict [] 0) (fun _ _ e => Heap.get?_push_of_some _ e) n
    ⟨[], ⟨_, #[], Heap.get?_push_size _ rfl, ⟨rfl, rfl, rfl⟩, rfl, (fun _ he => by simp at he), .nil, List.nodup_nil⟩, rfl⟩
  exact ⟨.ref _, m, _, .ref' _, S', K', h _ (S.untracked n)⟩
theorem c_dget {d : Addr} {es : List (Int × V)} {ep : Nat} {k : Int} (hd : H d = some (.dict es ep)) (h : Q ((dget es k).getD .none) m H) : WC g F (.builtin "dict.get") [.ref d, .int k] m H Q X := wc2 fun s v u S r r' => by
  rw [VR.ref_iff] at r; subst r; rw [VR.int_iff] at r'; obtain ⟨t, rfl⟩ := r'
  obtain ⟨kvs, D, r⟩ := S.dictAt hd
  have hm := D.dictOf.mapOf
  refine call_meetsIn PySem.F.slot_dict_get hm.typeIs PySem.F.entry_dict_get (PySem.F.args_dict_get_2 _ _) (meets_dict_get (intKind g.prog g.w) d (intKind_is g.prog g.w k t) (S.notMods hd)) ⟨_, hm, ?_⟩
  have z := kv_get (k := k) r
  show OkP g F VR Q s.heap H ((valueAt kvs k).getD .none) { s with toks := s.toks + 1 }
  cases q : dget es k with
  | none => rw [q] at z h; rw [z]; exact OkP.now S rfl rfl rfl .none' h
  | some x => rw [q] at z h; obtain ⟨v, e, rv⟩ := z; rw [e]; exact OkP.now S rfl rfl rfl rv h
theorem o_ditem {d : Addr} {es : List (Int × V)} {ep : Nat} {k : Int} {x : V} (hd : H d = some (.dict es ep)) (hx : dget es k = some x) (h : Q x m H) : W2 g F VR (.ref d) (.int k) getItem m H Q X := fun s v u S r r' => by
  rw [VR.ref_iff] at r; subst r; rw [VR.int_iff] at r'; obtain ⟨t, rfl⟩ := r'
  obtain ⟨kvs, D, r⟩ := S.dictAt hd
  have z := kv_get (k := k) r
  rw [hx] at z
  obtain ⟨v, e, rv⟩ := z
  exact wpAny_getItem_of (intKind_is g.prog g.w k t) D.dictOf.mapOf e (OkP.now S rfl rfl rfl rv h)
theorem gi_dict {d : Addr} {es : List (Int × V)} {ep : Nat} {i : V} (hd : H d = some (.dict es ep)) (h : W2 g F VR (.ref d) i getItem m H Q X) : GI g F (.ref d) i m H Q X :=
  ⟨"dict", _, PySem.F.slot_dict_getitem.lookup, fun s v S r => by rw [VR.ref_iff] at r; subst r; obtain ⟨kvs, D, _⟩ := S.dictAt hd; exact D.dictOf.typeIs, h⟩
theorem o_ind {d : Addr} {es : List (Int × V)} {ep : Nat} {k : Int} (hd : H d = some (.dict es ep)) (h : Q (.bool (dget es k).isSome) m H) : W2 g F VR (.int k) (.ref d) (compareOp .In) m H Q X := fun s v u S r' r => by
  rw [VR.ref_iff] at r; subst r; rw [VR.int_iff] at r'; obtain ⟨t, rfl⟩ := r'
  obtain ⟨kvs, D, r⟩ := S.dictAt hd
  have z := kv_get (k := k) r
  refine wpAny_in_of (intKind_is g.prog g.w k t) (S.notMods hd) D.dictOf.mapOf (OkP.now S rfl rfl rfl ?_ h)
  cases q : dget es k with
  | none => rw [q] at z; rw [z]; exact .bool' _
  | some x => rw [q] at z; obtain ⟨v, e, rv⟩ := z; rw [e]; exact .bool' _
theorem St.dictPut {d : Addr} {es es' : List (Int × V)} {ep : Nat} {h' : Heap} {kvs' : List (Int × Value)} {t : Nat} (S : St g F m H s) (hd : H d = some (.dict es ep)) (hs : Heap.SameBut d s.heap h') (D' : h'.DictOf (intKind g.prog g.w) d kvs') (r : KV s.heap es' kvs') :
    ∃ ep', St g F m (put H d (.dict es' ep')) { s with heap := h', toks := t } ∧ Keep F s.heap H h' (put H d (.dict es' ep')) := by
  obtain ⟨ep', D''⟩ := D'.dictAt
  obtain ⟨o, es₀, e, hc, hdt, r0⟩ := id D''
  obtain ⟨kvs, ⟨o₀, es₁, e₀, hc₀, _⟩, _⟩ := S.dictAt hd
  have C : Chg (· = d) s.heap h' := .sameBut hs e fun _ _ _ _ _ => ⟨_, _, hdt⟩
  refine ⟨ep', S.set C hd ⟨kvs', D'', KV.mono ⟨fun b o i eb => C.same b o eb fun q => ?_, C.dct⟩ _ _ r⟩⟩
  subst q; rw [e₀] at eb; cases eb; have := i.cls; rw [hc₀.1] at this; cases this
theorem o_dset {d : Addr} {es : List (Int × V)} {ep : Nat} {k : Int} {x : V} {Q : Loc → AH → Prop} (hd : H d = some (.dict es ep)) (hz : es.length ≤ 16000000) (h : ∀ ep', Q m (put H d (.dict (dput es k x) ep'))) :
    W3 g F EqR (.ref d) (.int k) x (fun ov iv v => setItem ov iv v) m H (fun (_ : Unit) m H => Q m H) X := fun s v u w S r r' rx => by
  rw [VR.ref_iff] at r; subst r; rw [VR.int_iff] at r'; obtain ⟨t, rfl⟩ := r'
  obtain ⟨kvs, D, r⟩ := S.dictAt hd
  refine wpAny_setItem_pairs (intKind_is g.prog g.w k t) D.dictOf (fun h' D' hs => ?_) (by rw [kv_len r, sizeLine_eq]; omega)
  obtain ⟨ep', S', K'⟩ := S.dictPut (t := s.toks + 1) hd hs D' (kv_put rx r)
  exact ⟨(), m, _, rfl, S', K', h ep'⟩
theorem o_ddel {d : Addr} {es : List (Int × V)} {ep : Nat} {k : Int} {x : V} {Q : Loc → AH → Prop} (hd : H d = some (.dict es ep)) (hz : es.length ≤ 16000000) (hx : dget es k = some x) (h : ∀ ep', Q m (put H d (.dict (ddel es k) ep'))) :
    W2 g F EqR (.ref d) (.int k) (fun ov iv => delItem ov iv) m H (fun (_ : Unit) m H => Q m H) X := fun s v u S r r' => by
  rw [VR.ref_iff] at r; subst r; rw [VR.int_iff] at r'; obtain ⟨t, rfl⟩ := r'
  obtain ⟨kvs, D, r⟩ := S.dictAt hd
  have hT := D.dictOf.typeIs
  have z := kv_get (k := k) r
  rw [hx] at z
  obtain ⟨v, e, rv⟩ := z
  refine wpAny_delItem_slot hT (by decide) PySem.F.slot_dict_delitem (wpAny_call_entry PySem.F.slot_dict_delitem hT PySem.F.entry_dict_delitem ?_ (PySem.F.args_dict_delitem_2 _ _))
  unfold Builtin.«dict.__delitem__»
  refine wpAny_bind ?_
  unfold Builtin.Dict.dictSlotArgs
  refine wpAny_bind (wpAny_notOrdered_dict hT ?_)
  show wpAny _ _ (pure (Value.ref d, Value.int k t)) _ _ s
  refine wpAny_pure ?_
  show wpAny _ _ (Builtin.Dict.takeOut d (.int k t) >>= _) _ _ s
  refine wpAny_bind (wpAny_takeOut_pairs (intKind_is g.prog g.w k t) D.dictOf (fun q => by rw [e] at q; cases q) (fun en hk hv h' D' hs => ?_) (by rw [kv_len r, sizeLine_eq]; omega))
  obtain ⟨ep', S', K'⟩ := S.dictPut (t := s.toks + 1) hd hs D' (kv_del r)
  exact wpAny_bind (wpAny_letGo (wpAny_pure ⟨_, rfl, (), m, _, rfl, S', K', h ep'⟩))
theorem int_scan (k : Int) (t : Tok) : (Value.int k t).scannable = true := rfl
theorem c_set0 (h : ∀ a, H a = none → Q (.ref a) m (put H a (.set (fun _ => false) 0))) : WC g F (.type "set") [] m H Q X := wc0 fun s S => by
  refine call_set_0 fun led => ?_
  have n : s.heap.get? s.heap.objs.size = none := Heap.get?_none_of_le (Nat.le_refl _)
  obtain ⟨S', K'⟩ := S.new (t := s.toks) (h' := s.heap.push { cls := .type "set", dict := none, data := .set #[] 0 (.fresh 0 0 led) }) (o' := .set (fun _ => false) 0) (fun _ _ e => Heap.get?_push_of_some _ e) n ⟨_, Heap.get?_push_size _ rfl, setObjOf_fresh led⟩
  exact ⟨.ref _, m, _, .ref' _, S', K', h _ (S.untracked n)⟩
theorem o_inset {a : Addr} {T : Int → Bool} {n : Nat} {k : Int} (ha : H a = some (.set T n)) (hb : n < 4000) (h : Q (.bool (T k)) m H) : W2 g F VR (.int k) (.ref a) (compareOp .In) m H Q X := fun s v u S r' r => by
  rw [VR.ref_iff] at r; subst r; rw [VR.int_iff] at r'; obtain ⟨t, rfl⟩ := r'
  obtain ⟨o, e, hs⟩ := (S.obj a _ ha).2
  exact wpAny_inSet_of (intKind_is g.prog g.w k t) (int_scan k t) (hs.setOf e (by show n < 4096; omega)) (OkP.now S rfl rfl rfl (.bool' _) h)
theorem c_setadd {a : Addr} {T : Int → Bool} {n : Nat} {k : Int} (ha : H a = some (.set T n)) (hb : n < 4000) (h : Q .none m (put H a (.set (fun k' => T k' || decide (k' = k)) (if T k then n else n + 1)))) : WC g F (.builtin "set.add") [.ref a, .int k] m H Q X := wc2 fun s v u S r r' => by
  rw [VR.ref_iff] at r; subst r; rw [VR.int_iff] at r'; obtain ⟨t, rfl⟩ := r'
  obtain ⟨o, e, hs⟩ := (S.obj a _ ha).2
  refine call_set_add (intKind_is g.prog g.w k t) (int_scan k t) (hs.setOf e (by show n < 4096; omega)) (by show n + 1 < 4096; omega) fun h' hsb hS' => ?_
  obtain ⟨o', e', hs'⟩ := hS'.objOf
  obtain ⟨_, es, ep, tt, hd, _⟩ := id hs
  obtain ⟨_, es', ep', tt', hd', _⟩ := id hs'
  have C : Chg (· = a) s.heap h' := .sameBut hsb e' fun o₀ _ _ e₀ q => by rw [e] at e₀; cases e₀; rw [hd] at q; cases q
  obtain ⟨S', K'⟩ := S.set (t := s.toks + 1) C ha (o' := .set (fun k' => T k' || decide (k' = k)) (if T k then n else n + 1)) ⟨o', e', hs'⟩
  exact ⟨.none, m, _, .none', S', K', h⟩
theorem imm_off {it : Addr} {h h' : Heap} {o : Obj} {c : String} (e : h.get? it = some o) (hc : o.cls = .type c) (hi : immC (.type c) = false) (hs : Heap.SameBut it h h') : ∀ a o, Imm o → h.get? a = some o → h'.get? a = some o := fun a o' im ea =>
  (hs.2 a fun q => by subst q; rw [e] at ea; cases ea; have := im.cls; rw [hc, hi] at this; cases this).trans ea
theorem it_dict {d : Addr} {es : List (Int × V)} {ep : Nat} : Iterable g (.ref d) es.length (fun i => .int (es.getD i (0, .none)).1) (fun H => H d = some (.dict es ep)) := fun F m H s v S c r Q E h => by
  rw [VR.ref_iff] at r; subst r
  obtain ⟨kvs, D, hr⟩ := S.dictAt c
  have hlen := kv_len hr
  refine wpAny_pyIter_dict (S.notMods c) D (h _ (fun i h => h.IsKeyIter s.heap.objs.size d i es.length ep) (fun F' hh => ?_) rfl ⟨_, Heap.get?_push_size _ rfl, rfl, by rw [hlen]; rfl⟩)
  refine ⟨fun i h ⟨o, e, c, d⟩ => ⟨o, _, _, e, d, c, rfl, rfl⟩, fun i h h' ⟨o, e, r⟩ q _ => ⟨o, q.trans e, r⟩, fun i m H s Q E hi S p c hq => ?_, fun i s Q E p h => wpAny_pyIter_keyiter p h, fun m H s Q E S p c hq => ?_⟩
  · obtain ⟨kvs, D, hr⟩ := S.dictAt c
    obtain ⟨v, ev, rv⟩ := kv_at hr (List.getElem?_eq_getElem hi)
    rw [← kv_len hr] at p
    refine wpAny_pyNext_dict_item p D ev fun key h' hk p' hs => ?_
    obtain ⟨t, rfl⟩ := Value.isInt_shape hk
    refine hq h' s.toks _ ?_ (by rw [← kv_len hr]; exact p') (fun c o' e' n => (hs.2 c n).trans e')
    rw [List.getD_eq_getElem?_getD, List.getElem?_eq_getElem hi]
    exact .int' _ _
  · obtain ⟨kvs, D, hr⟩ := S.dictAt c
    rw [← kv_len hr] at p
    exact wpAny_pyNext_dict_end hh p D (List.getElem?_eq_none (Nat.le_refl _)) fun h' hs => hq h' s.toks fun c o' e' n => hs c o' n e'
theorem it_values {d : Addr} {es : List (Int × V)} {ep : Nat} : Iterable g (.view "dict_values" d) es.length (fun i => (es.getD i (0, .none)).2) (fun H => H d = some (.dict es ep)) := fun F m H s v S c r Q E h => by
  unfold VR at r
  obtain ⟨w, rfl, _, ew⟩ := r
  obtain ⟨kvs, D, hr⟩ := S.dictAt c
  have hlen := kv_len hr
  refine wpAny_pyIter_values ⟨_, ew, rfl, rfl⟩ D (h _ (fun i h => h.IsValIter s.heap.objs.size d i es.length ep) (fun F' hh => ?_) rfl ⟨_, Heap.get?_push_size _ rfl, rfl, by rw [hlen]; rfl⟩)
  refine ⟨fun i h ⟨o, e, c, d⟩ => ⟨o, _, _, e, d, c, rfl, rfl⟩, fun i h h' ⟨o, e, r⟩ q _ => ⟨o, q.trans e, r⟩, fun i m H s Q E hi S p c hq => ?_, fun i s Q E p h => wpAny_pyIter_valiter p h, fun m H s Q E S p c hq => ?_⟩
  · obtain ⟨kvs, D, hr⟩ := S.dictAt c
    obtain ⟨v, ev, rv⟩ := kv_at hr (List.getElem?_eq_getElem hi)
    rw [← kv_len hr] at p
    obtain ⟨oi, ei, ci, _⟩ := id p
    refine wpAny_pyNext_values_item p D ev fun h' p' hs => ?_
    refine hq h' s.toks _ ?_ (by rw [← kv_len hr]; exact p') (fun c o' e' n => (hs.2 c n).trans e')
    rw [List.getD_eq_getElem?_getD, List.getElem?_eq_getElem hi]
    exact rv.mono (imm_off ei ci rfl hs)
  · obtain ⟨kvs, D, hr⟩ := S.dictAt c
    rw [← kv_len hr] at p
    exact wpAny_pyNext_values_end hh p D (List.getElem?_eq_none (Nat.le_refl _)) fun h' hs => hq h' s.toks fun c o' e' n => hs c o' n e'
theorem c_values {d : Addr} {es : List (Int × V)} {ep : Nat} (hd : H d = some (.dict es ep)) (h : Q (.view "dict_values" d) m H) : WC g F (.builtin "dict.values") [.ref d] m H Q X := wc1 fun s v S r => by
  rw [VR.ref_iff] at r; subst r
  obtain ⟨kvs, D, hr⟩ := S.dictAt hd
  obtain ⟨S', K'⟩ := S.ext (t := s.toks) (h' := s.heap.push (viewObj "dict_values" d)) (fun _ _ e => Heap.get?_push_of_some _ e)
  refine call_meetsIn PySem.F.slot_dict_values D.dictOf.typeIs PySem.F.entry_dict_values (PySem.F.args_dict_values_1 _) (meets_dict_values (intKind g.prog g.w) d (S.notMods hd)) ⟨⟨_, D.dictOf⟩, .view "dict_values" d, m, H, ?_, S', K', h⟩
  unfold VR
  exact ⟨_, rfl, rfl, Heap.get?_push_size _ rfl⟩
def cut (xs : List V) (lo hi st : Option Int) : List V := (sliceRange (sliceBounds lo hi st xs.length).1 (sliceBounds lo hi st xs.length).2.1 (sliceBounds lo hi st xs.length).2.2).filterMap (xs[·]?)
theorem cut_are {h : Heap} {xs : List V} {vs : List Value} (r : VRs h xs vs) (is : List Nat) : VRs h (is.filterMap (xs[·]?)) (is.filterMap (vs[·]?)) := by
  induction is with
  | nil => exact .nil'
  | cons i is ih =>
    rw [List.filterMap_cons, List.filterMap_cons]
    cases q : xs[i]? with
    | none =>
      have : vs[i]? = none := by rw [List.getElem?_eq_none_iff] at q ⊢; rw [r.length]; exact q
      rw [this]; exact ih
    | some x => obtain ⟨v, e, rv⟩ := r.getElem? q; rw [e]; exact .cons rv ih
inductive PartV : V → Option Int → Prop
  | none : PartV .none none
  | int (i : Int) : PartV (.int i) (some i)
theorem PartV.is {h : Heap} {x : V} {v : Value} {o : Option Int} (p : PartV x o) (r : VR h x v) : IsPart v o := by
  cases p with
  | none => rw [VR.none_iff] at r; subst r; exact .none
  | int i => rw [VR.int_iff] at r; obtain ⟨t, rfl⟩ := r; exact .int i t
theorem p_none (h : Q .none m H) : WE g F (evalPart none F.env) m H Q X := fun s S => by rw [evalPart_none]; exact wpAny_pure (OkP.now S rfl rfl rfl .none' h)
theorem p_some {e : Expr} (h : WE g F (eval e F.env) m H Q X) : WE g F (evalPart (some e) F.env) m H Q X := h
theorem e_slice {o : Expr} {lower upper step : Option Expr} {p pos : Pos}
    (h : WE g F (eval o F.env) m H (fun a m H => WE g F (evalPart lower F.env) m H (fun l m H => WE g F (evalPart upper F.env) m H (fun u m H => WE g F (evalPart step F.env) m H (fun st m H =>
      ∃ b xs lo hi s', a = .ref b ∧ LA g H b xs ∧ xs.length ≤ 16000000 ∧ PartV l lo ∧ PartV u hi ∧ PartV st s' ∧ s' ≠ some 0 ∧ ∀ c, H c = none → Q (.ref c) m (put H c (.list (cut xs lo hi s')))) X) X) X) X) :
    WE g F (eval (.Subscript o (.Slice lower upper step p) pos) F.env) m H Q X := fun s S => by
  rw [eval_Subscript]
  refine wpAny_bind (h.run S (fun ov s₁ a m₁ H₁ r₁ S₁ k₁ h₁ => wpAny_bind (wpAny_holding (wpAny_Slice ?_))) fun _ _ x => x)
  refine h₁.run S₁ (fun lv s₂ l m₂ H₂ r₂ S₂ k₂ h₂ => ?_) fun _ _ x => x.after k₁
  have K₂ := k₁.trans k₂
  refine h₂.run S₂ (fun uv s₃ u m₃ H₃ r₃ S₃ k₃ h₃ => ?_) fun _ _ x => x.after K₂
  have K₃ := K₂.trans k₃
  refine h₃.run S₃ (fun sv s₄ st m₄ H₄ r₄ S₄ k₄ ⟨b, xs, lo, hi, s', e, hb, hz, pl, pu, ps, hn, h₄⟩ => ?_) fun _ _ x => x.after K₃
  have K₄ := K₃.trans k₄
  subst e
  have r₁' := ((r₁.keep S₁ k₂).keep S₂ k₃).keep S₃ k₄
  rw [VR.ref_iff] at r₁'; subst r₁'
  obtain ⟨vs, ep, e, rs⟩ := hb.at S₄
  have kp : ∀ b o, s₄.heap.get? b = some o → (s₄.heap.push { cls := .type "slice", data := .fields #[lv, uv, sv] }).get? b = some o := fun _ _ e => Heap.get?_push_of_some _ e
  obtain ⟨S₅, k₅⟩ := S₄.ext (t := s₄.toks) kp
  have hl : (s₄.heap.push { cls := .type "slice", data := .fields #[lv, uv, sv] }).IsList b vs.toArray := ⟨_, kp _ _ e, rfl, ep, rfl⟩
  have hT : Shared.TypeIs { s₄ with heap := s₄.heap.push { cls := .type "slice", data := .fields #[lv, uv, sv] } } (.ref b) "list" := hl.typeIs
  refine wpAny_bind (wpAny_standAt (wpAny_bind ?_))
  rw [getitemInPython_of_ne hT.not_modules]
  refine wpAny_bind (wpAny_specialOf hT list_getitem_lookup (wpAny_pure (wpAny_bind ?_)))
  have K₅ := K₄.trans k₅
  have fin : wpAny (model g.prog g.w) F.A (getItem (.ref b) (.ref s₄.heap.objs.size)) (fun r s₃ => wpAny (model g.prog g.w) F.A (letTemporaryGo o (.ref b) r >>= fun _ => pure r) (OkP g F VR Q s.heap H) (ErP g F X s.heap H) s₃) (ErP g F X s.heap H)
      { s₄ with heap := s₄.heap.push { cls := .type "slice", data := .fields #[lv, uv, sv] } } := by
    refine wpAny_getItem_list_slice hl (Heap.IsSliceOf.new ..) (pl.is r₂) (pu.is r₃) (ps.is r₄) hn (wpAny_bind (wpAny_letTemporaryGo (wpAny_pure ?_))) (by rw [List.size_toArray, rs.length, sizeLine_eq]; omega)
    have rc : VRs s₄.heap (cut xs lo hi s') (slicePick vs.toArray lo hi s').toList := by
      have := cut_are rs (sliceRange (sliceBounds lo hi s' xs.length).1 (sliceBounds lo hi s' xs.length).2.1 (sliceBounds lo hi s' xs.length).2.2)
      unfold slicePick cut
      simp only [List.size_toArray, rs.length, List.getElem?_toArray]
      exact this
    refine OkP.after K₅ (new_list S₅ (ys := cut xs lo hi s') (vs := (slicePick vs.toArray lo hi s').toList) (ep := 0) (fun _ _ e => Heap.get?_push_of_some _ e) (Heap.get?_none_of_le (Nat.le_refl _)) (Heap.get?_push_size _ rfl) ?_ h₄)
    exact rc.mono fun _ _ _ q => Heap.get?_push_of_some _ (kp _ _ q)
  cases step with
  | none => exact wpAny_operating fin
  | some st => exact wpAny_operating fin
theorem o_concat {a b : Addr} {xs ys : List V} (ha : LA g H a xs) (hb : LA g H b ys) (hz : xs.length + ys.length ≤ 16000000) (h : ∀ c, H c = none → Q (.ref c) m (put H c (.list (xs ++ ys)))) : W2 g F VR (.ref a) (.ref b) (binaryOp .Add) m H Q X := fun s v u S r r' => by
  rw [VR.ref_iff] at r r'; subst r r'
  obtain ⟨vs, ep, e, rs⟩ := ha.at S
  obtain ⟨ws, ep', e', rs'⟩ := hb.at S
  have kp : ∀ b o, s.heap.get? b = some o → (s.heap.push (lstObj (vs ++ ws) 0)).get? b = some o := fun _ _ e => Heap.get?_push_of_some _ e
  refine PySem.P.add_list (items := vs.toArray) (items2 := ws.toArray) e e' ?_ (by simp [rs.length, rs'.length, sizeLine_eq]; omega)
  rw [List.append_toArray]
  exact new_list S kp (Heap.get?_none_of_le (Nat.le_refl _)) (Heap.get?_push_size _ rfl) ((rs.append rs').mono fun _ _ _ q => kp _ _ q) h
end
end Mine
end
section
open PySem PySem.W PySem.Calls PyProof.Rows PySem.SeqAt
set_option linter.unusedVariables false
set_option maxRecDepth 100000
namespace Mine
section
variable {g : G} {F : Fm} {m : Loc} {H : AH} {s : Shared} {X : Value → List V → Loc → AH → Prop} {Q : Fl → Loc → AH → Prop}
theorem flies {h₀ : Heap} {H₀ : AH} {h' : Heap} {e : Addr} {cls : Value} {as : List V} {vs : List Value} {t : Nat} (S : St g F m H s) (K : Keep F h₀ H₀ s.heap H) (x : Heap.MadeExcOf s.heap h' e cls vs) (hc : immC cls = false) (r : VRs s.heap as vs) (q : X cls as m H) :
    ErP g F X h₀ H₀ (.ref e) { s with heap := h', toks := t } := by
  obtain ⟨S', K'⟩ := S.ext (t := t) x.keeps
  obtain ⟨T, h1, h2, h3⟩ := x.there
  refine ⟨cls, as, m, H, ?_, S', K.trans K', q⟩
  have n0 : h₀.get? e = none := by
    cases z : h₀.get? e with
    | none => rfl
    | some o => obtain ⟨o', w⟩ := K.alive e o z; rw [x.new] at w; cases w
  exact ⟨e, _, _, .ref T, rfl, n0, S.untracked x.new, h1, rfl, hc, rfl, rfl, .tup' h3 (r.mono fun _ _ _ q => x.keeps _ _ q), .inl rfl⟩
theorem s_raise {cls newId initId : String} (FC : ExcCallFacts cls newId initId) (FR : ExcRaiseFacts cls) {x : Str} {np cpos pos : Pos} {args : List Expr} (hh : F.A.handled = none) (hc : immC (.type cls) = false)
    (hk : F.env.kindOf x = some .globalImplicit) (hv : nsIn g.K mainGlobals x = some none) (hb : g.mb x = some (.type cls))
    (h : WL g F (spliced (backTo cpos (starEach args F.env))) m H (fun as m H => as.length ≤ 1000 ∧ X (.type cls) as m H) X)
    (hp : (backTo cpos (starEach args F.env)).any (·.1) = false := by rfl) (hd : (x == ("__debug__" : Str)) = false := by decide) : WS g F (exec (.Raise (some (.Call (.Name x np) args [] cpos)) none pos) F.env) m H Q X := fun s S => by
  refine wpAny_Raise_call FC FR hh hp ((e_blt (X := X) (pos := np) (Q := fun a m' H' => a = .cst (.type cls) ∧ m' = m ∧ H' = H) hk hv hb ⟨rfl, rfl, rfl⟩ hd).run S (fun f s₁ a m₁ H₁ r₁ S₁ k₁ ⟨e1, e2, e3⟩ => ?_) fun _ _ x => x)
  subst e1 e2 e3
  rw [VR.cst_iff] at r₁
  refine ⟨r₁, evalArgs_all hp (h.run S₁ (fun vs s₂ as m₂ H₂ r₂ S₂ k₂ ⟨hl, q⟩ => ⟨rfl, ?_, fun h' e hm => ?_⟩) fun _ _ x => x.after k₁)⟩
  · show vs.length ≤ _; rw [r₂.length, sizeLine_eq]; omega
  · exact flies S₂ (k₁.trans k₂) hm.of hc r₂ q
theorem s_raise_own {x : Str} {C : Addr} {B newId initId : String} {bm : List Value} (O : OwnCls x C bm newId g.mg g.B) (FB : ExcBaseFacts B newId initId bm) {np cpos pos : Pos} {args : List Expr} (hh : F.A.handled = none)
    (hk : F.env.kindOf x = some .globalImplicit)
    (h : WL g F (spliced (backTo cpos (starEach args F.env))) m H (fun as m H => as.length ≤ 1000 ∧ X (.ref C) as m H) X)
    (hp : (backTo cpos (starEach args F.env)).any (·.1) = false := by rfl) (hd : (x == ("__debug__" : Str)) = false := by decide) : WS g F (exec (.Raise (some (.Call (.Name x np) args [] cpos)) none pos) F.env) m H Q X := fun s S => by
  obtain ⟨tl, N, nm, q, bs, hdct, sn, sub, ab, col, dd, k0, k1, k2, k3, k5, mN, hC, hN, hni, T⟩ := O.obj
  refine wpAny_Raise_call_subT (C := C) (nm := nm) (q := q) (N := N) (bs := bs) (bm := tl) (hdct := hdct) (sn := sn) (sub := sub) (ab := ab) (col := col) (dd := dd) (k0 := k0) (k1 := k1) (k2 := k2) (k3 := k3) (k5 := k5) FB (mN := mN) (T.hasType FB.hasBase) hh hp hni ?_
  refine wpAny_Name ?_ hd
  rw [loadName_read S.loc.kind hk]
  unfold loadGlobal
  rw [S.envg.1]
  refine wpAny_bind (wpAny_nsGet (g.glob.keeps S.base) ?_)
  rw [O.bound]
  refine wpAny_pure ⟨rfl, evalArgs_all hp (h.run S (fun vs s₂ as m₂ H₂ r₂ S₂ k₂ ⟨hl, q⟩ => ⟨rfl, ?_, S₂.base _ _ hC, hN.keeps S₂.base, T.keeps S₂.base, fun h' e hm => ?_⟩) fun _ _ x => x)⟩
  · show vs.length ≤ _; rw [r₂.length, sizeLine_eq]; omega
  · exact flies S₂ k₂ hm rfl r₂ q
structure Catches (g : G) (spec c : Value) (b : Bool) : Prop where
  tup : Looks (model g.prog g.w) g.B (isInstance spec (.type "tuple")) false
  typ : Looks (model g.prog g.w) g.B (isType spec) true
  exc : subIn g.K spec (.type "BaseException") = some true
  sub : subIn g.K c spec = some b
theorem matches_look {h : Heap} {a : Addr} {o : Obj} {spec : Value} {b : Bool} (B : g.B.StaysIn h) (C : Catches g spec o.cls b) (ha : h.get? a = some o) : Looks (model g.prog g.w) h (excMatches (.ref a) spec) b := by
  have X : g.K.In h := g.kin.keeps B
  have L1 : Looks (model g.prog g.w) h (isInstance spec (.type "tuple")) false := C.tup.keeps B
  have L2 : Looks (model g.prog g.w) h (isType spec) true := C.typ.keeps B
  have L3 : Looks (model g.prog g.w) h (isSubtype spec (.type "BaseException")) true := looks_subIn X C.exc
  have L4 : Looks (model g.prog g.w) h (typeOf (.ref a)) o.cls := (Looks.ld ha).andThen .now
  have L5 : Looks (model g.prog g.w) h (isSubtype o.cls spec) b := looks_subIn X C.sub
  have L6 : Looks (model g.prog g.w) h (isExcClass spec) true := by
    unfold isExcClass
    exact L2.andThen L3
  intro A Q E s k q
  unfold excMatches
  refine wpAny_bind (L1 A _ E s k ?_)
  refine wpAny_bind (wpAny_pure ?_)
  simp only [List.forIn_cons, List.forIn_nil, bind_assoc, pure_bind]
  refine wpAny_bind (L6 A _ E s k ?_)
  simp only [Bool.not_true, Bool.false_eq_true, if_false, pure_bind, bind_assoc]
  refine wpAny_bind (L4 A _ E s k ?_)
  refine wpAny_bind (L5 A _ E s k ?_)
  cases b
  · simp only [Bool.false_eq_true, if_false, pure_bind]; exact wpAny_pure q
  · simp only [if_true, pure_bind]; exact wpAny_pure q
end
end Mine
end
section
open PySem PySem.W PySem.Calls PyProof.Rows PySem.SeqAt
set_option linter.unusedVariables false
set_option maxRecDepth 100000
namespace Mine
section
variable {g : G} {F : Fm} {m : Loc} {H : AH} {s : Shared} {X : Value → List V → Loc → AH → Prop} {Q : Fl → Loc → AH → Prop}
def Fm.mark (F : Fm) (e : Value) : Fm := { F with A := F.A.mark (some e) }
theorem St.mark {e : Value} (S : St g F m H s) : St g (F.mark e) m H s := ⟨S.base, S.obj, ⟨S.loc.kind, S.loc.val, S.loc.cell, S.loc.apart⟩, S.locm, S.mine, S.frs, S.frd, S.frame, S.Afr, S.gens, S.os, S.room, S.envg⟩
theorem St.unmark {e : Value} (S : St g (F.mark e) m H s) : St g F m H s := ⟨S.base, S.obj, ⟨S.loc.kind, S.loc.val, S.loc.cell, S.loc.apart⟩, S.locm, S.mine, S.frs, S.frd, S.frame, S.Afr, S.gens, S.os, S.room, S.envg⟩
theorem Keep.unmark {e : Value} {h h' : Heap} {H H' : AH} (K : Keep (F.mark e) h H h' H') : Keep F h H h' H' := ⟨K.alive, K.dct, K.same⟩
theorem Keep.mark {e : Value} {h h' : Heap} {H H' : AH} (K : Keep F h H h' H') : Keep (F.mark e) h H h' H' := ⟨K.alive, K.dct, K.same⟩
def WH (g : G) (F : Fm) (hs : List ExceptHandler) (c : Value) (as : List V) (m : Loc) (H : AH) (Q : Fl → Loc → AH → Prop) (X : Value → List V → Loc → AH → Prop) : Prop :=
  ∀ h₀ H₀ s e, St g F m H s → Keep F h₀ H₀ s.heap H → g.B.StaysIn h₀ → FlyT h₀ e c as s.heap H → wpAny (model g.prog g.w) F.A (handleBy e F.env hs) (OkP g F FR Q h₀ H₀) (ErP g F X h₀ H₀) s
abbrev kExc (g : G) (F : Fm) (hs : List ExceptHandler) (Q : Fl → Loc → AH → Prop) (X : Value → List V → Loc → AH → Prop) : Value → List V → Loc → AH → Prop := fun c as m H => WH g F hs c as m H Q X
theorem s_try {body orelse : List Stmt} {h₀ : ExceptHandler} {hs : List ExceptHandler} {pos : Pos} (hst : F.stack ≠ [])
    (h : WS g F (execs body F.env) m H (kTail g F orelse Q X) (kExc g F (h₀ :: hs) Q X)) :
    WS g F (exec (.Try body (h₀ :: hs) orelse [] pos) F.env) m H Q X := fun s S => by
  refine wpAny_Try_except (wpAny_mono (h s S) (fun f s₁ yy => yy.elim fun f' m₁ H₁ r₁ S₁ k₁ h₁ => ?_) fun e s₁ yy => yy.elim fun c as m₁ H₁ f₁ S₁ k₁ h₁ => ?_)
  · cases f' with
    | next => cases r₁; exact h₁.run S₁ (fun _ _ b m H r S' k q => ⟨b, m, H, r, S', k₁.trans k, q⟩) (fun _ _ x => x.after k₁)
    | brk => cases r₁; exact ⟨.brk, m₁, H₁, rfl, S₁, k₁, h₁⟩
    | cont => cases r₁; exact ⟨.cont, m₁, H₁, rfl, S₁, k₁, h₁⟩
    | ret x => obtain ⟨v, rfl, rv⟩ := r₁; exact ⟨.ret x, m₁, H₁, ⟨v, rfl, rv⟩, S₁, k₁, h₁⟩
  · refine note S₁ k₁ S.base f₁ (S₁.frameL hst) fun s₂ S₂ k₂ f₂ => flight S₂ k₂ S.base f₂ fun s₃ S₃ k₃ f₃ => ?_
    exact h₁ s.heap H s₃ e S₃ k₃ S.base f₃
theorem h_nil {c : Value} {as : List V} (h : X c as m H) : WH g F [] c as m H Q X := fun h₀ H₀ s e S K B0 f => by
  refine wpAny_handleBy_nil ?_
  unfold PySem.passOn
  have f' := f
  obtain ⟨a, o, vs, v, T, oT, ts, x, rfl, h2, h3, h4, h5, h6, h7, h8, h9, t1, t2, t3, t4, t5, t6, t7, t8⟩ := f
  refine wpAny_bind (wpAny_field h4 h7 t1 ?_)
  rw [if_neg (show ¬ ((Value.ref T == Value.none) = true) from by simp)]
  exact wpAny_bind (flight S K B0 f' fun s' S' K' f'' => wpAny_throw ⟨c, as, m, H, f''.fly, S', K', h⟩)
def Spec (g : G) (F : Fm) (t : Expr) (m : Loc) (H : AH) (spec : Value) : Prop := ∀ e, WE g (F.mark e) (eval t F.env) m H (fun a m' H' => a = .cst spec ∧ m' = m ∧ H' = H) (fun _ _ _ _ => False)
theorem spec_glob {x : Str} {pos : Pos} {v : Value} (hk : F.env.kindOf x = some .globalImplicit) (hv : nsIn g.K mainGlobals x = some (some v)) (hd : (x == ("__debug__" : Str)) = false := by decide) : Spec g F (.Name x pos) m H v := fun e => e_glob (F := F.mark e) hk hv (fun _ => .cst' v) ⟨rfl, rfl, rfl⟩ hd
theorem spec_blt {x : Str} {pos : Pos} {v : Value} (hk : F.env.kindOf x = some .globalImplicit) (hv : nsIn g.K mainGlobals x = some none) (hb : g.mb x = some v) (hd : (x == ("__debug__" : Str)) = false := by decide) : Spec g F (.Name x pos) m H v := fun e => e_blt (F := F.mark e) hk hv hb ⟨rfl, rfl, rfl⟩ hd
theorem FlyT.keep {h₀ : Heap} {H' : AH} {e c : Value} {as : List V} {s' : Shared} (S : St g F m H s) (K : Keep F s.heap H s'.heap H') (f : FlyT h₀ e c as s.heap H) : FlyT h₀ e c as s'.heap H' := by
  obtain ⟨a, o, vs, v, T, oT, ts, x, rfl, h2, h3, h4, h5, h6, h7, h8, h9, t1, t2, t3, t4, t5, t6, t7, t8⟩ := f
  have off : ∀ b ob ws, s.heap.get? b = some ob → ob.data = .fields ws → H b = none → H' b = none ∧ s'.heap.get? b = some ob := fun b ob ws e d n => by
    have nm : b ∉ F.mine := fun q => by
      obtain ⟨_, _, o', e', w⟩ := S.mine b q
      rw [e] at e'; cases e'
      rcases w with ⟨_, _, w⟩ | ⟨_, w⟩ <;> rw [d] at w <;> cases w
    have nf : b ∉ F.fr := fun q => by
      obtain ⟨_, o', es, ep, e', w⟩ := S.frd b q
      rw [e] at e'; cases e'; rw [d] at w; cases w
    obtain ⟨n', z⟩ := K.same b ob e n nm
    rcases z with z | ⟨z, _⟩
    · exact ⟨n', z⟩
    · exact absurd z nf
  obtain ⟨q1, q2⟩ := off a o vs h4 h7 h3
  obtain ⟨q3, q4⟩ := off T oT ts t5 t7 t4
  exact ⟨a, o, vs, v, T, oT, ts, x, rfl, h2, q1, q2, h5, h6, h7, h8, h9.mono (K.mono S).tup, t1, t2, t3, q3, q4, t6, t7, t8⟩
theorem h_test {c spec : Value} {as : List V} {b : Bool} {t : Expr} {name : Option Str} {body : List Stmt} {pos : Pos} {rest : List ExceptHandler} {h₀ : Heap} {H₀ : AH} {e : Value} (hsp : Spec g F t m H spec) (hc : Catches g spec c b) (S : St g F m H s) (K : Keep F h₀ H₀ s.heap H) (B0 : g.B.StaysIn h₀) (f : FlyT h₀ e c as s.heap H)
    (h : ∀ s₁, St g F m H s₁ → Keep F h₀ H₀ s₁.heap H → FlyT h₀ e c as s₁.heap H →
      if b then codeAny (model g.prog g.w) (F.mark e).A (.handlers e [.ExceptHandler none name body pos] F.env) (fun r s₂ => match r with
          | .ok f => (match name with
            | none => OkP g F FR Q h₀ H₀ f s₂
            | some n => wpAny (model g.prog g.w) F.A (do bindName F.env n .none; unbindBehindTheSuite F.env n pos) (fun _ s₃ => OkP g F FR Q h₀ H₀ f s₃) (ErP g F X h₀ H₀) s₂)
          | .error x => cameBackBy (model g.prog g.w) F.A F.env (ErP g F X h₀ H₀) x s₂) s₁
      else wpAny (model g.prog g.w) F.A (handleBy e F.env rest) (OkP g F FR Q h₀ H₀) (ErP g F X h₀ H₀) s₁) :
    wpAny (model g.prog g.w) F.A (handleBy e F.env (.ExceptHandler (some t) name body pos :: rest)) (OkP g F FR Q h₀ H₀) (ErP g F X h₀ H₀) s := by
  have hne : e ≠ byPass := by obtain ⟨a, o, vs, v, T, oT, ts, x, rfl, _⟩ := f; intro q; cases q
  refine wpAny_handleBy_cons (codeAny_handlers_test ?_) hne
  refine (hsp e).run S.mark (fun cv s₁ a m₁ H₁ r₁ S₁ k₁ ⟨e1, e2, e3⟩ => ?_) fun _ _ yy => yy.no
  subst e1 e2 e3
  rw [VR.cst_iff] at r₁
  subst r₁
  have S₁' := S₁.unmark
  have K₁ := K.trans k₁.unmark
  have f₁ := f.keep S k₁.unmark
  obtain ⟨ad, o, vs, v, T, oT, ts, x, rfl, h2, h3, h4, h5, h6⟩ := id f₁
  refine (matches_look S₁'.base (by rw [h5]; exact hc) h4).here ?_
  have z := h s₁ S₁' K₁ f₁
  cases b
  · exact z
  · exact z
theorem h_skip {c spec : Value} {as : List V} {t : Expr} {name : Option Str} {body : List Stmt} {pos : Pos} {rest : List ExceptHandler} (hsp : Spec g F t m H spec) (hc : Catches g spec c false) (h : WH g F rest c as m H Q X) :
    WH g F (.ExceptHandler (some t) name body pos :: rest) c as m H Q X := fun h₀ H₀ s e S K B0 f =>
  h_test hsp hc S K B0 f fun s₁ S₁ K₁ f₁ => h h₀ H₀ s₁ e S₁ K₁ B0 f₁
theorem h_take {c spec : Value} {as : List V} {t : Expr} {b₀ : Stmt} {body : List Stmt} {pos : Pos} {rest : List ExceptHandler} (hsp : Spec g F t m H spec) (hc : Catches g spec c true)
    (h : ∀ e, WS g (F.mark e) (execs (b₀ :: body) F.env) m H Q (fun _ _ _ _ => False)) : WH g F (.ExceptHandler (some t) none (b₀ :: body) pos :: rest) c as m H Q X := fun h₀ H₀ s e S K B0 f => by
  refine h_test hsp hc S K B0 f fun s₁ S₁ K₁ f₁ => codeAny_handlers_suite ?_
  refine flight (F := F.mark e) S₁.mark K₁.mark B0 f₁ fun s₂ S₂ K₂ f₂ => ?_
  refine (h e).run S₂ (fun fl s₃ fl' m₃ H₃ r₃ S₃ k₃ q => ⟨fl', m₃, H₃, r₃, S₃.unmark, (K₂.trans k₃).unmark, q⟩) fun _ _ yy => yy.no
def rem (H : AH) (a : Addr) : AH := fun b => if b = a then none else H b
theorem rem_put {H : AH} {a : Addr} {o : O} (h : H a = none) : rem (put H a o) a = H := by
  funext b; unfold rem put
  by_cases q : b = a
  · rw [if_pos q, q, h]
  · rw [if_neg q, if_neg q]
theorem rem_ne {H : AH} {a b : Addr} (h : b ≠ a) : rem H a b = H b := if_neg h
theorem St.rem {a : Addr} {h₀ : Heap} {H₀ : AH} (S : St g F m H s) (K : Keep F h₀ H₀ s.heap H) (n : h₀.get? a = none) : St g F m (rem H a) s ∧ Keep F h₀ H₀ s.heap (rem H a) := by
  have up : ∀ b o, Mine.rem H a b = some o → H b = some o := fun b o e => by
    unfold Mine.rem at e; split at e
    · cases e
    · exact e
  have dn : ∀ b, H b = none → Mine.rem H a b = none := fun b e => by
    unfold Mine.rem
    split
    · rfl
    · exact e
  refine ⟨⟨S.base, fun b o e => S.obj b o (up b o e), ⟨S.loc.kind, S.loc.val, fun x c hc => ⟨dn c (S.loc.cell x c hc).1, (S.loc.cell x c hc).2⟩, S.loc.apart⟩, S.locm, fun b hb => ⟨dn b (S.mine b hb).1, (S.mine b hb).2⟩, S.frs, fun b hb => ⟨dn b (S.frd b hb).1, (S.frd b hb).2⟩, S.frame, S.Afr, S.gens, S.os, S.room, S.envg⟩,
    K.alive, K.dct, fun b o e nb hb => ?_⟩
  obtain ⟨q1, q2⟩ := K.same b o e nb hb
  exact ⟨dn b q1, q2⟩
theorem n_unbind {n : Str} {pos : Pos} {a : V} (hx : F.env.kindOf n = some .local) (hm : m n = some a) {h₀ : Heap} {H₀ : AH} (S : St g F m H s) (K : Keep F h₀ H₀ s.heap H) {Q' : Unit → Shared → Prop} {E : Value → Shared → Prop} (h : ∀ s', St g F (delL m n) H s' → Keep F h₀ H₀ s'.heap H → (∀ b o, Imm o → s.heap.get? b = some o → s'.heap.get? b = some o) → Q' () s') :
    wpAny (model g.prog g.w) F.A (unbindBehindTheSuite F.env n pos) Q' E s := by
  obtain ⟨kd, ⟨mr, hn, hv⟩, cl, ap⟩ := S.loc
  obtain ⟨v, rv, q⟩ := hv n a hm
  have hmr : mr n = some v := by
    rcases q with ⟨_, q⟩ | ⟨q, _⟩
    · exact q
    · rw [hx] at q; rcases q with q | ⟨q, _⟩ <;> cases q
  unfold unbindBehindTheSuite
  refine wpAny_onRaise (wpAny_unbindName_local hx hn hmr (by rw [kd]; rfl) fun h' u hn' hs => ?_)
  obtain ⟨oL, esL, epL, eL, dL, rL⟩ := id hn'
  have C : Chg (· = F.env.locals) s.heap h' := .sameBut hs eL fun _ _ _ _ _ => ⟨_, _, dL⟩
  have cne : ∀ y c, F.env.cells.lookup y = some c → c ≠ F.env.locals := fun y c hy q => by
    obtain ⟨_, v₀, o, e, d⟩ := cl y c hy
    obtain ⟨o₂, es₂, ep₂, e₂, d₂, _⟩ := hn
    rw [q, e₂] at e; cases e; rw [d₂] at d; cases d
  have tup : ∀ a o, Imm o → s.heap.get? a = some o → h'.get? a = some o := fun a o i e => C.same a _ e fun q => by subst q; exact (S.tupFree i e).2.1 S.locm
  have L' : LocOk F (delL m n) H h' := ⟨kd, ⟨_, hn', fun y b hy => by
      unfold delL at hy
      by_cases q : y = n
      · rw [if_pos q] at hy; cases hy
      · rw [if_neg q] at hy
        obtain ⟨u', ru, z⟩ := hv y b hy
        refine ⟨u', ru.mono tup, ?_⟩
        rcases z with ⟨z1, z2⟩ | ⟨z1, c, z2, z3⟩
        · exact .inl ⟨z1, by rw [if_neg q]; exact z2⟩
        · exact .inr ⟨z1, c, z2, z3.sameBut hs (cne y c z2)⟩⟩,
    fun y c hy => ⟨(cl y c hy).1, let ⟨u, z⟩ := (cl y c hy).2; ⟨u, z.sameBut hs (cne y c hy)⟩⟩, ap⟩
  obtain ⟨S', k⟩ := S.own (t := s.toks) S.locm C ⟨_, eL, .inl ⟨_, _, dL⟩⟩ (fun _ _ _ _ _ => ⟨_, _, _, eL, dL⟩) L'
  exact h _ S' (K.trans k) tup
theorem h_take_as {c spec : Value} {as : List V} {t : Expr} {n : Str} {b₀ : Stmt} {body : List Stmt} {pos : Pos} {rest : List ExceptHandler} (hx : F.env.kindOf n = some .local) (hsp : Spec g F t m H spec) (hc : Catches g spec c true)
    (h : ∀ e a, H a = none → WS g (F.mark e) (execs (b₀ :: body) F.env) (setL m n (.ref a)) (put H a (.exc c as)) (fun f m' H' => Q f (delL (setL m' n .none) n) (rem H' a)) (fun _ _ _ _ => False)) : WH g F (.ExceptHandler (some t) (some n) (b₀ :: body) pos :: rest) c as m H Q X := fun h₀ H₀ s e S K B0 f => by
  refine h_test hsp hc S K B0 f fun s₁ S₁ K₁ f₁ => codeAny_handlers_suite_as ?_
  refine flight (F := F.mark e) S₁.mark K₁.mark B0 f₁ fun s₂ S₂ K₂ f₂ => ?_
  obtain ⟨a, o, vs, v, T, oT, ts, x, rfl, h2, h3, h4, h5, h6, h7, h8, h9, _⟩ := f₂
  have nm : a ∉ F.mine := fun q => by
    obtain ⟨_, _, o', e', w⟩ := S₂.mine a q
    rw [h4] at e'; cases e'
    rcases w with ⟨_, _, w⟩ | ⟨_, w⟩ <;> rw [h7] at w <;> cases w
  have nf : a ∉ F.fr := fun q => by
    obtain ⟨_, o', es, ep, e', w⟩ := S₂.frd a q
    rw [h4] at e'; cases e'; rw [h7] at w; cases w
  have nc : ∀ y, F.env.cells.lookup y ≠ some a := fun y hy => by
    obtain ⟨_, v', o', e', w⟩ := S₂.loc.cell y a hy
    rw [h4] at e'; cases e'; rw [h7] at w; cases w
  have hB : g.B.get? a = none := Keep.base S₂ K₂ B0 h2
  obtain ⟨S₃, K₃⟩ := S₂.track (o' := .exc c as) K₂ h2 hB h3 nm nf nc ⟨o, vs, v, h4, h5, h6, h7, h8, h9⟩
  refine wpAny_mono (n_store (F := F.mark (.ref a)) (X := fun _ _ _ _ => False) (Q := fun m' H' => m' = setL m n (.ref a) ∧ H' = put H a (.exc c as)) (.inl hx) ⟨rfl, rfl⟩ s₂ (.ref a) S₃ (.ref' a)) (fun _ s₄ yy => yy.elim fun _ m₄ H₄ _ S₄ k₄ ⟨e1, e2⟩ => ?_) fun _ _ yy => yy.no
  subst e1 e2
  refine (h (.ref a) a h3).run S₄ (fun fl s₅ fl' m₅ H₅ r₅ S₅ k₅ q => ?_) fun _ _ yy => yy.no
  have K₅ := ((K₃.trans k₄).trans k₅).unmark
  have S₅' := S₅.unmark
  show wpAny _ _ (do bindName F.env n .none; unbindBehindTheSuite F.env n pos) _ _ _
  refine wpAny_bind (wpAny_bindName (wpAny_mono (n_store (F := F) (X := fun _ _ _ _ => False) (a := .none) (Q := fun m' H' => m' = setL m₅ n .none ∧ H' = H₅) (.inl hx) ⟨rfl, rfl⟩ s₅ .none S₅' .none') (fun _ s₆ yy => yy.elim fun _ m₆ H₆ _ S₆ k₆ ⟨e1, e2⟩ => ?_) fun _ _ yy => yy.no))
  subst e1 e2
  refine n_unbind hx (a := .none) (by unfold setL; rw [if_pos rfl]) S₆ (K₅.trans k₆) fun s₇ S₇ K₇ tup => ?_
  obtain ⟨S₈, K₈⟩ := S₇.rem K₇ h2
  refine ⟨fl', _, _, ?_, S₈, K₈, q⟩
  cases fl' with
  | ret x => obtain ⟨v', rfl, rv⟩ := r₅; exact ⟨v', rfl, (rv.keep S₅' k₆).mono tup⟩
  | next => exact r₅
  | brk => exact r₅
  | cont => exact r₅
theorem x_args {a : Addr} {cls : String} {as : List V} {Q : V → Loc → AH → Prop} (FX : ExcAttrFacts cls) (ha : H a = some (.exc (.type cls) as)) (h : Q (.tup as) m H) : W1 g F VR (.ref a) (fun v => getAttr v "args" true) m H Q X := fun s v S r => by
  rw [VR.ref_iff] at r; subst r
  obtain ⟨o, vs, v, e, hc, hi, hd, h0, rv⟩ := (S.obj a _ ha).2
  obtain ⟨t0, ws, ep, rfl, e', r'⟩ := VR.tup_iff.mp rv
  obtain ⟨hh, gg, d, t, os⟩ := s
  exact args_attr FX e hc hd h0 (OkP.now S rfl rfl rfl rv h)
end
end Mine
end
section
open PySem PySem.W PySem.Calls PyProof.Rows PySem.SeqAt
set_option linter.unusedVariables false
set_option maxRecDepth 100000
namespace Mine
theorem ni_ga : typeLookup (.type "list_iterator") "__getattribute__" = pure (some (.builtin "object.__getattribute__")) := by rw [typeLookup_type, builtinLookup_eq_fast]; kernel_rfl
theorem ni_typ : typeOf (.builtin "list_iterator.__next__") = pure (.type "wrapper_descriptor") := by kernel_rfl
theorem wd_get : typeLookup (.type "wrapper_descriptor") "__get__" = pure (some (.builtin "wrapper_descriptor.__get__")) := by rw [typeLookup_type, builtinLookup_eq_fast]; kernel_rfl
theorem wd_set : typeLookup (.type "wrapper_descriptor") "__set__" = pure none := by rw [typeLookup_type, builtinLookup_eq_fast]; kernel_rfl
theorem wd_del : typeLookup (.type "wrapper_descriptor") "__delete__" = pure none := by rw [typeLookup_type, builtinLookup_eq_fast]; kernel_rfl
theorem wd_slot : Slot "wrapper_descriptor" "__get__" "wrapper_descriptor.__get__" :=
  .of (owner := "wrapper_descriptor") (n := "__get__") (by rw [typeLookup_type, builtinLookup_eq_fast]; kernel_rfl) (by decide +kernel) (by decide +kernel) (by decide +kernel)
    (by first | exact .inl (by decide +kernel) | exact .inr (by decide +kernel)) (by rw [isSubtype_type]; kernel_rfl)
theorem wd_entry : entryFor table "wrapper_descriptor.__get__" = some Builtin.«wrapper_descriptor.__get__» := entryFor_of_tree (by kernel_rfl)
theorem wd_args (a b c : Value) : argsOk "wrapper_descriptor.__get__" ⟨[a, b, c], []⟩ := by unfold argsOk; kernel_rfl
theorem ga_slot : Slot "list_iterator" "__getattribute__" "object.__getattribute__" :=
  .of (owner := "object") (n := "__getattribute__") (by rw [typeLookup_type, builtinLookup_eq_fast]; kernel_rfl) (by decide +kernel) (by decide +kernel) (by decide +kernel)
    (by first | exact .inl (by decide +kernel) | exact .inr (by decide +kernel)) (by rw [isSubtype_type]; kernel_rfl)
theorem ga_args (a b : Value) : argsOk "object.__getattribute__" ⟨[a, b], []⟩ := by unfold argsOk; kernel_rfl
section
variable {prog : Program} {w : World} {A : Around} {E : Value → Shared → Prop} {h : Heap} {g : Array GenState} {d : Drawn} {t : Nat} {os : OsState} {a l : Addr} {i : Nat}
theorem ni_bind {R : Result → Shared → Prop} (hx : h.get? a = some (iterObj l i)) (hq : R (.ok (.ret (.ref h.objs.size))) ⟨h.push (boundObj "list_iterator.__next__" a), g, d, t, os⟩) :
    codeAny (model prog w) A (.call (.builtin "wrapper_descriptor.__get__") ⟨[.builtin "list_iterator.__next__", .ref a, .type "list_iterator"], []⟩) R ⟨h, g, d, t, os⟩ := by
  have hT : (⟨h, g, d, t, os⟩ : Shared).TypeIs (.ref a) "list_iterator" := ⟨_, hx, rfl⟩
  have hT5 : (⟨h, g, d, t, os⟩ : Shared).TypeIs (.builtin "list_iterator.__next__") "wrapper_descriptor" := ni_typ
  refine codeAny_call_builtin wd_slot.plain wd_entry (wd_slot.check _ _ _ _ _ _ _ _ hT5 (wd_args _ _ _) ?_)
  unfold Builtin.«wrapper_descriptor.__get__»
  have f8 : isSubtype (.type "list_iterator") (.type (".".intercalate ("list_iterator.__next__".cutAt '.').dropLast)) = pure true := by
    have e0 : "list_iterator.__next__".cutAt '.' = ["list_iterator", "__next__"] := by first | rfl | decide +kernel
    rw [e0]
    have e1 : (".".intercalate (["list_iterator", "__next__"] : List String).dropLast) = "list_iterator" := by decide +kernel
    rw [e1, isSubtype_type]; kernel_rfl
  repeat (any_goals (first | assumption | wp_step))
open Builtin.ObjectAttr in
theorem ni_find {M : Model} (hx : h.get? a = some (iterObj l i)) : Looks M h (find (.ref a) (.type "list_iterator") "__next__") (.bind (.builtin "wrapper_descriptor.__get__") (.builtin "list_iterator.__next__")) := by
  intro A Q E s k q
  have hx' := k _ _ hx
  unfold find
  refine wpAny_bind (wpAny_of_eq slot_listiter_next.lookup ?_)
  refine wpAny_bind (m := getOf _) ?_
  unfold getOf specialOf
  refine wpAny_bind (wpAny_of_eq ni_typ (wpAny_of_eq wd_get ?_))
  refine wpAny_bind (m := dataDescriptor? _ _) ?_
  unfold dataDescriptor? takesStores specialOf
  refine wpAny_bind (wpAny_bind (wpAny_bind (wpAny_of_eq ni_typ (wpAny_of_eq wd_set ?_))))
  simp only [Option.isSome_none, Bool.false_eq_true, if_false]
  refine wpAny_bind (wpAny_bind (wpAny_of_eq ni_typ (wpAny_of_eq wd_del (wpAny_pure ?_))))
  simp only [Option.isSome_none, Bool.false_eq_true, if_false]
  refine wpAny_pure ?_
  unfold ownThenClass
  refine wpAny_bind ?_
  unfold inOwnDict Builtin.ObjectAttr.ownDict loadHead
  refine wpAny_bind (wpAny_bind (wpAny_loadPart hx' ?_))
  unfold instanceDict
  refine wpAny_bind (wpAny_loadPart hx' (wpAny_pure ?_))
  refine wpAny_pure ?_
  refine wpAny_bind (m := copiedAttributeGuard _ _) ?_
  unfold copiedAttributeGuard
  refine wpAny_of_eq (a := ()) ?_ ?_
  · rfl
  unfold byTheClass
  exact wpAny_bind (wpAny_rule (wpAny_pure q))
open Builtin.ObjectAttr in
theorem ni_get {Q : Value → Shared → Prop} (hx : h.get? a = some (iterObj l i))
    (hq : Q (.ref h.objs.size) ⟨h.push (boundObj "list_iterator.__next__" a), g, d, t + 1, os⟩) : wpAny (model prog w) A (getAttr (.ref a) "__next__" true) Q E ⟨h, g, d, t, os⟩ := by
  have L0 : Looks (model prog w) h (typeOf (.ref a)) (.type "list_iterator") := (Looks.ld hx).andThen .now
  have hT : (⟨h, g, d, t + 1, os⟩ : Shared).TypeIs (.ref a) "list_iterator" := ⟨_, hx, rfl⟩
  unfold getAttr getAttrBy
  refine wpAny_bind (wpAny_mkText (wpAny_holding (wpAny_bind (L0 _ _ _ _ (fun _ _ e => e) (wpAny_bind (wpAny_of_eq ni_ga ?_))))))
  dsimp only
  rw [if_neg (by decide)]
  unfold getAttrByItsOwn hookBefore
  rw [if_neg (by decide)]
  refine wpAny_bind (wpAny_pure (wpAny_bind (wpAny_attempt (wpAny_holding ?_))))
  unfold callGetattribute
  rw [if_neg (by decide)]
  unfold boundAndCalled
  rw [ga_slot.bind]
  refine wpAny_bind (wpAny_pure (wpAny_call (codeAny_call_builtin ga_slot.plain PySem.F.entry_object_getattribute (ga_slot.check _ _ _ _ _ _ _ _ hT (ga_args _ _) ?_))))
  unfold Builtin.«object.__getattribute__»
  refine wpAny_bind (wpAny_pure (wpAny_bind (wpAny_pure (wpAny_bind (L0 _ _ _ _ (fun _ _ e => e) (wpAny_bind (ni_find hx _ _ _ _ (fun _ _ e => e) ?_)))))))
  unfold bindTo
  dsimp only
  refine wpAny_bind (wpAny_holding (wpAny_call (ni_bind hx (wpAny_pure ?_))))
  exact wpAny_pure hq
theorem bound_call {s : Shared} {id : String} {self p : Addr} {B : Builtin} {R : Result → Shared → Prop} (ho : s.heap.get? p = some (boundObj id self)) (he : entryFor table id = some B) (hq : (Code.builtin id ⟨[.ref self], []⟩).quiet = true) (hc : checkBoundCall id ⟨[.ref self], []⟩ = pure ())
    (hw : A.under (.builtin id ⟨[.ref self], []⟩) = A.in1)
    (h : wpAny (model prog w) A.in1 (B ⟨[.ref self], []⟩) (fun fin s' => match fin with | .done f => R (.ok f) s' | .again c' => c'.quiet = true ∧ codeAny (model prog w) A c' R s') (fun e s' => R (.error e) s') s) : codeAny (model prog w) A (.call (.ref p) ⟨[], []⟩) R s := by
  obtain ⟨hh, g, dr, t, os⟩ := s
  refine codeAny_of_tree ?_
  show wpAny _ _ (callAny (.ref p) _) _ _ _
  dsimp only at ho
  refine nd_load ho ?_
  show wpAny _ _ (checkBoundCall id ⟨[.ref self], []⟩ >>= fun _ => again (.builtin id ⟨[.ref self], []⟩)) _ _ _
  refine wpAny_bind (wpAny_of_eq hc (wpAny_pure ⟨hq, codeAny_builtin he ?_⟩))
  rw [hw]; exact h
end
section
variable {g : G} {F : Fm} {m : Loc} {H : AH} {s : Shared} {X : Value → List V → Loc → AH → Prop} {Q : V → Loc → AH → Prop}
theorem c_iter {l : Addr} {xs : List V} (hl : H l = some (.list xs)) (h : ∀ it, H it = none → Q (.ref it) m (put H it (.iter l 0))) : WC g F (.builtin "iter") [.ref l] m H Q X := wc1 fun s v S r => by
  rw [VR.ref_iff] at r; subst r
  obtain ⟨vs, ep, e, rs⟩ := S.listAt hl
  refine call_function_entry (by decide +kernel) (by decide +kernel) kdk_entry_iter (kdk_args_iter _) ?_
  unfold Builtin.«iter»
  refine wpAny_bind (m := someArgs "iter" 1 2 _) (wpAny_of_eq (a := [Value.ref l]) (by first | rfl | kernel_rfl!) ?_)
  show wpAny _ _ (pyIter (.ref l) >>= _) _ _ _
  refine wpAny_bind (wpAny_pyIter_list (items := vs.toArray) ⟨_, e, rfl, ep, rfl⟩ ?_)
  have n : s.heap.get? s.heap.objs.size = none := Heap.get?_none_of_le (Nat.le_refl _)
  obtain ⟨S', K'⟩ := S.new (t := s.toks) (h' := s.heap.push (iterObj l 0)) (o' := .iter l 0) (fun _ _ e => Heap.get?_push_of_some _ e) n (Heap.get?_push_size _ rfl)
  exact wpAny_pure ⟨_, rfl, .ref _, m, _, .ref' _, S', K', h _ (S.untracked n)⟩
theorem x_next {it l : Addr} {i : Nat} (hi : H it = some (.iter l i)) (h : ∀ b, H b = none → Q (.ref b) m (put H b (.bound "list_iterator.__next__" it))) : W1 g F VR (.ref it) (fun v => getAttr v "__next__" true) m H Q X := fun s v S r => by
  rw [VR.ref_iff] at r; subst r
  have e : s.heap.get? it = some (iterObj l i) := (S.obj it _ hi).2
  have n : s.heap.get? s.heap.objs.size = none := Heap.get?_none_of_le (Nat.le_refl _)
  obtain ⟨S', K'⟩ := S.new (t := s.toks + 1) (h' := s.heap.push (boundObj "list_iterator.__next__" it)) (o' := .bound "list_iterator.__next__" it) (fun _ _ e => Heap.get?_push_of_some _ e) n (Heap.get?_push_size _ rfl)
  have fin : OkP g F VR Q s.heap H (.ref s.heap.objs.size) { s with heap := s.heap.push (boundObj "list_iterator.__next__" it), toks := s.toks + 1 } := ⟨.ref _, m, _, .ref' _, S', K', h _ (S.untracked n)⟩
  obtain ⟨hh, gg, d, t, os⟩ := s
  exact ni_get e fin
theorem app_at {xs ys : Array Value} {i : Nat} {v : Value} (h : xs[i]? = some v) : (xs ++ ys)[i]? = some v := by
  rw [Array.getElem?_append_left (Array.getElem?_eq_some_iff.mp h).1]; exact h
theorem ln_check (a : Value) : checkBoundCall "list_iterator.__next__" ⟨[a], []⟩ = pure () := by kernel_rfl
theorem ln_quiet (a : Value) : (Code.builtin "list_iterator.__next__" ⟨[a], []⟩).quiet = true := Code.quiet_builtin _ (by decide +kernel)
theorem ln_plain : plainId "list_iterator.__next__" = true := by decide +kernel
theorem e_callnext {fn : Expr} {pos : Pos} (hh : F.A.handled = none)
    (h : WE g F (eval fn F.env) m H (fun a m H => ∃ b it l i xs, a = .ref b ∧ H b = some (.bound "list_iterator.__next__" it) ∧ H it = some (.iter l i) ∧ H l = some (.list xs) ∧
      match xs[i]? with | some x => Q x m (put H it (.iter l (i + 1))) | none => X (.type "StopIteration") [] m (rem H it)) X)
    (he : eval (.Call fn [] [] pos) F.env = (eval fn F.env >>= fun f => callWith pos f [] (backTo pos (starEach [] F.env)) []) := by rfl) : WE g F (eval (.Call fn [] [] pos) F.env) m H Q X := fun s S => by
  rw [he]
  refine wpAny_bind (h.run S (fun v s₁ a m₁ H₁ r₁ S₁ k₁ ⟨b, it, l, i, xs, e, hb, hi, hl, hx⟩ => ?_) fun _ _ x => x)
  subst e
  rw [VR.ref_iff] at r₁; subst r₁
  have eb : s₁.heap.get? b = some (boundObj "list_iterator.__next__" it) := (S₁.obj b _ hb).2
  have ei : s₁.heap.get? it = some (iterObj l i) := (S₁.obj it _ hi).2
  obtain ⟨vs, ep, el, rs⟩ := S₁.listAt hl
  refine callWith_of (P := fun h => h.get? b = some (boundObj "list_iterator.__next__" it)) rfl (fun h e => ⟨.machine, .inr (.inl rfl), (Looks.ld (part := none) e).andThen .now⟩) (PySem.evalArgs_none ⟨eb, ?_⟩)
  refine wpAny_call (bound_call eb entry_listiter_next (ln_quiet _) (ln_check _) (Around.under_plainId ln_plain _) ?_)
  show wpAny _ _ (field (.ref it) 0 >>= _) _ _ s₁
  refine wpAny_bind (wpAny_field ei rfl (x := .ref l) rfl ?_)
  show wpAny _ _ (if (Value.ref l == Value.none) = true then _ else _) _ _ s₁
  rw [if_neg (show ¬ ((Value.ref l == Value.none) = true) from Bool.false_ne_true)]
  show wpAny _ _ (field (.ref it) 1 >>= _) _ _ s₁
  refine wpAny_bind (wpAny_field ei rfl (x := .int i 0) rfl ?_)
  show wpAny _ _ (seqItems? (.ref l) >>= _) _ _ s₁
  refine wpAny_bind (wpAny_seqItems el rfl ?_)
  simp only [Int.toNat_natCast, List.getElem?_toArray]
  cases q : xs[i]? with
  | some x =>
    rw [q] at hx
    obtain ⟨v, ev, rv⟩ := rs.getElem? q
    rw [ev]
    refine wpAny_bind (wpAny_setField ei rfl (by simp) ?_)
    have D' : (s₁.heap.update it (Obj.mapFields (·.setIfInBounds 1 (rawInt (i + 1))))).get? it = some (iterObj l (i + 1)) := by
      rw [Heap.get?_update_self _ ei rfl]
      rfl
    have C : Chg (· = it) s₁.heap (s₁.heap.update it (Obj.mapFields (·.setIfInBounds 1 (rawInt (i + 1))))) := .sameBut ⟨Heap.size_update .., fun b q => Heap.get?_update_other _ _ (Ne.symm q)⟩ D' fun o₀ _ _ e' q => by rw [ei] at e'; cases e'; cases q
    obtain ⟨S', K'⟩ := S₁.set (t := s₁.toks) C hi (o' := .iter l (i + 1)) D'
    exact wpAny_pure ⟨x, m₁, _, rv.mono (K'.mono S₁).tup, S', k₁.trans K', hx⟩
  | none =>
    rw [q] at hx
    have hv : vs[i]? = none := by rw [List.getElem?_eq_none_iff] at q ⊢; rw [rs.length]; exact q
    rw [hv]
    refine wpAny_bind (wpAny_rule (wpAny_bind (wpAny_setField ei rfl (by simp) ?_)))
    have D' : (s₁.heap.update it (Obj.mapFields (·.setIfInBounds 0 Value.none))).get? it = some { cls := .type "list_iterator", data := .fields #[.none, .int i 0] } := by
      rw [Heap.get?_update_self _ ei rfl]
      rfl
    have C : Chg (· = it) s₁.heap (s₁.heap.update it (Obj.mapFields (·.setIfInBounds 0 Value.none))) := .sameBut ⟨Heap.size_update .., fun b q => Heap.get?_update_other _ _ (Ne.symm q)⟩ D' fun o₀ _ _ e' q => by rw [ei] at e'; cases e'; cases q
    obtain ⟨S', K'⟩ := S₁.chg (t := s₁.toks) (H' := rem H₁ it) C (fun b e _ => by subst e; rw [hi]; rfl) (fun b => by
      by_cases z : b = it
      · exact .inr (.inr (by unfold rem; rw [if_pos z]))
      · rw [rem_ne z]; cases H₁ b <;> simp) (fun b o e => by
      by_cases z : b = it
      · unfold rem at e; rw [if_pos z] at e; cases e
      · rw [rem_ne z] at e; exact .inl ⟨e, z⟩)
    show wpAny _ _ (newExc (.type "StopIteration") [] >>= _) _ _ _
    refine wpAny_bind ?_
    simp only [newExc, newTuple]
    refine wpAny_bind (wpAny_newObj_type ?_ (by size_fits))
    refine wpAny_bind (m := firstArgMember _ _) (wpAny_of_eq (a := Value.none) (by first | rfl | (simp only [firstArgMember]; rfl)) ?_)
    refine wpAny_newObj_type ?_ (by size_fits)
    simp only [raiseNew]
    refine wpAny_bind (wpAny_handled ?_)
    rw [show F.A.in1.handled = none from hh]
    refine wpAny_bind (wpAny_pure (wpAny_throw ?_))
    have K₁ := k₁.trans K'
    have kp : ∀ b o, (s₁.heap.update it (Obj.mapFields (·.setIfInBounds 0 Value.none))).get? b = some o → (((s₁.heap.update it (Obj.mapFields (·.setIfInBounds 0 Value.none))).push { cls := .type "tuple", data := .seq #[] }).push { cls := .type "StopIteration", data := .fields (#[.ref (s₁.heap.update it (Obj.mapFields (·.setIfInBounds 0 Value.none))).objs.size, Value.none, Value.none, Value.none, Value.bool false, Value.none] ++ ownMembersOf (.type "StopIteration") []) }).get? b = some o :=
      fun b o e => Heap.get?_push_of_some _ (Heap.get?_push_of_some _ e)
    obtain ⟨S₂, K₂⟩ := S'.ext (t := s₁.toks) kp
    have nl := S'.lt (b := ((s₁.heap.update it (Obj.mapFields (·.setIfInBounds 0 Value.none))).push { cls := .type "tuple", data := .seq #[] }).objs.size) (by rw [Heap.size_push]; exact Nat.le_succ _)
    have n0 : s.heap.get? ((s₁.heap.update it (Obj.mapFields (·.setIfInBounds 0 Value.none))).push { cls := .type "tuple", data := .seq #[] }).objs.size = none := by
      cases z : s.heap.get? ((s₁.heap.update it (Obj.mapFields (·.setIfInBounds 0 Value.none))).push { cls := .type "tuple", data := .seq #[] }).objs.size with
      | none => rfl
      | some o =>
        obtain ⟨o', w⟩ := K₁.alive _ o z
        have := nl.2.2
        rw [show (s₁.heap.update it (Obj.mapFields (·.setIfInBounds 0 Value.none))).get? _ = some o' from w] at this
        cases this
    refine ⟨.type "StopIteration", [], m₁, rem H₁ it, ⟨_, _, _, .ref (s₁.heap.update it (Obj.mapFields (·.setIfInBounds 0 Value.none))).objs.size, rfl, n0, nl.1, Heap.get?_push_size _ rfl, rfl, rfl, rfl, ?_, ?_, .inl ?_⟩, S₂, K₁.trans K₂, hx⟩
    · exact app_at rfl
    · exact .tup' (vs := []) (ep := 0) (Heap.get?_push_of_some _ (Heap.get?_push_size _ rfl)) .nil'
    · exact app_at rfl
end
end Mine
end
section
open PySem PySem.W PySem.Calls PyProof.Rows PySem.SeqAt
set_option linter.unusedVariables false
set_option maxRecDepth 100000
namespace Mine
theorem wp_peek1 {α : Type} {K : Frag} {M : Model} {A : Around} {E : Value → Shared → Prop} {Q : α → Shared → Prop} {s : Shared} {o : Obj} {r : Addr → α} (X : K.In s.heap) (q : Q (r s.heap.objs.size) { s with heap := s.heap.push o }) :
    ∀ (t : Sem α) (g : Addr → Option α), peek1 K ⟨M.prog, M.w.params⟩ t = some (o, g) → (∀ D, g D = some (r D)) → wpAny M A t Q E s := by
  intro t
  induction t with
  | rule _ k ih => intro g e hg Γ p hΓ; exact ih () g e hg Γ p hΓ
  | point _ k ih => intro g e hg Γ p hΓ; exact ih () g e hg Γ p hΓ
  | ask k ih => intro g e hg Γ p hΓ; exact ih _ g e hg Γ p hΓ
  | load a _ k ih =>
    intro g e hg Γ p hΓ
    simp only [peek1] at e
    split at e
    · rename_i ob ho; exact ⟨ob, X _ _ ho, ih ob g e hg Γ p hΓ⟩
    · cases e
  | alloc ob k _ =>
    intro g e hg
    have e : some (ob, fun D => peek K ⟨M.prog, M.w.params⟩ (k D)) = some (o, g) := e
    obtain ⟨e1, e2⟩ := Prod.mk.inj (Option.some.inj e)
    subst e1
    subst e2
    have X' : K.In (s.heap.push ob) := X.keeps fun b x hb => Heap.get?_push_of_some _ hb
    show wpAny M A (alloc ob >>= k) Q E s
    refine wpAny_bind (wpAny_alloc ?_)
    exact (Looks.of_peek (M := M) (h := s.heap.push ob) X' (hg s.heap.objs.size)).here (s := { s with heap := s.heap.push ob }) q
  | _ => intro g e; cases e
theorem BR.append {h : Heap} : ∀ {as bs : List (Str × V)} {us vs : List (Str × Value)}, BR h as us → BR h bs vs → BR h (as ++ bs) (us ++ vs)
  | [], _, _, _, e, f => by cases e; exact f
  | _ :: _, _, _, _, ⟨v, r, e, hv, hr⟩, f => by subst e; exact ⟨v, _, rfl, hv, BR.append hr f⟩
theorem VRs.drop {h : Heap} : ∀ {xs : List V} {vs : List Value} (k : Nat), VRs h xs vs → VRs h (xs.drop k) (vs.drop k)
  | _, _, 0, r => by simpa using r
  | [], _, k + 1, r => by rw [VRs.nil_iff] at r; subst r; simpa using VRs.nil'
  | x :: xs, _, k + 1, r => by obtain ⟨v, r', rfl, _, rr⟩ := r.uncons; simpa using VRs.drop k rr
theorem len9 {α : Type} {P : List α → Prop} (h0 : P []) (h1 : ∀ a : α, P [a]) (h2 : ∀ a b : α, P [a, b]) (h3 : ∀ a b c : α, P [a, b, c]) (h4 : ∀ a b c d : α, P [a, b, c, d]) (h5 : ∀ a b c d e : α, P [a, b, c, d, e]) (h6 : ∀ a b c d e f : α, P [a, b, c, d, e, f]) (h7 : ∀ a b c d e f g : α, P [a, b, c, d, e, f, g]) (h8 : ∀ a b c d e f g h : α, P [a, b, c, d, e, f, g, h]) (h9 : ∀ a b c d e f g h i : α, P [a, b, c, d, e, f, g, h, i]) : ∀ l : List α, l.length ≤ 9 → P l := by
  intro l hl
  rcases l with _ | ⟨a, l⟩
  · exact h0
  rcases l with _ | ⟨b, l⟩
  · exact h1 _
  rcases l with _ | ⟨c, l⟩
  · exact h2 _ _
  rcases l with _ | ⟨d, l⟩
  · exact h3 _ _ _
  rcases l with _ | ⟨e, l⟩
  · exact h4 _ _ _ _
  rcases l with _ | ⟨f, l⟩
  · exact h5 _ _ _ _ _
  rcases l with _ | ⟨g, l⟩
  · exact h6 _ _ _ _ _ _
  rcases l with _ | ⟨h, l⟩
  · exact h7 _ _ _ _ _ _ _
  rcases l with _ | ⟨i, l⟩
  · exact h8 _ _ _ _ _ _ _ _
  rcases l with _ | ⟨j, l⟩
  · exact h9 _ _ _ _ _ _ _ _ _
  exact absurd hl (by simp)
section
variable {g : G} {F : Fm} {m : Loc} {H : AH} {s : Shared} {X : Value → List V → Loc → AH → Prop} {Q : V → Loc → AH → Prop}
theorem binds_var {fd : FuncData} {xs : List V} {pre : List (Str × V)} {vn : Str} {k : Nat} (rp : List Value → List (Str × Value))
    (e : ∀ vs S, vs.length = xs.length → ∃ gf, peek1 g.K S (bindArgs fd ⟨vs, []⟩) = some (tupObj (vs.drop k) 0, gf) ∧ ∀ D, gf D = some (rp vs ++ [(vn, .ref D)])) (hr : ∀ h vs, VRs h xs vs → BR h pre (rp vs)) :
    Binds g fd xs (pre ++ [(vn, .tup (xs.drop k))]) := fun A s vs E Q X hv hq => by
  obtain ⟨gf, e1, e2⟩ := e vs ⟨g.prog, g.w.params⟩ hv.length
  have kp : ∀ b o, s.heap.get? b = some o → (s.heap.push (tupObj (vs.drop k) 0)).get? b = some o := fun _ _ e => Heap.get?_push_of_some _ e
  refine wp_peek1 (M := model g.prog g.w) X (hq _ _ kp ?_) _ gf e1 e2
  refine ((hr _ _ hv).mono (fun _ _ _ e => kp _ _ e)).append ⟨_, [], rfl, .tup' (Heap.get?_push_size _ rfl) ((hv.drop k).mono fun _ _ _ e => kp _ _ e), rfl⟩
structure MethB (K : Frag) (C : Addr) (name : Str) (f : Addr) : Prop where
  plain : plainGet K C name = true
  dict : hasDictIn K C = true
  find : findIn K (.ref C) name = some (some (.ref f))
  fn : isFn K (.ref f) = true
  isF : fnIn K f = true
  get : specialIn K (.ref f) "__get__" = some (some (.builtin "function.__get__"))
  takes : takesIn K (.ref f) = some false
  copied : copiedNames.contains name = false
theorem e_methstar {o e : Expr} {name : Str} {apos pos p : Pos}
    (h : WE g F (eval o F.env) m H (fun a m H => ∃ x C dx fs f, a = .ref x ∧ H x = some (.inst C dx) ∧ H dx = some (.ns fs) ∧ MethB g.K C name f ∧ fs.lookup name = none ∧
      WE g F (eval e F.env) m H (fun b m H => ∃ xs, Items g b H xs ∧ WCode g F (.ref f) (.ref x :: xs) m H Q X) X) X)
    (hbase : attributeBase o name F.env (eval o F.env) = eval o F.env := by rfl) : WE g F (eval (.Call (.Attribute o name apos) [.Starred e p] [] pos) F.env) m H Q X := fun s S => by
  rw [arm_eval_Call, hbase]
  refine wpAny_bind (h.run S (fun v s₁ a m₁ H₁ r₁ S₁ k₁ ⟨x, C, dx, fs, f, e1, hx, hd, M, hn, h₁⟩ => ?_) fun _ _ x => x)
  subst e1
  rw [VR.ref_iff] at r₁; subst r₁
  refine wpAny_bind (wpAny_standAt ?_)
  unfold methodCall
  have hform : methodCallForm ([Expr.Starred e p].length + ([] : List Keyword).length) (backTo pos (starEach [.Starred e p] F.env)) (backToKw pos (keywordEach [] F.env)) = false := rfl
  rw [hform]
  have hpos : methodCallPos false o F.env apos pos = pure pos := rfl
  unfold calleeOf
  obtain ⟨es, n, I, _, hr⟩ := inst_at S₁ hx hd
  refine wpAny_bind (wpAny_holding ?_)
  rw [if_neg (by decide)]
  have kp : ∀ b o, s₁.heap.get? b = some o → (s₁.heap.push (methodObj (.ref f) (.ref x))).get? b = some o := fun _ _ e => Heap.get?_push_of_some _ e
  obtain ⟨S₂, k₂⟩ := S₁.ext (t := s₁.toks + 1) kp
  have K₂ := k₁.trans k₂
  refine wpAny_bind (get_bind S₁.kin I (plainGet_of M.plain).1 (findObj_fn M.dict M.find M.get M.takes M.copied (by show lookIn name (dictOf es n) = _; rw [lookIn_dict, nsR_miss hr hn])) (plainGet_of M.plain).2
    (wpAny_call (fn_get (s := { s₁ with toks := s₁.toks + 1 }) S₁.kin (beq_iff_eq.mp M.fn) (handed_on rfl ?_))))
  refine wpAny_pure (wpAny_bind (wpAny_of_eq hpos ?_))
  have eq₂ : (s₁.heap.push (methodObj (.ref f) (.ref x))).get? s₁.heap.objs.size = some (methodObj (.ref f) (.ref x)) := Heap.get?_push_size _ rfl
  have un : H₁ s₁.heap.objs.size = none := (S₁.lt (Nat.le_refl _)).1
  refine ks_call (P := MethP g.K s₁.heap.objs.size f (.ref x)) rfl (keeps_M M.isF) (ks_lone (h₁.run S₂ (fun b s₃ b' m₃ H₃ r₃ S₃ k₃ ⟨xs, hi, h₃⟩ => hi.star S₃ r₃ fun vs h' kp' rv => ?_) fun _ _ y => y.after K₂))
  obtain ⟨S₄, k₄⟩ := S₃.ext (t := s₃.toks) kp'
  have K₄ := (K₂.trans k₃).trans k₄
  have at₃ : s₃.heap.get? s₁.heap.objs.size = some (methodObj (.ref f) (.ref x)) := by
    have nm : s₁.heap.objs.size ∉ F.mine := S₁.fresh
    obtain ⟨_, z⟩ := k₃.same _ _ eq₂ un nm
    rcases z with z | ⟨z, _⟩
    · exact z
    · obtain ⟨_, o', es', ep', e', d'⟩ := S₂.frd _ z
      rw [show (s₁.heap.push (methodObj (.ref f) (.ref x))).get? s₁.heap.objs.size = some o' from e'] at eq₂
      cases eq₂; cases d'
  refine ⟨⟨kp' _ _ at₃, S₄.kin⟩, wpAny_call (method_call (kp' _ _ at₃) ?_)⟩
  refine codeAny_mono (h₃ _ (.ref x :: vs) S₄ (.cons (.ref' x) rv)) fun r s' z => ?_
  rcases r with e | (v | _ | _ | _)
  · exact ErP.after K₄ z
  all_goals first | exact z.elim | exact OkP.after K₄ z
end
end Mine
end
section
open PySem PySem.W PySem.Calls PyProof.Rows PySem.SeqAt
set_option linter.unusedVariables false
set_option maxRecDepth 100000
namespace Mine
def Sat (H : AH) (L : List (Addr × O)) : Prop := (L.map (·.1)).Nodup ∧ ∀ p ∈ L, H p.1 = some p.2
theorem Sat.get {H : AH} {L : List (Addr × O)} {a : Addr} {o : O} (s : Sat H L) (h : (a, o) ∈ L) : H a = some o := s.2 _ h
theorem Sat.perm {H : AH} {L L' : List (Addr × O)} (s : Sat H L) (p : L.Perm L') : Sat H L' := ⟨(p.map _).nodup_iff.mp s.1, fun q hq => s.2 q (p.mem_iff.mpr hq)⟩
theorem Sat.set {H : AH} {L : List (Addr × O)} {a : Addr} {o : O} (s : Sat H ((a, o) :: L)) (o' : O) : Sat (put H a o') ((a, o') :: L) := by
  obtain ⟨n, h⟩ := s
  rw [List.map_cons, List.nodup_cons] at n
  refine ⟨by rw [List.map_cons, List.nodup_cons]; exact n, fun p hp => ?_⟩
  rcases List.mem_cons.mp hp with rfl | hp
  · exact put_self ..
  · rw [put_ne _ _ fun q => n.1 (List.mem_map.mpr ⟨p, hp, q⟩)]
    exact h p (List.mem_cons_of_mem _ hp)
theorem Sat.new {H : AH} {L : List (Addr × O)} {a : Addr} {o : O} (s : Sat H L) (h : H a = none) : Sat (put H a o) ((a, o) :: L) := by
  obtain ⟨n, hL⟩ := s
  have ne : ∀ p ∈ L, p.1 ≠ a := fun p hp q => by have := hL p hp; rw [q, h] at this; cases this
  refine ⟨by rw [List.map_cons, List.nodup_cons]; exact ⟨fun q => by obtain ⟨p, hp, e⟩ := List.mem_map.mp q; exact ne p hp e, n⟩, fun p hp => ?_⟩
  rcases List.mem_cons.mp hp with rfl | hp
  · exact put_self ..
  · rw [put_ne _ _ (ne p hp)]; exact hL p hp
theorem Sat.mid {H : AH} {A C : List (Addr × O)} {a : Addr} {o : O} (s : Sat H (A ++ (a, o) :: C)) (o' : O) : Sat (put H a o') (A ++ (a, o') :: C) :=
  ((s.perm List.perm_middle).set o').perm List.perm_middle.symm
theorem Sat.tail {H : AH} {A C : List (Addr × O)} (s : Sat H (A ++ C)) : Sat H C := ⟨by have := s.1; rw [List.map_append] at this; exact (List.nodup_append.mp this).2.1, fun p hp => s.2 p (List.mem_append_right _ hp)⟩
theorem Sat.sub2 {H : AH} {A C : List (Addr × O)} {p : Addr × O} (s : Sat H (p :: (A ++ C))) : Sat H (p :: C) := by
  have := (s.perm (show (p :: (A ++ C)).Perm (A ++ (p :: C)) from (List.perm_middle).symm))
  exact this.tail
theorem Sat.sublist {H : AH} {L L' : List (Addr × O)} (s : Sat H L) (h : L'.Sublist L) : Sat H L' := ⟨(h.map _).nodup s.1, fun p hp => s.2 p (h.subset hp)⟩
theorem Sat.nil (H : AH) : Sat H [] := ⟨List.nodup_nil, fun _ h => by cases h⟩
theorem Sat.rem {H : AH} {L : List (Addr × O)} {a : Addr} {o : O} (s : Sat H ((a, o) :: L)) : Sat (Mine.rem H a) L := by
  obtain ⟨n, h⟩ := s
  rw [List.map_cons, List.nodup_cons] at n
  refine ⟨n.2, fun p hp => ?_⟩
  rw [rem_ne fun q => n.1 (List.mem_map.mpr ⟨p, hp, q⟩)]
  exact h p (List.mem_cons_of_mem _ hp)
theorem Sat.none {H : AH} {L : List (Addr × O)} {a : Addr} (s : Sat H L) (h : H a = none) : ∀ p ∈ L, p.1 ≠ a := fun p hp q => by have := s.2 p hp; rw [q, h] at this; cases this
theorem Sat.at0 {H : AH} {L : List (Addr × O)} {a : Addr} {o : O} (s : Sat H ((a, o) :: L)) : H a = some o := s.2 _ (.head _)
theorem Sat.at1 {H : AH} {L : List (Addr × O)} {a : Addr} {o : O} {p : Addr × O} (s : Sat H (p :: (a, o) :: L)) : H a = some o := s.2 _ (.tail _ (.head _))
theorem Sat.at2 {H : AH} {L : List (Addr × O)} {a : Addr} {o : O} {p q : Addr × O} (s : Sat H (p :: q :: (a, o) :: L)) : H a = some o := s.2 _ (.tail _ (.tail _ (.head _)))
theorem Sat.at3 {H : AH} {L : List (Addr × O)} {a : Addr} {o : O} {p q r : Addr × O} (s : Sat H (p :: q :: r :: (a, o) :: L)) : H a = some o := s.2 _ (.tail _ (.tail _ (.tail _ (.head _))))
theorem Sat.at4 {H : AH} {L : List (Addr × O)} {a : Addr} {o : O} {p q r t : Addr × O} (s : Sat H (p :: q :: r :: t :: (a, o) :: L)) : H a = some o := s.2 _ (.tail _ (.tail _ (.tail _ (.tail _ (.head _)))))
theorem Sat.set1 {H : AH} {L : List (Addr × O)} {a : Addr} {o : O} {p : Addr × O} (s : Sat H (p :: (a, o) :: L)) (o' : O) : Sat (put H a o') (p :: (a, o') :: L) := s.mid (A := [p]) o'
theorem Sat.set2 {H : AH} {L : List (Addr × O)} {a : Addr} {o : O} {p q : Addr × O} (s : Sat H (p :: q :: (a, o) :: L)) (o' : O) : Sat (put H a o') (p :: q :: (a, o') :: L) := s.mid (A := [p, q]) o'
theorem Sat.set3 {H : AH} {L : List (Addr × O)} {a : Addr} {o : O} {p q r : Addr × O} (s : Sat H (p :: q :: r :: (a, o) :: L)) (o' : O) : Sat (put H a o') (p :: q :: r :: (a, o') :: L) := s.mid (A := [p, q, r]) o'
theorem Sat.set4 {H : AH} {L : List (Addr × O)} {a : Addr} {o : O} {p q r t : Addr × O} (s : Sat H (p :: q :: r :: t :: (a, o) :: L)) (o' : O) : Sat (put H a o') (p :: q :: r :: t :: (a, o') :: L) := s.mid (A := [p, q, r, t]) o'
theorem Sat.at5 {H : AH} {L : List (Addr × O)} {a : Addr} {o : O} {p q r t u : Addr × O} (s : Sat H (p :: q :: r :: t :: u :: (a, o) :: L)) : H a = some o := s.2 _ (.tail _ (.tail _ (.tail _ (.tail _ (.tail _ (.head _))))))
theorem Sat.set5 {H : AH} {L : List (Addr × O)} {a : Addr} {o : O} {p q r t u : Addr × O} (s : Sat H (p :: q :: r :: t :: u :: (a, o) :: L)) (o' : O) : Sat (put H a o') (p :: q :: r :: t :: u :: (a, o') :: L) := s.mid (A := [p, q, r, t, u]) o'
structure Row where
  k : Int
  na : Addr
  np : Int
  la : Addr
  su : List Int
structure Srt where
  x : Addr
  dx : Addr
  d : Addr
  ep : Nat
  rows : List Row
  rd : Option (Addr × List Int)
  po : Int
  nf : Int
def rowLay (r : Row) : List (Addr × O) := [(r.na, .node 40 [.int r.k, .int r.np, .ref r.la]), (r.la, .list (nums r.su))]
def rowsLay (rs : List Row) : List (Addr × O) := rs.flatMap rowLay
def rdLay : Option (Addr × List Int) → List (Addr × O)
  | none => []
  | some (a, ns) => [(a, .list (nums ns))]
def rdV : Option (Addr × List Int) → V
  | none => .none
  | some (a, _) => .ref a
def nsOf (d : Addr) (rd : V) (po nf : Int) : List (Str × V) := [("_node2info", .ref d), ("_ready_nodes", rd), ("_npassedout", .int po), ("_nfinished", .int nf)]
def dictOfRows (rs : List Row) : List (Int × V) := rs.map fun r => (r.k, .ref r.na)
def Srt.lay (σ : Srt) : List (Addr × O) := (σ.x, .inst 137 σ.dx) :: (σ.dx, .ns (nsOf σ.d (rdV σ.rd) σ.po σ.nf)) :: (σ.d, .dict (dictOfRows σ.rows) σ.ep) :: (rdLay σ.rd ++ rowsLay σ.rows)
theorem Srt.inst {σ : Srt} {B : List (Addr × O)} {H : AH} (s : Sat H (σ.lay ++ B)) : H σ.x = some (.inst 137 σ.dx) := s.get (by simp [Srt.lay])
theorem Srt.ns {σ : Srt} {B : List (Addr × O)} {H : AH} (s : Sat H (σ.lay ++ B)) : H σ.dx = some (.ns (nsOf σ.d (rdV σ.rd) σ.po σ.nf)) := s.get (by simp [Srt.lay])
theorem Srt.dict {σ : Srt} {B : List (Addr × O)} {H : AH} (s : Sat H (σ.lay ++ B)) : H σ.d = some (.dict (dictOfRows σ.rows) σ.ep) := s.get (by simp [Srt.lay])
theorem Srt.ready {σ : Srt} {B : List (Addr × O)} {H : AH} {a : Addr} {ns : List Int} (s : Sat H (σ.lay ++ B)) (e : σ.rd = some (a, ns)) : H a = some (.list (nums ns)) := s.get (by simp [Srt.lay, e, rdLay])
theorem Srt.node {σ : Srt} {B : List (Addr × O)} {H : AH} {r : Row} (s : Sat H (σ.lay ++ B)) (h : r ∈ σ.rows) : H r.na = some (.node 40 [.int r.k, .int r.np, .ref r.la]) := s.get (by
  refine List.mem_append_left _ (List.mem_cons_of_mem _ (List.mem_cons_of_mem _ (List.mem_cons_of_mem _ (List.mem_append_right _ (List.mem_flatMap.mpr ⟨r, h, ?_⟩)))))
  simp [rowLay])
theorem Srt.succs {σ : Srt} {B : List (Addr × O)} {H : AH} {r : Row} (s : Sat H (σ.lay ++ B)) (h : r ∈ σ.rows) : H r.la = some (.list (nums r.su)) := s.get (by
  refine List.mem_append_left _ (List.mem_cons_of_mem _ (List.mem_cons_of_mem _ (List.mem_cons_of_mem _ (List.mem_append_right _ (List.mem_flatMap.mpr ⟨r, h, ?_⟩)))))
  simp [rowLay])
end Mine
end
section
open PySem PySem.W PySem.Calls PyProof.Rows PySem.SeqAt
set_option linter.unusedVariables false
set_option maxRecDepth 100000
namespace Mine
section
variable {g : G} {F : Fm} {m : Loc} {H : AH} {s : Shared} {X : Value → List V → Loc → AH → Prop} {Q : V → Loc → AH → Prop}
theorem d_code {f : Addr} {fd : FuncData} {oc : Value} {od : Option Addr} {osl : Array (Option Value)} {body : List Stmt} {xs : List V} {bs : List (Str × V)}
    (ho : g.K.lookup f = some ⟨oc, od, .func fd, osl⟩) (hcd : codeIn g.K fd.code fd.qualname = true) (hbody : fd.body = .stmts body) (hg : fd.globals = mainGlobals) (hb : fd.builtins = builtinsNs) (hcl : fd.closure = [])
    (hco : fd.scope.isCoroutine = false) (hgen : fd.scope.isGenerator = false) (hk : fd.scope.kind = .function) (hl : F.lvl < 100) (hbind : Binds g fd xs bs)
    (hkind : (bs.all fun x => fd.scope.names.lookup x.1 == some .local || fd.scope.names.lookup x.1 == some .cell) = true)
    (h : ∀ F', FrameOf F' F fd.scope → WS g F' (execs body F'.env) (bindAbs bs fun _ => none) H (kVal Q Fl.val m) (kErr X m)) : WCode g F (.ref f) xs m H Q X :=
  fun s vs S hv => c_code ho hcd hbody hg hb hcl hco hgen hk hl hbind hkind h S hv
theorem FrameOf.kindOf {F' F : Fm} {sc : Scope} (x : FrameOf F' F sc) (n : Str) : F'.env.kindOf n = sc.names.lookup n := by unfold Env.kindOf; rw [x.scope]
theorem FrameOf.st {F' F : Fm} {sc : Scope} (x : FrameOf F' F sc) : F'.stack ≠ [] := by rw [x.stack]; simp
theorem FrameOf.hh {F' F : Fm} {sc : Scope} (x : FrameOf F' F sc) (h : F.A.handled = none) : F'.A.handled = none := x.handled.trans h
theorem FrameOf.loc {F' F : Fm} {sc : Scope} (x : FrameOf F' F sc) {n : Str} (h : sc.names.lookup n = some .local) : Stores F' n := .inl ((x.kindOf n).trans h)
theorem FrameOf.cel {F' F : Fm} {sc : Scope} (x : FrameOf F' F sc) {n : Str} (h : sc.names.lookup n = some .cell) : Stores F' n := .inr ⟨(x.kindOf n).trans h, x.cells n h⟩
theorem FrameOf.glo {F' F : Fm} {sc : Scope} (x : FrameOf F' F sc) {n : Str} (h : sc.names.lookup n = some .globalImplicit) : F'.env.kindOf n = some .globalImplicit := (x.kindOf n).trans h
theorem meets_bool_list (l : Addr) : Meets (Builtin.«bool.__new__» ⟨[.type "bool", .ref l], []⟩) (fun _ R s => ∃ items, s.heap.IsList l items ∧ (items.size : Int) < 2 ^ 63 ∧ R (.ok (.ret (.bool (!items.isEmpty)))) { s with toks := s.toks + 1 + 1 }) :=
  .of_wp fun prog w A R s ⟨items, hl, hf, h⟩ => by
    unfold Builtin.«bool.__new__»
    dsimp only
    refine wpAny_bind (wpAny_pure ?_)
    rw [if_neg (by decide)]
    refine wpAny_bind (wpAny_of_eq (a := true) (by rw [isSubtype_type]; kernel_rfl) ?_)
    rw [if_neg (by decide)]
    refine wpAny_bind (wpAny_pure ?_)
    refine wpAny_bind (wpAny_truthy_list hl hf (wpAny_pure ⟨_, rfl, h⟩))
theorem c_boolL {l : Addr} {xs : List V} (hl : LA g H l xs) (hz : xs.length < 2 ^ 60) (h : Q (.bool (!xs.isEmpty)) m H) : WC g F (.type "bool") [.ref l] m H Q X := wc1 fun s v S r => by
  rw [VR.ref_iff] at r; subst r
  obtain ⟨vs, ep, e, rs⟩ := hl.at S
  refine call_bool_1 (meets_bool_list l) ⟨vs.toArray, ⟨_, e, rfl, ep, rfl⟩, by rw [List.size_toArray, rs.length]; omega, rfl, OkP.now S rfl rfl rfl ?_ h⟩
  have := rs.length
  have e2 : vs.toArray.isEmpty = xs.isEmpty := by cases xs <;> cases vs <;> simp_all
  rw [e2]; exact .bool' _
theorem FrameOf.lv {F' F : Fm} {sc : Scope} (x : FrameOf F' F sc) {a b : Nat} (hl : F.lvl < a) (h : Nat.ble (a + 1) b = true) : F'.lvl < b := by
  have := Nat.le_of_ble_eq_true h
  rw [x.lvl]; omega
theorem lv100 {n a : Nat} (hl : n < a) (h : Nat.ble a 100 = true) : n < 100 := Nat.lt_of_lt_of_le hl (Nat.le_of_ble_eq_true h)
theorem deps_le (ns : List Int) : deps (nums ns) ≤ 1000 := by rw [deps_ints]; omega
theorem nums_fit {ns : List Int} (h : ns.length ≤ 1000) : (nums ns).length ≤ sizeLine := by rw [ints_length, sizeLine_eq]; omega
theorem nums_16 {ns : List Int} (h : ns.length ≤ 1000) : (nums ns).length ≤ 16000000 := by rw [ints_length]; omega
theorem nums_60 {ns : List Int} (h : ns.length ≤ 1000) : (nums ns).length < 2 ^ 60 := by rw [ints_length]; omega
theorem len_60 {xs : List V} (h : xs.length ≤ 1000) : xs.length < 2 ^ 60 := by omega
theorem o_at {l : Addr} {xs : List V} {k : Nat} {x : V} (hl : LA g H l xs) (hk : k < 1000) (hx : xs[k]? = some x) (h : Q x m H) : W2 g F VR (.ref l) (.int (0 + (k : Int))) getItem m H Q X :=
  o_item hl (by omega) (by omega) (by rw [show (0 + (k : Int)).toNat = k by omega]; exact hx) h
theorem gi_at {l : Addr} {xs : List V} {k : Nat} {x : V} (hl : LA g H l xs) (hk : k < 1000) (hx : xs[k]? = some x) (h : Q x m H) : GI g F (.ref l) (.int (0 + (k : Int))) m H Q X := gi_list hl (o_at hl hk hx h)
theorem it_rangeN {n : Nat} {b : Int} (hb : b = n) (hn : n ≤ 1000) : Iterable g (.rng 0 b 1) n (fun i => .int (0 + (i : Int))) (fun _ => True) := by
  subst hb
  exact it_range (by omega) (by omega) (by split <;> omega)
theorem len_fit {xs : List V} (h : xs.length ≤ 1000) : xs.length ≤ sizeLine := by rw [sizeLine_eq]; omega
theorem nums_16b {a b : List Int} (h : a.length + b.length ≤ 1000) : (nums a).length + (nums b).length ≤ 16000000 := by rw [ints_length, ints_length]; omega
theorem c_listrangeN {n : Nat} (hh : F.A.handled = none) (hz : n ≤ 1000) (h : ∀ l, H l = none → Q (.ref l) m (put H l (.list (nums ((List.range n).map fun (i : Nat) => 0 + (i : Int)))))) : WC g F (.type "list") [.rng 0 (n : Int) 1] m H Q X :=
  c_listrange hh (by omega) (by omega) (by split <;> omega) (by omega) h
theorem o_setat {l : Addr} {xs : List V} {k : Nat} {x : V} {Q : Loc → AH → Prop} (hl : H l = some (.list xs)) (hk : k < xs.length) (hz : xs.length ≤ 1000) (h : Q m (put H l (.list (xs.set k x)))) :
    W3 g F EqR (.ref l) (.int (0 + (k : Int))) x (fun ov iv v => setItem ov iv v) m H (kU Q) X :=
  o_setitem hl (by omega) (by omega) (by omega) (by rw [show (0 + (k : Int)).toNat = k by omega]; exact h)
theorem o_itemK {l : Addr} {xs : List V} {k : Nat} {x : V} (hl : LA g H l xs) (hk : k < 1000) (hx : xs[k]? = some x) (h : Q x m H) : W2 g F VR (.ref l) (.int (k : Int)) getItem m H Q X :=
  o_item hl (by omega) (by omega) (by rw [Int.toNat_natCast]; exact hx) h
theorem gi_itemK {l : Addr} {xs : List V} {k : Nat} {x : V} (hl : LA g H l xs) (hk : k < 1000) (hx : xs[k]? = some x) (h : Q x m H) : GI g F (.ref l) (.int (k : Int)) m H Q X := gi_list hl (o_itemK hl hk hx h)
theorem o_setK {l : Addr} {xs : List V} {k : Nat} {x : V} {Q : Loc → AH → Prop} (hl : H l = some (.list xs)) (hk : k < xs.length) (hz : xs.length ≤ 1000) (h : Q m (put H l (.list (xs.set k x)))) :
    W3 g F EqR (.ref l) (.int (k : Int)) x (fun ov iv v => setItem ov iv v) m H (kU Q) X :=
  o_setitem hl (by omega) (by omega) (by omega) (by rw [Int.toNat_natCast]; exact h)
theorem o_modN {a b : Int} (hb : 0 < b) (h : ∀ n : Nat, (n : Int) < b → Q (.int n) m H) : W2 g F VR (.int a) (.int b) (binaryOp .Mod) m H Q X :=
  o_mod (by omega) (by
    have h0 := Int.fmod_nonneg_of_pos a hb
    have h1 := Int.fmod_lt_of_pos a hb
    have e : a.fmod b = ((a.fmod b).toNat : Int) := by omega
    rw [e]; exact h _ (by omega))
theorem lt60 {n : Nat} (h : n ≤ 1000) : n < 2 ^ 60 := by omega
theorem lt9 {n : Nat} (h : (n : Int) < 9) : n < 9 := by omega
theorem lt3 {n : Nat} (h : (n : Int) < 3) : n < 3 := by omega
end
end Mine
end
section
open PySem PySem.W PySem.Calls PyProof.Rows PySem.SeqAt
set_option linter.unusedVariables false
set_option maxRecDepth 100000
namespace Mine
structure PRow where
  k : Int
  np : Int
  su : List Int
structure PS where
  rows : List PRow
  rd : Option (List Int)
  po : Int
  nf : Int
def Row.abs (r : Row) : PRow := ⟨r.k, r.np, r.su⟩
def Srt.abs (σ : Srt) : PS := ⟨σ.rows.map Row.abs, σ.rd.map (·.2), σ.po, σ.nf⟩
def PS.names (p : PS) : List Int := p.rows.map (·.k)
def PS.upd (p : PS) (k : Int) (f : PRow → PRow) : PS := { p with rows := p.rows.map fun r => if r.k = k then f r else r }
def PS.ens (p : PS) (k : Int) : PS := if k ∈ p.names then p else { p with rows := p.rows ++ [⟨k, 0, []⟩] }
def PS.tell (p : PS) (k : Int) (q : Int) : PS := (p.ens q).upd q fun r => { r with su := r.su ++ [k] }
def PS.add (p : PS) (k : Int) (ps : List Int) : PS := ps.foldl (fun p q => p.tell k q) ((p.ens k).upd k fun r => { r with np := r.np + ps.length })
def Srt.upd (σ : Srt) (k : Int) (f : Row → Row) : Srt := { σ with rows := σ.rows.map fun r => if r.k = k then f r else r }
theorem Srt.names_abs (σ : Srt) : σ.abs.names = σ.rows.map (·.k) := by unfold Srt.abs PS.names; simp [Row.abs]
theorem rows_split {rows : List Row} {r : Row} (hr : r ∈ rows) (hk : (rows.map (·.k)).Nodup) : ∃ pre post, rows = pre ++ r :: post ∧ ∀ f : Row → Row, (rows.map fun r' => if r'.k = r.k then f r' else r') = pre ++ f r :: post := by
  obtain ⟨pre, post, e⟩ := List.append_of_mem hr
  subst e
  rw [List.map_append, List.map_cons] at hk
  have h1 := List.nodup_append.mp hk
  have h2 := List.nodup_cons.mp h1.2.1
  refine ⟨pre, post, rfl, fun f => ?_⟩
  rw [List.map_append, List.map_cons, if_pos rfl]
  have e1 : pre.map (fun r' => if r'.k = r.k then f r' else r') = pre := by
    conv => rhs; rw [← List.map_id pre]
    refine List.map_congr_left fun r' hr' => if_neg fun q => ?_
    exact h1.2.2 r'.k (List.mem_map_of_mem hr') r.k List.mem_cons_self q
  have e2 : post.map (fun r' => if r'.k = r.k then f r' else r') = post := by
    conv => rhs; rw [← List.map_id post]
    refine List.map_congr_left fun r' hr' => if_neg fun q => h2.1 ?_
    rw [← q]; exact List.mem_map_of_mem hr'
  rw [e1, e2]
theorem Srt.abs_upd (σ : Srt) (k : Int) (f : Row → Row) (f' : PRow → PRow) (h : ∀ r, (f r).abs = f' r.abs) : (σ.upd k f).abs = σ.abs.upd k f' := by
  unfold Srt.upd Srt.abs PS.upd
  simp only [List.map_map, PS.mk.injEq, and_self, and_true]
  refine List.map_congr_left fun r _ => ?_
  show Row.abs (if r.k = k then f r else r) = if (Row.abs r).k = k then f' (Row.abs r) else Row.abs r
  by_cases q : r.k = k
  · rw [if_pos q, if_pos (show (Row.abs r).k = k from q), h]
  · rw [if_neg q, if_neg (show ¬ (Row.abs r).k = k from q)]
theorem Srt.keys_upd (σ : Srt) (k : Int) (f : Row → Row) (h : ∀ r, (f r).k = r.k) : ((σ.upd k f).rows.map (·.k)) = σ.rows.map (·.k) := by
  unfold Srt.upd
  rw [List.map_map]
  refine List.map_congr_left fun r _ => ?_
  show (if r.k = k then f r else r).k = r.k
  split
  · exact h r
  · rfl
theorem perm_rot {α : Type} (X Y B : List α) : (X ++ (Y ++ B)).Perm (Y ++ (X ++ B)) := by
  rw [← List.append_assoc, ← List.append_assoc]; exact List.perm_append_comm.append_right B
section
variable {H : AH} {σ : Srt} {B : List (Addr × O)} {r : Row}
theorem rowsLay_split (pre post : List Row) (r : Row) : rowsLay (pre ++ r :: post) = rowsLay pre ++ rowLay r ++ rowsLay post := by unfold rowsLay; simp [List.flatMap_append, List.flatMap_cons]
theorem Srt.setNode (s : Sat H (σ.lay ++ B)) (hr : r ∈ σ.rows) (hk : (σ.rows.map (·.k)).Nodup) (np : Int) : Sat (put H r.na (.node 40 [.int r.k, .int np, .ref r.la])) ((σ.upd r.k fun r => { r with np := np }).lay ++ B) := by
  obtain ⟨pre, post, e, hf⟩ := rows_split hr hk
  have e2 := hf fun r => { r with np := np }
  unfold Srt.lay Srt.upd at *
  simp only at *
  have d : dictOfRows (pre ++ { r with np := np } :: post) = dictOfRows (pre ++ r :: post) := by unfold dictOfRows; simp
  rw [e2, d]
  rw [e] at s
  rw [rowsLay_split] at s ⊢
  have := Sat.mid (A := (σ.x, .inst 137 σ.dx) :: (σ.dx, .ns (nsOf σ.d (rdV σ.rd) σ.po σ.nf)) :: (σ.d, .dict (dictOfRows (pre ++ r :: post)) σ.ep) :: (rdLay σ.rd ++ rowsLay pre)) (a := r.na) (o := .node 40 [.int r.k, .int r.np, .ref r.la]) (C := (r.la, .list (nums r.su)) :: (rowsLay post ++ B)) (by simpa [rowLay] using s) (.node 40 [.int r.k, .int np, .ref r.la])
  simpa [rowLay] using this
theorem Srt.setSu (s : Sat H (σ.lay ++ B)) (hr : r ∈ σ.rows) (hk : (σ.rows.map (·.k)).Nodup) (su : List Int) : Sat (put H r.la (.list (nums su))) ((σ.upd r.k fun r => { r with su := su }).lay ++ B) := by
  obtain ⟨pre, post, e, hf⟩ := rows_split hr hk
  have e2 := hf fun r => { r with su := su }
  unfold Srt.lay Srt.upd at *
  simp only at *
  have d : dictOfRows (pre ++ { r with su := su } :: post) = dictOfRows (pre ++ r :: post) := by unfold dictOfRows; simp
  rw [e2, d]
  rw [e] at s
  rw [rowsLay_split] at s ⊢
  have := Sat.mid (A := (σ.x, .inst 137 σ.dx) :: (σ.dx, .ns (nsOf σ.d (rdV σ.rd) σ.po σ.nf)) :: (σ.d, .dict (dictOfRows (pre ++ r :: post)) σ.ep) :: (rdLay σ.rd ++ rowsLay pre ++ [(r.na, .node 40 [.int r.k, .int r.np, .ref r.la])])) (a := r.la) (o := .list (nums r.su)) (C := rowsLay post ++ B) (by simpa [rowLay] using s) (.list (nums su))
  simpa [rowLay] using this
theorem Srt.setNs (s : Sat H (σ.lay ++ B)) (po nf : Int) : Sat (put H σ.dx (.ns (nsOf σ.d (rdV σ.rd) po nf))) (({ σ with po := po, nf := nf } : Srt).lay ++ B) :=
  Sat.mid (A := [(σ.x, .inst 137 σ.dx)]) (a := σ.dx) (C := (σ.d, .dict (dictOfRows σ.rows) σ.ep) :: ((rdLay σ.rd ++ rowsLay σ.rows) ++ B)) s _
theorem Srt.setReady {a : Addr} {ns : List Int} (s : Sat H (σ.lay ++ B)) (e : σ.rd = some (a, ns)) (ns' : List Int) : Sat (put H a (.list (nums ns'))) (({ σ with rd := some (a, ns') } : Srt).lay ++ B) := by
  unfold Srt.lay at *
  rw [e] at s
  exact Sat.mid (A := [(σ.x, .inst 137 σ.dx), (σ.dx, .ns (nsOf σ.d (rdV (some (a, ns))) σ.po σ.nf)), (σ.d, .dict (dictOfRows σ.rows) σ.ep)]) (a := a) (C := rowsLay σ.rows ++ B) (by simpa [rdLay] using s) _
theorem Srt.newRow (s : Sat H (σ.lay ++ B)) {k : Int} {na la : Addr} {ep : Nat} {H' : AH} (s' : Sat H' ((na, .node 40 [.int k, .int 0, .ref la]) :: (la, .list []) :: (σ.lay ++ B))) :
    Sat (put H' σ.d (.dict (dictOfRows (σ.rows ++ [⟨k, na, 0, la, []⟩])) ep)) (({ σ with rows := σ.rows ++ [⟨k, na, 0, la, []⟩], ep := ep } : Srt).lay ++ B) := by
  have p : ((na, O.node 40 [.int k, .int 0, .ref la]) :: (la, O.list []) :: (σ.lay ++ B)).Perm ([(σ.x, .inst 137 σ.dx), (σ.dx, .ns (nsOf σ.d (rdV σ.rd) σ.po σ.nf))] ++ (σ.d, .dict (dictOfRows σ.rows) σ.ep) :: ((rdLay σ.rd ++ rowsLay σ.rows) ++ (rowLay ⟨k, na, 0, la, []⟩ ++ B))) := by
    unfold Srt.lay rowLay
    simp only [List.cons_append, List.nil_append, List.append_assoc, nums, List.map_nil]
    have := perm_rot [(na, O.node 40 [.int k, .int 0, .ref la]), (la, O.list [])] ([(σ.x, O.inst 137 σ.dx), (σ.dx, .ns (nsOf σ.d (rdV σ.rd) σ.po σ.nf)), (σ.d, .dict (dictOfRows σ.rows) σ.ep)] ++ (rdLay σ.rd ++ rowsLay σ.rows)) B
    simpa using this
  have z := (s'.perm p).mid (.dict (dictOfRows (σ.rows ++ [⟨k, na, 0, la, []⟩])) ep)
  unfold Srt.lay
  have e : rowsLay (σ.rows ++ [⟨k, na, 0, la, []⟩]) = rowsLay σ.rows ++ rowLay ⟨k, na, 0, la, []⟩ := by unfold rowsLay; simp [List.flatMap_append]
  simp only at z ⊢
  rw [e]
  simpa using z
end
end Mine
end
section
open PySem PySem.W PySem.Calls PyProof.Rows PySem.SeqAt
set_option linter.unusedVariables false
set_option maxRecDepth 100000
namespace Mine
theorem swapped_by {env : Env} {sc : Scope} (h : env.scope = sc) {ts : List Expr} {v : Expr} {r : Sem (Option (List Str))} (e : swappedStores ts v { env with scope := sc } = r) : swappedStores ts v env = r := by subst h; exact e
theorem swaps_by {env : Env} {sc : Scope} (h : env.scope = sc) {e : Expr} {t : Option Expr} {n : Nat} {r : Sem Bool} (q : swapsWith e t n { env with scope := sc } = r) : swapsWith e t n env = r := by subst h; exact q
def storeAll : Loc → List Str → List V → Loc
  | m, n :: ns, x :: xs => storeAll (setL m n x) ns xs
  | m, _, _ => m
section
variable {g : G} {F : Fm} {m : Loc} {H : AH} {s : Shared} {X : Value → List V → Loc → AH → Prop} {Q : Fl → Loc → AH → Prop}
theorem names_run {h₀ : Heap} {H₀ : AH} : ∀ {ns : List Str} {xs : List V} {vs : List Value} {m : Loc} {s : Shared}, (∀ n ∈ ns, Stores F n) → ns.length = xs.length → St g F m H s → Keep F h₀ H₀ s.heap H → VRs s.heap xs vs →
    wpAny (model g.prog g.w) F.A (assignInOrder (ns.map fun n => bindName F.env n) vs) (fun _ s' => St g F (storeAll m ns xs) H s' ∧ Keep F h₀ H₀ s'.heap H) (ErP g F X h₀ H₀) s
  | [], [], vs, m, s, _, _, S, K, r => wpAny_pure ⟨S, K⟩
  | [], _ :: _, _, _, _, _, e, _, _, _ => by simp at e
  | _ :: _, [], _, _, _, _, e, _, _, _ => by simp at e
  | n :: ns, x :: xs, vs, m, s, hn, e, S, K, r => by
    obtain ⟨v, r', rfl, rv, rs⟩ := r.uncons
    refine wpAny_bind (wpAny_holding (wpAny_bindName (wpAny_mono (n_store (X := fun _ _ _ _ => False) (Q := fun m' H' => m' = setL m n x ∧ H' = H) (hn n List.mem_cons_self) ⟨rfl, rfl⟩ s v S rv) (fun _ s₁ yy => yy.elim fun _ m₁ H₁ _ S₁ k₁ ⟨e1, e2⟩ => ?_) fun _ _ yy => yy.no)))
    rw [e1, e2] at S₁
    rw [e2] at k₁
    exact names_run (fun n' h' => hn n' (List.mem_cons_of_mem _ h')) (by simpa using e) S₁ (K.trans k₁) (rs.keep S k₁)
theorem VRs.reverse {h : Heap} : ∀ {xs : List V} {vs : List Value}, VRs h xs vs → VRs h xs.reverse vs.reverse
  | [], _, r => by rw [VRs.nil_iff] at r; subst r; exact .nil'
  | x :: xs, _, r => by obtain ⟨v, r', rfl, rv, rr⟩ := r.uncons; rw [List.reverse_cons, List.reverse_cons]; exact (VRs.reverse rr).append (.cons rv .nil')
theorem s_swap {ts vs : List Expr} {k k2 : Nat} {tpos vpos pos : Pos} {names : List Str} (hh : F.A.handled = none) (hs : swapsWithSole [.Tuple ts k tpos] (.Tuple vs k2 vpos) pos.line F.env = pure false)
    (hw : swappedStores [.Tuple ts k tpos] (.Tuple vs k2 vpos) F.env = pure (some names)) (hn : ∀ n ∈ names, Stores F n)
    (h : WE g F (eval (.Tuple vs k2 vpos) F.env) m H (fun a m H => ∃ xs, a = .tup xs ∧ xs.length = names.length ∧ Q .next (storeAll m names.reverse xs.reverse) H) X) : WS g F (exec (.Assign [.Tuple ts k tpos] (.Tuple vs k2 vpos) pos) F.env) m H Q X := fun s S => by
  rw [arm_exec_Assign]
  refine wpAny_bind (wpAny_standAt ?_)
  rw [hs]
  refine wpAny_bind (wpAny_pure ?_)
  rw [if_neg (by decide)]
  refine wpAny_bind (h.run S (fun v s₁ a m₁ H₁ r₁ S₁ k₁ ⟨xs, e, hlen, hq⟩ => ?_) fun _ _ x => x)
  subst e
  rw [hw]
  refine wpAny_bind (wpAny_pure ?_)
  unfold assignStores
  rw [VR.tup_iff] at r₁
  obtain ⟨t, ws, ep, rfl, et, rs⟩ := r₁
  refine wpAny_bind (wpAny_rule ?_)
  have hl : names.length = ws.toArray.size := by rw [List.size_toArray, rs.length, hlen]
  rw [hl]
  refine wpAny_bind (PyProof.Rows.unpackItems_tuple hh (items := ws.toArray) ⟨_, et, rfl, ep, rfl⟩ fun h' hx => ?_)
  have kp : ∀ b o, s₁.heap.get? b = some o → h'.get? b = some o := fun b o q => hx b o (Nat.ne_of_lt (Heap.lt_size q)) q
  obtain ⟨S₂, k₂⟩ := S₁.ext (t := s₁.toks) kp
  rw [List.toList_toArray]
  refine wpAny_bind (wpAny_mono (names_run (X := X) (xs := xs.reverse) (fun n' h' => hn n' (List.mem_reverse.mp h')) (by simp [hlen]) S₂ (k₁.trans k₂) ((rs.mono fun _ _ _ q => kp _ _ q).reverse)) (fun _ s₃ ⟨S₃, K₃⟩ => wpAny_pure ⟨.next, _, _, rfl, S₃, K₃, hq⟩) fun _ _ x => x)
end
end Mine
end
section
open PySem PySem.W PySem.Calls PyProof.Rows PySem.SeqAt
set_option linter.unusedVariables false
set_option maxRecDepth 100000
namespace Mine
def topFm (A : Around) (fd : FuncData) (f L : Addr) : Fm where
  A := A.deeper (callEnvC fd L f)
  env := callEnvC fd L f
  stack := [callEnvC fd L f]
  mine := L :: (((cellsFrom (L + 1) fd.scope.names []).filter fun p => (cellsFrom (L + 1) fd.scope.names []).lookup p.1 == some p.2).map (·.2))
  lvl := 1
section
variable {g : G} {A : Around} {s : Shared}
theorem enter0 {fd : FuncData} {f : Addr} {bs : List (Str × V)} {binds : List (Str × Value)} {s' : Shared} (hB : g.B = s.heap) (hgens : s.gens = #[]) (hos : s.os = g.os) (hA : A.frames = some []) (hg' : A.guards = some []) (hd : A.depth ≤ 310) (hu : A.units ≤ 100)
    (hk : fd.scope.kind = .function) (hg : fd.globals = mainGlobals) (hb : fd.builtins = builtinsNs)
    (hbr : BR s.heap bs binds) (hkind : ∀ x ∈ bs, fd.scope.names.lookup x.1 = some .local ∨ fd.scope.names.lookup x.1 = some .cell)
    (x : InCallC s (callEnvC fd s.heap.objs.size f).locals (bindL (callEnvC fd s.heap.objs.size f).kindOf binds fun _ => none) (callEnvC fd s.heap.objs.size f).cells (bindC (callEnvC fd s.heap.objs.size f).kindOf binds fun _ => none) s') :
    St g (topFm A fd f s.heap.objs.size) (bindAbs bs fun _ => none) (fun _ => none) s' := by
  obtain ⟨⟨⟨h', tk, rfl⟩, hn, kp, _⟩, hc, hap, hab⟩ := x
  have mn : Mono s.heap h' := ⟨fun _ _ _ e => kp _ _ e, .ext kp⟩
  have lt : ∀ b, s.heap.objs.size ≤ b → g.B.get? b = none := fun b n => by rw [hB]; exact Heap.get?_none_of_le n
  have big : ∀ n c, (callEnvC fd s.heap.objs.size f).cells.lookup n = some c → s.heap.objs.size ≤ c := fun n c e => Nat.le_of_lt (hab n c (mem_of_lookup e))
  obtain ⟨oL, esL, epL, eL, dL, _⟩ := id hn
  refine ⟨fun b o e => kp b o (hB ▸ e), (fun b o e => by cases e), ⟨hk, ⟨_, hn, fun y a ha => ?_⟩, fun y c hy => ⟨rfl, _, hc y c hy⟩, fun y z c hy hz => name_of_addr hap (mem_of_lookup hy) (mem_of_lookup hz)⟩, List.mem_cons_self, fun b hb' => ?_, ?_, fun b hb' => ?_, rfl, ?_, hgens, hos, ?_, ⟨hg, hb⟩⟩
  · obtain ⟨v, rv, w⟩ := bind_loc (kindOf := (callEnvC fd s.heap.objs.size f).kindOf) (mr := fun _ => none) (cm := fun _ => none) (BR.mono mn.tup _ _ hbr) hkind (fun _ _ q => by cases q) y a ha
    refine ⟨v, rv, ?_⟩
    rcases w with w | ⟨w1, w2⟩
    · exact .inl w
    · have : ((cellsFrom (s.heap.objs.size + 1) fd.scope.names []).lookup y).isSome = true := cellsFrom_some _ _ _ (.inl w1)
      obtain ⟨c, ec⟩ := Option.isSome_iff_exists.mp this
      exact .inr ⟨.inl w1, c, ec, w2 ▸ hc y c ec⟩
  · rcases List.mem_cons.mp hb' with rfl | hb'
    · exact ⟨rfl, lt _ (Nat.le_refl _), oL, eL, .inl ⟨_, _, dL⟩⟩
    · obtain ⟨p, hp, rfl⟩ := List.mem_map.mp hb'
      have e := eq_of_beq (List.mem_filter.mp hp).2
      obtain ⟨o, eo, d⟩ := hc p.1 p.2 e
      exact ⟨rfl, lt _ (big p.1 p.2 e), o, eo, .inr ⟨_, d⟩⟩
  · exact ⟨by show fd.scope.kind ≠ .module; rw [hk]; decide, ⟨_, oL, rfl, lt _ (Nat.le_refl _), eL, fun vs q => by rw [dL] at q; cases q⟩, trivial⟩
  · have : b = s.heap.objs.size := by
      have hb2 : b ∈ [s.heap.objs.size] := hb'
      simpa using hb2
    subst this
    exact ⟨rfl, oL, esL, epL, eL, dL⟩
  · exact Around.frames_deeper hA
  · refine ⟨?_, ?_, by show 1 ≤ 100; omega, hg'⟩
    · show A.depth + 1 ≤ 310 + 3 * 1; omega
    · show A.units + 3 ≤ 100 + 20 * 1; omega
theorem c_top {f : Addr} {fd : FuncData} {oc : Value} {od : Option Addr} {osl : Array (Option Value)} {body : List Stmt} {xs : List V} {bs : List (Str × V)} {vs : List Value} {Q : Value → Shared → Prop} {E : Value → Shared → Prop}
    (hB : g.B = s.heap) (hgens : s.gens = #[]) (hos : s.os = g.os) (hA : A.frames = some []) (hg' : A.guards = some []) (hd : A.depth ≤ 310) (hu : A.units ≤ 100)
    (ho : g.K.lookup f = some ⟨oc, od, .func fd, osl⟩) (hcd : codeIn g.K fd.code fd.qualname = true) (hbody : fd.body = .stmts body) (hg : fd.globals = mainGlobals) (hb : fd.builtins = builtinsNs) (hcl : fd.closure = [])
    (hco : fd.scope.isCoroutine = false) (hgen : fd.scope.isGenerator = false) (hk : fd.scope.kind = .function) (r : Value → List (Str × Value)) (he : ∀ v S, peek g.K S (bindArgs fd ⟨[v], []⟩) = some (r v)) {v : Value} (hbr : BR s.heap bs (r v))
    (hkind : ∀ x ∈ bs, fd.scope.names.lookup x.1 = some .local ∨ fd.scope.names.lookup x.1 = some .cell) (hnames : ∀ x ∈ r v, ∃ y ∈ bs, y.1 = x.1)
    (h : WS g (topFm A fd f s.heap.objs.size) (execs body (topFm A fd f s.heap.objs.size).env) (bindAbs bs fun _ => none) (fun _ => none) (fun fl _ _ => fl.val = .bool true) (fun _ _ _ _ => False))
    (hq : ∀ s', (∀ b o, s.heap.get? b = some o → s'.heap.get? b = some o) → s'.gens = #[] → s'.os = g.os → Q (.bool true) s') : wpAny (model g.prog g.w) A (call (.ref f) [v]) Q E s := by
  have X0 : g.K.In s.heap := hB ▸ g.kin
  refine wpAny_call (codeAny_call_function (by rw [show recursionLimit = 1000 from rfl]; omega) (X0 _ _ ho) rfl hco hgen hbody (codeRec_of X0 hcd) ?_)
  refine (Looks.of_peek (M := model g.prog g.w) X0 (he v _)).here ?_
  rw [hcl]
  refine wpAny_newFunctionEnv_cells hk (fun x hx => ?_) fun env he s₂ x => ?_
  · obtain ⟨y, hy, e⟩ := hnames x hx
    rw [← e]
    exact (hkind y hy).imp id fun q => ⟨q, cellsFrom_some _ _ _ (.inl q)⟩
  · subst he
    have x' : InCallC s (callEnvC fd s.heap.objs.size f).locals (bindL (callEnvC fd s.heap.objs.size f).kindOf (r v) fun _ => none) (callEnvC fd s.heap.objs.size f).cells (bindC (callEnvC fd s.heap.objs.size f).kindOf (r v) fun _ => none) s₂ := x
    have kp₂ : ∀ b o, s.heap.get? b = some o → s₂.heap.get? b = some o := x'.toInCall.keep
    have S₂ := enter0 (g := g) hB hgens hos hA hg' hd hu hk hg hb hbr hkind x'
    refine ⟨(hB ▸ g.nolim : s.heap.NoLimit).keeps kp₂, codeAny_func ?_⟩
    refine wpAny_mono (h s₂ S₂) (fun fl s₃ yy => yy.elim fun fl' m₃ H₃ r₃ S₃ K₃ q₃ => ?_) fun e s₃ yy => yy.no
    have keep : ∀ b o, s.heap.get? b = some o → s₃.heap.get? b = some o := fun b o e => S₃.base b o (hB ▸ e)
    cases fl' with
    | ret a =>
      obtain ⟨v, rfl, rv⟩ := r₃
      have q₃ : a = .bool true := q₃
      rw [q₃, VR.bool_iff] at rv
      subst rv
      exact hq s₃ keep S₃.gens S₃.os
    | next => cases q₃
    | brk => cases q₃
    | cont => cases q₃
end
end Mine
end
section
open PySem PySem.W PySem.Calls PyProof.Rows PySem.SeqAt
set_option linter.unusedVariables false
set_option maxRecDepth 100000
namespace Mine
def topF0 (A : Around) (fd : FuncData) (f L : Addr) : Fm where
  A := A
  env := callEnvC fd L f
  stack := []
  mine := []
  lvl := 0
theorem top_frame {A : Around} {fd : FuncData} {f L : Addr} : FrameOf (topFm A fd f L) (topF0 A fd f L) fd.scope := by
  refine ⟨rfl, rfl, rfl, fun y hy => ?_, rfl⟩
  have : ((cellsFrom (L + 1) fd.scope.names []).lookup y).isSome = true := cellsFrom_some _ _ _ (.inl hy)
  obtain ⟨c, ec⟩ := Option.isSome_iff_exists.mp this
  exact ⟨c, ec, List.mem_cons_of_mem _ (List.mem_map.mpr ⟨(y, c), List.mem_filter.mpr ⟨mem_of_lookup ec, by rw [ec]; simp⟩, rfl⟩)⟩
section
variable {g : G} {A : Around} {s : Shared}
theorem c_topF {f : Addr} {fd : FuncData} {oc : Value} {od : Option Addr} {osl : Array (Option Value)} {body : List Stmt} {bs : List (Str × V)} {Q : Value → Shared → Prop} {E : Value → Shared → Prop}
    (hB : g.B = s.heap) (hgens : s.gens = #[]) (hos : s.os = g.os) (hA : A.frames = some []) (hg' : A.guards = some []) (hd : A.depth ≤ 310) (hu : A.units ≤ 100)
    (ho : g.K.lookup f = some ⟨oc, od, .func fd, osl⟩) (hcd : codeIn g.K fd.code fd.qualname = true) (hbody : fd.body = .stmts body) (hg : fd.globals = mainGlobals) (hb : fd.builtins = builtinsNs) (hcl : fd.closure = [])
    (hco : fd.scope.isCoroutine = false) (hgen : fd.scope.isGenerator = false) (hk : fd.scope.kind = .function) (r : Value → List (Str × Value)) (he : ∀ v S, peek g.K S (bindArgs fd ⟨[v], []⟩) = some (r v)) {v : Value} (hbr : BR s.heap bs (r v))
    (hkind : ∀ x ∈ bs, fd.scope.names.lookup x.1 = some .local ∨ fd.scope.names.lookup x.1 = some .cell) (hnames : ∀ x ∈ r v, ∃ y ∈ bs, y.1 = x.1)
    (h : ∀ F' F, F.lvl = 0 → F.A = A → FrameOf F' F fd.scope → WS g F' (execs body F'.env) (bindAbs bs fun _ => none) (fun _ => none) (fun fl _ _ => fl.val = .bool true) (fun _ _ _ _ => False))
    (hq : ∀ s', (∀ b o, s.heap.get? b = some o → s'.heap.get? b = some o) → s'.gens = #[] → s'.os = g.os → Q (.bool true) s') : wpAny (model g.prog g.w) A (call (.ref f) [v]) Q E s :=
  c_top (xs := []) (vs := []) hB hgens hos hA hg' hd hu ho hcd hbody hg hb hcl hco hgen hk r he hbr hkind hnames (h _ (topF0 A fd f s.heap.objs.size) rfl rfl top_frame) hq
end
end Mine
end
section
open PySem PySem.W PySem.Calls PyProof.Rows PySem.SeqAt
set_option linter.unusedVariables false
set_option maxRecDepth 100000
namespace Mine
def LB (g : G) (a : Addr) (ns : List Int) : Prop := ∃ vs : List Value, g.B.IsList a vs.toArray ∧ IntsAre vs ns
section
variable {g : G} {F : Fm} {m : Loc} {H : AH} {s : Shared} {X : Value → List V → Loc → AH → Prop} {Q : V → Loc → AH → Prop} {l : Addr} {ns : List Int}
theorem LB.at (S : St g F m H s) (x : LB g l ns) : ∃ vs o ep, s.heap.get? l = some o ∧ o.cls = .type "list" ∧ o.data = .seq vs.toArray ep ∧ VRs s.heap (nums ns) vs := by
  obtain ⟨vs, ⟨o, e, c, ep, d⟩, i⟩ := x
  exact ⟨vs, o, ep, S.base _ _ e, c, d, are_nums i⟩
theorem c_lenB (hl : LB g l ns) (hz : ns.length < 2 ^ 60) (h : Q (.int ns.length) m H) : WC g F (.builtin "len") [.ref l] m H Q X := wc1 fun s v S r => by
  rw [VR.ref_iff] at r; subst r
  obtain ⟨vs, o, ep, e, c, d, rs⟩ := hl.at S
  have hlen := rs.length
  rw [ints_length] at hlen
  refine call_len_list (items := vs.toArray) ⟨_, e, c, ep, d⟩ (by rw [List.size_toArray]; omega) (OkP.now S rfl rfl rfl ?_ h)
  rw [List.size_toArray, hlen]; exact .int' _ _
theorem o_itemB {k : Int} {x : Int} (hl : LB g l ns) (h0 : 0 ≤ k) (hz : k < 2 ^ 60) (hx : ns[k.toNat]? = some x) (h : Q (.int x) m H) : W2 g F VR (.ref l) (.int k) getItem m H Q X := fun s v u S r r' => by
  rw [VR.ref_iff] at r; subst r; rw [VR.int_iff] at r'; obtain ⟨t, rfl⟩ := r'
  obtain ⟨vs, o, ep, e, c, d, rs⟩ := hl.at S
  obtain ⟨v, ev, rv⟩ := rs.getElem? (ints_get hx)
  exact wpAny_getItem_list (items := vs.toArray) ⟨_, e, c, ep, d⟩ h0 (by omega) (by simpa using ev) (OkP.now S rfl rfl rfl rv h)
theorem gi_listB {i : V} (hl : LB g l ns) (h : W2 g F VR (.ref l) i getItem m H Q X) : GI g F (.ref l) i m H Q X :=
  ⟨"list", _, list_getitem_lookup, fun s v S r => by rw [VR.ref_iff] at r; subst r; obtain ⟨vs, o, ep, e, c, d, rs⟩ := hl.at S; exact ⟨_, e, c⟩, h⟩
theorem c_sumB (hh : F.A.handled = none) (hl : LB g l ns) (h : Q (.int ns.sum) m H) : WC g F (.builtin "sum") [.ref l] m H Q X := wc1 fun s v S r => by
  rw [VR.ref_iff] at r; subst r
  obtain ⟨vs, o, ep, e, c, d, rs⟩ := hl.at S
  obtain ⟨ys, rfl, rfl⟩ := nums_items (nums_are rs)
  refine sum_intListG (xs := ys.toArray) hh ⟨_, e, c, ep, by rw [d]; simp [intItems]⟩ fun h' tk t' kp => ?_
  obtain ⟨S', K'⟩ := S.ext (t := tk) kp
  refine ⟨.int _, m, H, ?_, S', K', h⟩
  rw [preSum_eq]
  simp only [List.size_toArray]
  rw [List.take_of_length_le (by simp)]
  exact .int' _ _
theorem gi_atB {k : Nat} {x : Int} (hl : LB g l ns) (hk : k < 1000) (hx : ns[k]? = some x) (h : Q (.int x) m H) : GI g F (.ref l) (.int (0 + (k : Int))) m H Q X :=
  gi_listB hl (o_itemB hl (by omega) (by omega) (by rw [show (0 + (k : Int)).toNat = k by omega]; exact hx) h)
end
end Mine
end
section
open PySem PySem.W PySem.Calls PyProof.Rows PySem.SeqAt
set_option linter.unusedVariables false
set_option maxRecDepth 100000
namespace Mine
def shr (a b : Int) : Int := if b ≥ ((Builtin.Int.intBits a : Nat) : Int) then (if a < 0 then -1 else 0) else a.fdiv (2 ^ b.toNat)
section
variable {g : G} {F : Fm} {m : Loc} {H : AH} {s : Shared} {X : Value → List V → Loc → AH → Prop} {Q : V → Loc → AH → Prop}
theorem o_shr {a b : Int} (hb : 0 ≤ b) (h : Q (.int (shr a b)) m H) : W2 g F VR (.int a) (.int b) (binaryOp .RShift) m H Q X := fun s v u S r r' => by
  rw [VR.int_iff] at r r'; obtain ⟨t, rfl⟩ := r; obtain ⟨t', rfl⟩ := r'
  unfold shr at h
  by_cases q : b ≥ ((Builtin.Int.intBits a : Nat) : Int)
  · rw [if_pos q] at h
    exact AutoIntOps.rshift_1 (Int.not_lt.mpr hb) q (OkP.now S rfl rfl rfl (.int' _ _) h)
  · rw [if_neg q] at h
    exact AutoIntOps.rshift_2 (Int.not_lt.mpr hb) q (OkP.now S rfl rfl rfl (.int' _ _) h)
theorem o_band {a b : Int} (h : Q (.int (Builtin.bitAnd a b)) m H) : W2 g F VR (.int a) (.int b) (binaryOp .BitAnd) m H Q X := fun s v u S r r' => by
  rw [VR.int_iff] at r r'; obtain ⟨t, rfl⟩ := r; obtain ⟨t', rfl⟩ := r'
  exact PyProof.Rows.and_int (OkP.now S rfl rfl rfl (.int' _ _) h)
theorem o_not {a : V} (h : W1 g F EqR a truthy m H (fun b m H => Q (.bool (!b)) m H) X) : W1 g F VR a (unaryOp .Not) m H Q X := fun s v S r =>
  not_value (wpAny_mono (h s v S r) (fun b s' x => x.elim fun b' m' H' e S' K' q => ⟨.bool (!b'), m', H', e ▸ .bool' _, S', K', q⟩) fun _ _ x => x)
theorem tr_inst {a C dx f : Addr} {fs : List (Str × V)} {Q : Bool → Loc → AH → Prop} (hs : findIn g.K (.ref C) "__bool__" = some (some (.ref f))) (hf : isFn g.K (.ref f) = true) (ha : H a = some (.inst C dx)) (hd : H dx = some (.ns fs))
    (h : WCode g F (.ref f) [.ref a] m H (fun v m' H' => ∃ b, v = .bool b ∧ Q b m' H') X) : W1 g F EqR (.ref a) truthy m H Q X := fun s v S r => by
  rw [VR.ref_iff] at r; subst r
  obtain ⟨es, n, I, _, hr⟩ := inst_at S ha hd
  unfold truthy
  refine wpAny_bind (m := callSpecial? (.ref a) (Str.ofString "__bool__")) (special_fn S.kin I hs (beq_iff_eq.mp hf) (wpAny_mono (h.call s [.ref a] S (.cons (.ref' _) .nil')) (fun r s' hr => ?_) fun _ _ y => y))
  obtain ⟨b, m', H', rb, S', K', c, rfl, q⟩ := hr
  rw [VR.bool_iff] at rb; subst rb
  exact wpAny_pure ⟨c, m', H', rfl, S', K', q⟩
theorem St.up2 (S : St g F m H s) (hl : F.lvl < 100) : St g (F.up F.A.in1.in1) m H s := by
  refine ⟨S.base, S.obj, ⟨S.loc.kind, S.loc.val, S.loc.cell, S.loc.apart⟩, S.locm, S.mine, S.frs, S.frd, S.frame, S.Afr, S.gens, S.os, ?_, S.envg⟩
  obtain ⟨r1, r2, r3, r4⟩ := S.room
  refine ⟨?_, ?_, hl, r4⟩
  · show F.A.depth ≤ 310 + 3 * (F.lvl + 1); omega
  · show F.A.units + 1 + 1 ≤ 100 + 20 * (F.lvl + 1); omega
theorem c_boolI {a C dx f : Addr} {fs : List (Str × V)} (hl : F.lvl < 100) (hs : findIn g.K (.ref C) "__bool__" = some (some (.ref f))) (hf : isFn g.K (.ref f) = true) (ha : H a = some (.inst C dx)) (hd : H dx = some (.ns fs))
    (h : ∀ A, A.handled = F.A.handled → WCode g (F.up A) (.ref f) [.ref a] m H (fun v m' H' => ∃ b, v = .bool b ∧ Q v m' H') X) : WC g F (.type "bool") [.ref a] m H Q X := wc1 fun s v S r => by
  rw [VR.ref_iff] at r; subst r
  refine callType_newIn (S := fun A R s => wpAny (model g.prog g.w) A.in1 (truthy (.ref a)) (fun b s' => R (.ok (.ret (.bool b))) s') (fun e s' => R (.error e) s') s) PySem.F.called_bool PySem.F.newNe_bool (PySem.F.typeCall_bool_1 _) (PySem.F.newCall_bool_1 _) (fun obj => PySem.F.args_object_init_2 obj _) PySem.F.entry_bool_new (.of_wp fun A R s h => ?_) ?_
  · unfold Builtin.«bool.__new__»
    refine wpAny_bind (wpAny_pure ?_)
    refine wpAny_bind (wpAny_of_eq (a := true) (by rw [isSubtype_type]; kernel_rfl) ?_)
    rw [if_neg (by decide)]
    refine wpAny_bind (wpAny_pure ?_)
    exact wpAny_bind (wpAny_mono h (fun b s' z => wpAny_pure ⟨_, rfl, z⟩) fun _ _ z => z)
  · have hw : WCode g (F.up F.A.in1.in1) (.ref f) [.ref a] m H (fun v m' H' => ∃ b, v = .bool b ∧ (fun b m' H' => Q (.bool b) m' H') b m' H') X := fun s vs S r => codeAny_mono (h F.A.in1.in1 rfl s vs S r) fun r s' z => by
      rcases r with e | (v | _ | _ | _)
      · exact z
      all_goals first
        | exact z.elim
        | (obtain ⟨bb, mm, HH, r1, S1, K1, b, rfl, q⟩ := z
           exact ⟨_, mm, HH, r1, S1, K1, b, rfl, q⟩)
    have := tr_inst hs hf ha hd hw s (.ref a) (S.up2 hl) (.ref' _)
    refine wpAny_mono this (fun b s' z => z.elim fun b' m' H' e S' K' q => ?_) fun e s' z => z.elim fun c as m' H' f' S' K' q => ⟨c, as, m', H', f', S.down S', ⟨K'.alive, K'.dct, K'.same⟩, q⟩
    subst e
    exact ⟨typeIs_bool' _ _, .bool _, m', H', .bool' _, S.down S', ⟨K'.alive, K'.dct, K'.same⟩, q⟩
theorem c_pop0 {l : Addr} {xs : List V} {x : V} (hl : H l = some (.list (x :: xs))) (hz : xs.length < 16000000) (h : Q x m (put H l (.list xs))) : WC g F (.builtin "list.pop") [.ref l, .int 0] m H Q X := wc2 fun s v u S r ru => by
  rw [VR.ref_iff] at r; subst r
  rw [VR.int_iff] at ru; obtain ⟨t, rfl⟩ := ru
  obtain ⟨vs, ep, e, rs⟩ := S.listAt hl
  obtain ⟨v, ws, rfl, rv, rw'⟩ := rs.uncons
  have hlen := rw'.length
  obtain ⟨S', K'⟩ := S.mut (t := s.toks) (f := fun z => z.eraseIdxIfInBounds 0) (ys := xs) (ws := ws) hl e (by simp [Array.eraseIdxIfInBounds]) rw'
  refine call_meets PySem.F.slot_list_pop ⟨_, e, rfl⟩ PySem.F.entry_list_pop (PySem.F.args_list_pop_2 _ _) (MeetsSeq.list_pop_at l (v :: ws).toArray ep 0 t 0 v (by decide) (by simp [seqIndex?]) (by simp) (by simp [hlen, sizeLine_eq]; omega)) ⟨e, x, m, _, ?_, S', K', h⟩
  exact rv.mono (K'.mono S).tup
theorem c_count {l : Addr} {ns : List Int} {k : Int} (hl : H l = some (.list (nums ns))) (h : Q (.int (ns.count k : Nat)) m H) : WC g F (.builtin "list.count") [.ref l, .int k] m H Q X := wc2 fun s v u S r ru => by
  rw [VR.ref_iff] at r; subst r
  rw [VR.int_iff] at ru; obtain ⟨t, rfl⟩ := ru
  obtain ⟨vs, ep, e, rs⟩ := S.listAt hl
  obtain ⟨ys, rfl, rfl⟩ := nums_items (nums_are rs)
  refine call_meets PySem.F.slot_list_count ⟨_, e, rfl⟩ PySem.F.entry_list_count (PySem.F.args_list_count_2 _ _) (MeetsSeq.list_count l _ ep (.int k t) (fun v => match v with | .int a _ => a == k | _ => false) (fun y hy => ?_)) ⟨e, OkP.now S rfl rfl rfl ?_ h⟩
  · simp only [List.mem_toArray, List.mem_map] at hy
    obtain ⟨p, _, rfl⟩ := hy
    exact MeetsSeq.EqGives.int _ _ _ _
  · have e2 : (List.countP (fun v => match v with | Value.int a _ => a == k | _ => false) (List.map (fun p => Value.int p.1 p.2) ys)) = (ys.map (·.1)).count k := by
      rw [List.countP_map, List.count, List.countP_map]; rfl
    simp only [e2]
    exact .int' _ _
theorem eraseIdx_idxOf (ns : List Int) (k : Int) : ns.eraseIdx (ns.idxOf k) = ns.erase k := by
  induction ns with
  | nil => rfl
  | cons n ns ih =>
    rw [List.idxOf_cons, List.erase_cons]
    by_cases q : (n == k) = true
    · simp [q]
    · simp [q, ih]
theorem nums_eraseIdx : ∀ (ns : List Int) (i : Nat), (nums ns).eraseIdx i = nums (ns.eraseIdx i)
  | [], _ => rfl
  | _ :: _, 0 => rfl
  | n :: ns, i + 1 => congrArg (V.int n :: ·) (nums_eraseIdx ns i)
theorem VRs.eraseIdx {h : Heap} : ∀ {xs : List V} {vs : List Value} (i : Nat), VRs h xs vs → VRs h (xs.eraseIdx i) (vs.eraseIdx i)
  | [], _, _, r => by rw [VRs.nil_iff] at r; subst r; simpa using VRs.nil'
  | x :: xs, _, i, r => by
    obtain ⟨v, r', rfl, rv, rr⟩ := r.uncons
    cases i with
    | zero => exact rr
    | succ i => exact .cons rv (VRs.eraseIdx i rr)
theorem c_remove {l : Addr} {ns : List Int} {k : Int} (hl : H l = some (.list (nums ns))) (hz : ns.length ≤ 1000) (hk : k ∈ ns) (h : Q .none m (put H l (.list (nums (ns.erase k))))) : WC g F (.builtin "list.remove") [.ref l, .int k] m H Q X := wc2 fun s v u S r ru => by
  rw [VR.ref_iff] at r; subst r
  rw [VR.int_iff] at ru; obtain ⟨t, rfl⟩ := ru
  obtain ⟨vs, ep, e, rs⟩ := S.listAt hl
  have hj := List.idxOf_lt_length_of_mem hk
  have hlen := rs.length
  rw [ints_length] at hlen
  have rsE := rs.eraseIdx (ns.idxOf k)
  have e0 : (nums ns).eraseIdx (ns.idxOf k) = nums (ns.erase k) := by rw [← eraseIdx_idxOf, nums_eraseIdx]
  rw [e0] at rsE
  obtain ⟨S', K'⟩ := S.mut (t := s.toks) (f := fun z => z.eraseIdxIfInBounds (ns.idxOf k)) (ys := nums (ns.erase k)) (ws := vs.eraseIdx (ns.idxOf k)) hl e (by simp [Array.eraseIdxIfInBounds, hlen, hj]) rsE
  obtain ⟨ys, rfl, rfl⟩ := nums_items (nums_are rs)
  refine call_meets PySem.F.slot_list_remove ⟨_, e, rfl⟩ PySem.F.entry_list_remove (PySem.F.args_list_remove_2 _ _) (MeetsSeq.list_remove l _ ep (.int k t) (fun v => match v with | .int a _ => a == k | _ => false) (fun y hy => ?_) ((ys.map (·.1)).idxOf k) (by simpa using hj) ?_ (fun i hi hlt => ?_) (by simp [sizeLine_eq]; simp at hz; omega)) ⟨e, .none, m, _, .none', S', K', h⟩
  · simp only [List.mem_toArray, List.mem_map] at hy
    obtain ⟨p, _, rfl⟩ := hy
    exact MeetsSeq.EqGives.int _ _ _ _
  · simp only [List.getElem_toArray, List.getElem_map]
    have z := List.getElem_idxOf hj
    rw [List.getElem_map] at z
    rw [beq_iff_eq]; exact z
  · have h1 : i < (ys.map (·.1)).length := by simpa using hi
    have hlt' : i < List.findIdx (fun x => x == k) (ys.map fun p => p.1) := hlt
    have z := List.not_of_lt_findIdx hlt'
    simp at z ⊢
    exact z
theorem mulL_core {prog : Program} {w : World} {A : Around} {E : Value → Shared → Prop} {l : Addr} {items : Array Value} {k : Nat} {x : Int} {u : Tok} {Q : Value → Shared → Prop}
    (hl : s.heap.get? l = some { cls := .type "list", dict := none, data := .seq items k, slots := #[] })
    (hlo : -(2 ^ 63 : Int) ≤ x) (hhi : x < 2 ^ 63) (hsz : items.size * x.toNat ≤ 2 ^ 24)
    (h : Q (.ref s.heap.objs.size) { s with heap := s.heap.push { cls := .type "list", data := .seq (List.foldl (fun x1 x2 => x1 ++ x2) #[] (List.replicate (if items.isEmpty = true then 0 else x.toNat) items)) } }) :
    wpAny (model prog w) A (binaryOp .Mult (.ref l) (.int x u)) Q E s :=
  wpAny_binaryOp_repeat_ref (T := "list") (U := "int") (by decide) ⟨_, hl, rfl⟩ (fun s' => typeIs_int s' x u) noFill_list_mul PySem.F.fills_int_mul PySem.F.slot_int_rmul repeat_list PySem.F.slot_int_index.lookup
    (call_meets PySem.F.slot_int_rmul (typeIs_int s x u) PySem.F.entry_int_rmul (PySem.F.args_int_rmul_2 _ _) (int___rmul___int_list x u l items k)
      ⟨hl, rfl, ⟨_, hl, rfl⟩, call_meets PySem.F.slot_list_mul ⟨_, hl, rfl⟩ PySem.F.entry_list_mul (PySem.F.args_list_mul_2 _ _)
        (AutoListH.list___mul___list_int_3 l items k x u (by simp [Builtin.List.listFitsIndex]; omega) (by omega) (by simp [Builtin.List.listTooLong, sizeLine]; omega))
        ⟨hl, h⟩⟩)
theorem o_mulL {l : Addr} {x : V} {n : Nat} (hl : H l = some (.list [x])) (hn : n ≤ 1000) (h : ∀ c, H c = none → Q (.ref c) m (put H c (.list (List.replicate n x)))) : W2 g F VR (.ref l) (.int (n : Int)) (binaryOp .Mult) m H Q X := fun s v u S r r' => by
  rw [VR.ref_iff] at r; subst r
  rw [VR.int_iff] at r'; obtain ⟨t, rfl⟩ := r'
  obtain ⟨vs, ep, e, rs⟩ := S.listAt hl
  obtain ⟨v, ws, rfl, rv, rw'⟩ := rs.uncons
  rw [VRs.nil_iff] at rw'; subst rw'
  have en : List.foldl (fun x1 x2 => x1 ++ x2) #[] (List.replicate (if ([v] : List Value).toArray.isEmpty = true then 0 else ((n : Int)).toNat) ([v] : List Value).toArray) = (List.replicate n v).toArray := by
    rw [listMul_foldl_if, Int.toNat_natCast]
    congr 1
    clear hn h
    induction n with
    | zero => rfl
    | succ n ih => rw [List.replicate_succ, List.replicate_succ, List.flatten_cons, ih]; rfl
  have rr : ∀ n, VRs s.heap (List.replicate n x) (List.replicate n v) := fun n => by
    induction n with
    | zero => exact .nil'
    | succ n ih => exact .cons rv ih
  have kp : ∀ b o, s.heap.get? b = some o → (s.heap.push (lstObj (List.replicate n v) 0)).get? b = some o := fun _ _ e => Heap.get?_push_of_some _ e
  refine mulL_core (items := ([v] : List Value).toArray) (k := ep) e (by omega) (by omega) (by rw [Int.toNat_natCast]; simp; omega) ?_
  rw [en]
  exact new_list S kp (Heap.get?_none_of_le (Nat.le_refl _)) (Heap.get?_push_size _ rfl) ((rr n).mono fun _ _ _ q => kp _ _ q) h
theorem o_neE {a b : Addr} {xs : List V} (ha : LA g H a xs) (hb : LA g H b []) (h : Q (.bool (!xs.isEmpty)) m H) : W2 g F VR (.ref a) (.ref b) (compareOp .NotEq) m H Q X := by
  cases xs with
  | nil => exact o_neL ha hb (by unfold dats; rfl) (by unfold dats; rfl) (by unfold deps; omega) (by unfold veqs; exact h)
  | cons x xs =>
      intro s v u S r r'
      rw [VR.ref_iff] at r r'; subst r r'
      obtain ⟨vs, ep, e, rs⟩ := ha.at S
      obtain ⟨ws, ep', e', rs'⟩ := hb.at S
      have sm := S.small
      have cl : cLine = 9900 := rfl
      have l1 : s.heap.IsList a vs.toArray := ⟨_, e, rfl, ep, rfl⟩
      have l2 : s.heap.IsList b ws.toArray := ⟨_, e', rfl, ep', rfl⟩
      exact RcNeAt.lists_lengths (A := F.A) (s := s) l1 l2 (by simp [rs.length, rs'.length]) (by omega) g.prog g.w _ _ (OkP.now S rfl rfl rfl (.bool' _) h)
end
end Mine
end
section
open PySem PySem.W PySem.Calls PyProof.Rows PySem.SeqAt
set_option linter.unusedVariables false
set_option maxRecDepth 100000
namespace Mine
theorem lookup_relabel_kind {env : Env} {k0 : NameKind} (hk : k0 ≠ .free) : ∀ {names : List (Str × NameKind)} {x : Str}, names.lookup x = some k0 →
    (names.map fun (n, k) => if (k == NameKind.free && env.scope.kind == .function && env.kindOf n == some .cell) then (n, NameKind.cell) else (n, k)).lookup x = some k0
  | [], _, h => by simp at h
  | (n, k) :: r, x, h => by
    have ih := @lookup_relabel_kind env k0 hk r x
    show List.lookup x ((if (k == NameKind.free && env.scope.kind == .function && env.kindOf n == some .cell) = true then (n, NameKind.cell) else (n, k)) :: _) = _
    rw [List.lookup_cons] at h
    by_cases q : x = n
    · subst q
      rw [beq_self_eq_true] at h
      cases h
      rw [if_neg (by simp [hk])]
      rw [List.lookup_cons, beq_self_eq_true]
    · rw [beq_eq_false_iff_ne.mpr q] at h
      split <;> rw [List.lookup_cons, beq_eq_false_iff_ne.mpr q] <;> exact ih h
theorem CompOf.kindOf {Fc F : Fm} {scope : Scope} (x : CompOf Fc F scope) {n : Str} {k : NameKind} (hk : k ≠ .free) (h : scope.names.lookup n = some k) : Fc.env.kindOf n = some k := by
  unfold Env.kindOf
  rw [x.sc]
  exact lookup_relabel_kind hk h
theorem CompOf.glo {Fc F : Fm} {scope : Scope} (x : CompOf Fc F scope) {n : Str} (h : scope.names.lookup n = some .globalImplicit) : Fc.env.kindOf n = some .globalImplicit := x.kindOf (by decide) h
def ownN (scope : Scope) (x : Str) : Bool := match scope.names.lookup x with | some .local => true | some .cell => true | _ => false
theorem ownN_or {scope : Scope} {x : Str} (h : ownN scope x = true) : scope.names.lookup x = some .local ∨ scope.names.lookup x = some .cell := by
  unfold ownN at h
  split at h
  · exact .inl ‹_›
  · exact .inr ‹_›
  · cases h
theorem CompOf.loc {Fc F : Fm} {scope : Scope} (x : CompOf Fc F scope) {n : Str} (h : ownN scope n = true) : Stores Fc n := by
  rcases ownN_or h with h | h
  · exact .inl (x.kindOf (by decide) h)
  · exact .inr ⟨x.kindOf (by decide) h, x.cel n h⟩
def headOk (outer names : List (Str × NameKind)) : Bool := names.all fun y => (y.2 != .cell || names.lookup y.1 == some .cell) && (y.2 != .local || names.lookup y.1 == some .local) && (y.2 != .free || (outer.lookup y.1 == some .cell && !(y.1 == ("__classdict__" : Str))))
theorem mem_of_lookup' {α β : Type} [BEq α] [LawfulBEq α] : ∀ {l : List (α × β)} {a : α} {b : β}, l.lookup a = some b → (a, b) ∈ l
  | [], _, _, h => by simp at h
  | (x, y) :: r, a, b, h => by
    rw [List.lookup_cons] at h
    by_cases q : a = x
    · subst q; rw [beq_self_eq_true] at h; cases h; exact List.mem_cons_self
    · rw [beq_eq_false_iff_ne.mpr q] at h; exact List.mem_cons_of_mem _ (mem_of_lookup' h)
theorem CompHead.of {F' F : Fm} {sc scope : Scope} (hF : FrameOf F' F sc) (hk : scope.kind = .function) (h : headOk sc.names scope.names = true) : CompHead F' scope := by
  have h' := List.all_eq_true.mp h
  have fr : ∀ x, (x, NameKind.free) ∈ scope.names → sc.names.lookup x = some .cell ∧ (x == ("__classdict__" : Str)) = false := fun x hx => by
    have := h' _ hx
    simp only [Bool.and_eq_true, Bool.or_eq_true, Bool.not_eq_true', beq_iff_eq] at this
    rcases this.2 with z | z
    · exact absurd z (by decide)
    · exact z
  refine ⟨hk, fun y hy q => ?_, fun x hx q => ?_, fun x hx => ?_, fun n hn => ?_⟩
  · have := h' y hy
    rw [q] at this
    simpa using this
  · have := h' x hx
    rw [q] at this
    simpa using this
  · obtain ⟨z1, z2⟩ := fr x (mem_of_lookup' hx)
    exact ⟨.inl ((hF.kindOf x).trans z1), z2⟩
  · obtain ⟨c, hc, _⟩ := hF.cells n (fr n hn).1
    exact ⟨c, hc⟩
def headIn (outer names : List (Str × NameKind)) : Bool := names.all fun y => (y.2 != .cell || names.lookup y.1 == some .cell) && (y.2 != .local || names.lookup y.1 == some .local) && (y.2 != .free || ((outer.lookup y.1 == some .cell || outer.lookup y.1 == some .free) && !(y.1 == ("__classdict__" : Str))))
theorem CompHead.inn {Fc F : Fm} {sc scope : Scope} (hF : CompOf Fc F sc) (hk : scope.kind = .function) (h : headIn sc.names scope.names = true) : CompHead Fc scope := by
  have h' := List.all_eq_true.mp h
  have fr : ∀ x, (x, NameKind.free) ∈ scope.names → (sc.names.lookup x = some .cell ∨ sc.names.lookup x = some .free) ∧ (x == ("__classdict__" : Str)) = false := fun x hx => by
    have := h' _ hx
    simp only [Bool.and_eq_true, Bool.or_eq_true, Bool.not_eq_true', beq_iff_eq] at this
    rcases this.2 with z | z
    · exact absurd z (by decide)
    · exact z
  refine ⟨hk, fun y hy q => ?_, fun x hx q => ?_, fun x hx => ?_, fun n hn => ?_⟩
  · have := h' y hy
    rw [q] at this
    simpa using this
  · have := h' x hx
    rw [q] at this
    simpa using this
  · obtain ⟨z1, z2⟩ := fr x (mem_of_lookup' hx)
    refine ⟨?_, z2⟩
    rcases z1 with z1 | z1
    · exact .inl (hF.kindOf (by decide) z1)
    · unfold Env.kindOf
      rw [hF.sc]
      exact lookup_relabel_free z1
  · rcases (fr n hn).1 with z | z
    · obtain ⟨c, hc, _⟩ := hF.cel n z; exact ⟨c, hc⟩
    · exact hF.cells n z
theorem CompOf.hh {Fc F : Fm} {scope : Scope} (x : CompOf Fc F scope) (h : F.A.handled = none) : Fc.A.handled = none := by rw [x.A]; exact h
theorem CompOf.st {Fc F : Fm} {scope : Scope} (x : CompOf Fc F scope) (h : F.stack ≠ []) : Fc.stack ≠ [] := by rw [x.stack]; exact h
theorem CompOf.lv {Fc F : Fm} {scope : Scope} (x : CompOf Fc F scope) {b : Nat} (h : F.lvl < b) : Fc.lvl < b := by rw [x.lvl]; exact h
def Sees (scope : Scope) (m m' : Loc) : Prop := ∀ y, scope.names.lookup y = some .free → m' y = m y
theorem Sees.start (scope : Scope) (m : Loc) : Sees scope m (compLoc scope m) := fun y h => if_pos h
theorem Sees.set {scope : Scope} {m m' : Loc} (s : Sees scope m m') {x : Str} {v : V} (h : ownN scope x = true) : Sees scope m (setL m' x v) := fun y hy => by
  unfold setL
  rw [if_neg (fun q => by subst q; rcases ownN_or h with h | h <;> rw [h] at hy <;> cases hy)]
  exact s y hy
theorem setL_self (m : Loc) (x : Str) (v : V) : setL m x v x = some v := if_pos rfl
theorem setL_ne (m : Loc) {x y : Str} (v : V) (h : y ≠ x) : setL m x v y = m y := if_neg h
section
variable {g : G} {F : Fm} {m : Loc} {H : AH} {s : Shared} {X : Value → List V → Loc → AH → Prop}
theorem s_setcomp {elt target iter : Expr} {ifs : List Expr} {tail : Fm → Addr → Sem Unit} {rest : List Comprehension} {scope : Scope} {pos spos : Pos} {x : Str} {px : Pos} {Q : Fl → Loc → AH → Prop}
    (hsw : swapsWith (.ListComp elt (⟨target, iter, ifs, 0⟩ :: rest) scope pos) (some (.Name x px)) spos.line F.env = pure true ∨ swapsWith (.ListComp elt (⟨target, iter, ifs, 0⟩ :: rest) scope pos) (some (.Name x px)) spos.line F.env = pure false) (hx : Stores F x)
    (hd : CompHead F scope) (hfs : ∀ x, foldedSetIterable iter F.env x = pure x) (hh : F.A.handled = none) (hs : F.stack ≠ [])
    (hct : ∀ Fc acc it, compTurn (.ListComp elt (⟨target, iter, ifs, 0⟩ :: rest) scope pos) 0 it (.ref acc) Fc.env = turnTree target iter ifs it (tail Fc acc) (.ListComp elt (⟨target, iter, ifs, 0⟩ :: rest) scope pos) 0 (.ref acc) Fc.env)
    (h : WE g F (eval iter F.env) m H (fun a m H => Walk0 g F scope target ifs tail a m H (fun ys H => ∀ b, H b = none → Q .next (setL m x (.ref b)) (put H b (.list ys))) (fun c as _ H => X c as m H)) X) :
    WS g F (exec (.Assign [.Name x px] (.ListComp elt (⟨target, iter, ifs, 0⟩ :: rest) scope pos) spos) F.env) m H Q X := by
  rcases hsw with q | q
  · exact s_comp q hx hd hfs hh hs hct h
  · exact s_assign hx q (e_comp hd hfs hh hs hct h)
theorem w0_gen {α : Type} {scope : Scope} {target : Expr} {ifs : List Expr} {tail : Fm → Addr → Sem Unit} {a : V} {xs : List α} {C : AH → Prop} {Q : List V → AH → Prop} {X' : Value → List V → Loc → AH → Prop} {valN : Nat → V} (val : α → V) (f : α → Option V) (P : AH → Prop)
    (I : Iterable g a xs.length valN C) (hval : ∀ i (h : i < xs.length), valN i = val xs[i]) (hP : ∀ H', P H' → C H') (p0 : P H)
    (ht : ∀ Fc acc, CompOf Fc F scope → ∀ x ∈ xs, ∀ ys : List V, ys.length ≤ xs.length → ∀ m' H', Sees scope m m' → P H' → ∀ J : List V → Loc → AH → Prop, (∀ m4 H4, P H4 → Sees scope m m4 → J (ys ++ (f x).toList) m4 H4) →
      WA g Fc target (val x) m' H' (fun m2 H2 => WB g Fc (testsOf ifs Fc.env) m2 H2 (fun ok m3 H3 => if ok then WAcc g Fc acc (tail Fc acc) ys m3 H3 J X' else J ys m3 H3) X') X')
    (hq : ∀ H', P H' → Q (xs.filterMap f) H') : Walk0 g F scope target ifs tail a m H Q X' := by
  refine ⟨xs.length, valN, C, fun i ys m' H' => P H' ∧ ys = (xs.take i).filterMap f ∧ Sees scope m m', I, fun i ys m' H' e => hP _ e.1, ⟨p0, rfl, .start _ _⟩, fun Fc acc hF i ys m' H' hi ⟨e1, e2, e3⟩ => ?_, fun ys m' H' ⟨e1, e2, _⟩ => ?_⟩
  · rw [hval i hi]
    have e4 : (xs.take (i + 1)).filterMap f = (xs.take i).filterMap f ++ (f xs[i]).toList := by
      rw [List.take_add_one, List.getElem?_eq_getElem hi, List.filterMap_append]
      show _ ++ List.filterMap f [xs[i]] = _
      rw [List.filterMap_cons, List.filterMap_nil]
      cases f xs[i] <;> rfl
    have hl : ys.length ≤ xs.length := by rw [e2]; exact Nat.le_trans (List.length_filterMap_le f _) (List.length_take_le' _ _)
    exact ht Fc acc hF xs[i] (List.getElem_mem hi) ys hl m' H' e3 e1 _ fun m4 H4 p4 s4 => ⟨p4, by rw [e4, e2], s4⟩
  · rw [List.take_of_length_le (Nat.le_refl _)] at e2
    subst e2
    exact hq _ e1
theorem w0_filter {scope : Scope} {x : Str} {px px2 : Pos} {c : Expr} {a : V} {ns : List Int} {C : AH → Prop} {Q : List V → AH → Prop} {X' : Value → List V → Loc → AH → Prop} {val : Nat → V} (t : Int → Bool) (I : Iterable g a ns.length val C) (hval : ∀ i (h : i < ns.length), val i = .int ns[i]) (hC : C H) (hz : ns.length ≤ 1000)
    (hx : ownN scope x = true) (hd : (x == ("__debug__" : Str)) = false)
    (ht : ∀ Fc, CompOf Fc F scope → ∀ n ∈ ns, ∀ m', Sees scope m m' → m' x = some (.int n) → WB g Fc (isTrue c Fc.env (eval c Fc.env)) m' H (fun b m'' H'' => b = t n ∧ m'' = m' ∧ H'' = H) X') (hq : Q (nums (ns.filter t)) H) :
    Walk0 g F scope (.Name x px) [c] (emitTail (.Name x px2)) a m H Q X' := by
  refine ⟨ns.length, val, C, fun i ys m' H' => H' = H ∧ ys = nums ((ns.take i).filter t) ∧ Sees scope m m', I, fun i ys m' H' ⟨e, _⟩ => by rw [e]; exact hC, ⟨rfl, rfl, .start _ _⟩, fun Fc acc hF i ys m' H' hi ⟨e1, e2, e3⟩ => ?_, fun ys m' H' ⟨e1, e2, _⟩ => ?_⟩
  · subst e1
    rw [hval i hi]
    have s' : Sees scope m (setL m' x (.int ns[i])) := e3.set hx
    refine a_name (hF.loc hx) (tests_one (Wt.post (ht Fc hF ns[i] (List.getElem_mem hi) _ s' (setL_self ..)) fun b m'' H'' ⟨q1, q2, q3⟩ => ?_))
    subst q1 q2 q3
    have e4 : (ns.take (i + 1)).filter t = (ns.take i).filter t ++ (if t ns[i] then [ns[i]] else []) := by
      rw [List.take_add_one, List.getElem?_eq_getElem hi, List.filter_append]
      cases z : t ns[i] <;> simp [z]
    by_cases q : t ns[i] = true
    · rw [if_pos q]
      refine acc_emit (by rw [e2, ints_length, sizeLine_eq]; have := List.length_filter_le t (ns.take i); simp at this; omega) (e_name (setL_self ..) ⟨rfl, ?_, s'⟩ hd)
      rw [e4, if_pos q, e2]; unfold nums; simp
    · rw [if_neg q]
      exact ⟨rfl, by rw [e4, if_neg q, e2, List.append_nil], s'⟩
  · subst e1 e2
    rw [List.take_of_length_le (Nat.le_refl _)]
    exact hq
end
end Mine
end
section
set_option maxRecDepth 100000
set_option maxHeartbeats 8000000
namespace Mine
open PySem PySem.W PyProof.Rows
section
local macro_rules | `(tactic| o_head $_) => `(tactic| assumption)
theorem kx (h : PySem.Challenge.rw_dv0015_02.row.Holds) : PySem.Challenge.rw_dv0015_02.row.Holds := by k_head
end
noncomputable abbrev pw : Program := PySem.Challenge.rw_dv0015_02.row.prog
noncomputable def ks : List Addr := [2,3,15,17,18,20,21,29,30,32,33,35,36,37,39,40,41,42,43,46,53,54,55,56,66,67,69,70,72,73,74,76,77,79,80,81,83,84,86,87,88,91,92,93,95,96,98,99,100,102,103,105,106,107,109,110,112,113,114,116,117,119,120,121,123,124,126,127,128,130,131,133,134,135,136,137,138,139,142,144,145,147,148,149,152,153,154,156,157,159,160,161,163,164,166,167,168,171,172,173,176,177]
theorem ks_is (P : Params) : ks = (kx.heap_1 P).map (·.1) := by kernel_rfl
noncomputable def qv : Program := view pw [0, 2, 3, 4, 5, 6, 8, 9, 10, 11, 12, 13]
noncomputable def hk : Hook := kHook kx.heap_1 ks ks_is
noncomputable def xt (s : Shared) : Bool := xlAt qv [] s && recOk (RowW.records PySem.Challenge.rw_dv0015_02.row.toRowW) s
theorem left : LeftO pw qv ["_NodeInfo"] xt hk.obs hk.val 2574 := fun w => by
  unfold openEnds topFrom
  rw [PySem.W.Fast.te14082659384304107361, PySem.W.Fast.te14364793385576792824, PySem.W.Fast.te4187177175401517315]
  kernel_rfl
theorem said : PySem.Challenge.rw_dv0015_02.wellSaid = true := by
  rw [PySem.W.Fast.te9446332074065402090]
  kernel_rfl
end Mine
end
section
open PySem PySem.W PySem.Calls PyProof.Rows PySem.SeqAt
set_option linter.unusedVariables false
set_option maxRecDepth 100000
namespace Mine
structure Gd (g : G) : Prop where
  K : g.K = Mine.kx.heap_1 g.w.params
  ve : g.mb "ValueError" = some (.type "ValueError")
  bool : g.mb "bool" = some (.type "bool")
  len : g.mb "len" = some (.builtin "len")
  tuple : g.mb "tuple" = some (.type "tuple")
  iter : g.mb "iter" = some (.builtin "iter")
  set : g.mb "set" = some (.type "set")
  stop : g.mb "StopIteration" = some (.type "StopIteration")
  range : g.mb "range" = some (.type "range")
  list : g.mb "list" = some (.type "list")
  min : g.mb "min" = some (.builtin "min")
  max : g.mb "max" = some (.builtin "max")
  sum : g.mb "sum" = some (.builtin "sum")
  sorted : g.mb "sorted" = some (.builtin "sorted")
  own : OwnCls "CycleError" 55 [.type "ValueError", .type "Exception", .type "BaseException", .type "object"] "ValueError.__new__" g.mg g.B
section
variable {g : G}
theorem Gd.nb (D : Gd g) {x : Str} {r : Option (Option Value)} (h : nsIn (Mine.kx.heap_1 g.w.params) mainGlobals x = r) : nsIn g.K mainGlobals x = r := by rw [D.K]; exact h
theorem Gd.kp (D : Gd g) {f : Value} (h : keepIn (Mine.kx.heap_1 g.w.params) f = true) : Kp g f := .own (by rw [D.K]; exact h)
theorem Gd.lk (D : Gd g) {f : Addr} {r : Option Obj} (h : (Mine.kx.heap_1 g.w.params).lookup f = r) : g.K.lookup f = r := by rw [D.K]; exact h
theorem Gd.cd (D : Gd g) {c : Value} {q : Str} (h : codeIn (Mine.kx.heap_1 g.w.params) c q = true) : codeIn g.K c q = true := by rw [D.K]; exact h
end
theorem at_slot (p : Params) : AttrS (Mine.kx.heap_1 p) 40 "node" 41 0 ∧ AttrS (Mine.kx.heap_1 p) 40 "npredecessors" 42 1 ∧ AttrS (Mine.kx.heap_1 p) 40 "successors" 43 2 :=
  ⟨⟨rfl, rfl, rfl, rfl, rfl, rfl, rfl, rfl, rfl, rfl, by decide⟩, ⟨rfl, rfl, rfl, rfl, rfl, rfl, rfl, rfl, rfl, rfl, by decide⟩, ⟨rfl, rfl, rfl, rfl, rfl, rfl, rfl, rfl, rfl, rfl, by decide⟩⟩
theorem at_ns (p : Params) : AttrD (Mine.kx.heap_1 p) 137 "_node2info" ∧ AttrD (Mine.kx.heap_1 p) 137 "_ready_nodes" ∧ AttrD (Mine.kx.heap_1 p) 137 "_npassedout" ∧ AttrD (Mine.kx.heap_1 p) 137 "_nfinished" :=
  ⟨⟨rfl, rfl, ⟨_, rfl, rfl⟩, rfl, rfl, rfl⟩, ⟨rfl, rfl, ⟨_, rfl, rfl⟩, rfl, rfl, rfl⟩, ⟨rfl, rfl, ⟨_, rfl, rfl⟩, rfl, rfl, rfl⟩, ⟨rfl, rfl, ⟨_, rfl, rfl⟩, rfl, rfl, rfl⟩⟩
end Mine
end
section
open PySem PySem.W PySem.Calls PyProof.Rows PySem.SeqAt
set_option linter.unusedVariables false
set_option maxRecDepth 100000
namespace Mine
section
variable {g : G} {F : Fm} {m : Loc} {H : AH} {X : Value → List V → Loc → AH → Prop} {Q : V → Loc → AH → Prop} {σ : Srt} {B : List (Addr × O)}
theorem is_active_spec (D : Gd g) (hl : F.lvl < 90) (hh : F.A.handled = none) (s : Sat H (σ.lay ++ B))
    (h : match σ.rd with | none => X (.type "ValueError") [.str "prepare() must be called first"] m H | some (a, ns) => ns.length < 1000 ∧ Q (.bool (decide (σ.nf < σ.po) || !ns.isEmpty)) m H) : WCode g F (.ref 106) [.ref σ.x] m H Q X := by
  have A := at_ns g.w.params
  rw [← D.K] at A
  refine d_code (D.lk rfl) (D.cd rfl) rfl rfl rfl rfl rfl rfl rfl (lv100 hl rfl) (binds_peek (fun vs => [("self", vs.getD 0 .none)]) (fun vs S hv => ?_) (fun h vs r => ?_)) (bs := [("self", .ref σ.x)]) rfl fun F' hF => ?_
  · match vs, hv with | [v], _ => rfl
  · obtain ⟨v, r', rfl, rv, rr⟩ := r.uncons; exact ⟨v, [], rfl, rv, rfl⟩
  obtain ⟨x, dx, d, ep, rows, rd, po, nf⟩ := σ
  cases rd with
  | none =>
    refine s_cons (s_if (t_cmp rfl (e_attr (e_name rfl (x_get A.2.1 (Srt.inst s) (Srt.ns s) (x := .none) rfl rfl (e_none (o_isn (fun _ => by simp) (tr_bool ?_))))))))
    refine s_cons (s_raise PySem.F.excCall_ValueError PySem.F.excRaise_ValueError (hF.hh hh) rfl (hF.glo rfl) (D.nb rfl) D.ve (l_cons (e_str (l_nil ⟨by decide, h⟩))))
  | some r =>
    obtain ⟨a, ns⟩ := r
    obtain ⟨hz, h⟩ := h
    refine s_cons (s_if (t_cmp rfl (e_attr (e_name rfl (x_get A.2.1 (Srt.inst s) (Srt.ns s) (x := .ref a) rfl rfl (e_none (o_isn (fun _ => by simp) (tr_bool ?_))))))))
    refine s_nil ?_
    refine s_cons (s_ret (e_or (e_cmp rfl (e_attr (e_name rfl (x_get A.2.2.2 (Srt.inst s) (Srt.ns s) (x := .int nf) rfl rfl (e_attr (e_name rfl (x_get A.2.2.1 (Srt.inst s) (Srt.ns s) (x := .int po) rfl rfl (o_lt (tr_bool ?_)))))))))))
    by_cases q : nf < po
    · simp only [q, decide_true, if_true]
      simp only [q, decide_true, Bool.true_or] at h
      exact h
    · simp only [q, decide_false, Bool.false_eq_true, if_false]
      simp only [q, decide_false, Bool.false_or] at h
      refine e_call (e_blt (hF.glo rfl) (D.nb rfl) D.bool ⟨_, rfl, cw_plain (.type _) (l_cons (e_attr (e_name rfl (x_get A.2.1 (Srt.inst s) (Srt.ns s) (x := .ref a) rfl rfl (l_nil (c_boolL (.own (Srt.ready s rfl)) (by rw [ints_length]; omega) ?_))))))⟩)
      have e : (nums ns).isEmpty = ns.isEmpty := by cases ns <;> rfl
      rw [e]
      exact h
end
end Mine
end
section
open PySem PySem.W PySem.Calls PyProof.Rows PySem.SeqAt
set_option linter.unusedVariables false
set_option maxRecDepth 100000
namespace Mine
theorem sat2 {H : AH} {L : List (Addr × O)} {a b : Addr} {o o' : O} (s : Sat H ((a, o) :: (b, o') :: L)) : Sat H ((b, o') :: (a, o) :: L) := s.perm (List.Perm.swap ..)
section
variable {g : G} {F : Fm} {m : Loc} {H : AH} {X : Value → List V → Loc → AH → Prop} {Q : V → Loc → AH → Prop} {σ : Srt} {B : List (Addr × O)}
theorem new_srt_spec (D : Gd g) (hl : F.lvl < 90) (s : Sat H B) (h : ∀ (σ : Srt) (H' : AH), σ.abs = ⟨[], none, 0, 0⟩ → Sat H' (σ.lay ++ B) → Q (.ref σ.x) m H') : WCode g F (.ref 137) [] m H Q X := by
  have A := at_ns g.w.params
  rw [← D.K] at A
  refine c_inst (by rw [D.K]; rfl) (fI := 73) (by rw [D.K]; rfl) (by rw [D.K]; rfl) (by omega) fun A' hA x dx hx hdx hne => ?_
  refine d_code (D.lk rfl) (D.cd rfl) rfl rfl rfl rfl rfl rfl rfl (show F.lvl + 1 < 100 by omega) (binds_peek (fun vs => [("self", vs.getD 0 .none), ("graph", .none)]) (fun vs S hv => ?_) (fun h vs r => ?_)) (bs := [("self", .ref x), ("graph", .none)]) rfl fun F' hF => ?_
  · match vs, hv with | [v], _ => rw [D.K]; rfl
  · obtain ⟨v, r', rfl, rv, rr⟩ := r.uncons; exact ⟨v, _, rfl, rv, .none, [], rfl, .none', rfl⟩
  have s1 : Sat (put (put H dx (.ns [])) x (.inst 137 dx)) ((x, .inst 137 dx) :: (dx, .ns []) :: B) := (s.new hdx).new (by rw [put_ne _ _ hne.symm]; exact hx)
  refine s_cons (s_assign1 rfl rfl rfl (e_dict0 fun d hd => a_attr (e_name rfl ?_)))
  have s2 := s1.new (o := .dict [] 0) hd
  refine x_set A.1 s2.at1 s2.at2 (by simp) ?_
  have s3 := s2.set2 (.ns [("_node2info", .ref d)])
  refine s_cons (s_assign1 rfl rfl rfl (e_none (a_attr (e_name rfl (x_set A.2.1 s3.at1 s3.at2 (by simp) ?_)))))
  have s4 := s3.set2 (.ns [("_node2info", .ref d), ("_ready_nodes", .none)])
  refine s_cons (s_assign1 rfl rfl rfl (e_int (a_attr (e_name rfl (x_set A.2.2.1 s4.at1 s4.at2 (by simp) ?_)))))
  have s5 := s4.set2 (.ns [("_node2info", .ref d), ("_ready_nodes", .none), ("_npassedout", .int 0)])
  refine s_cons (s_assign1 rfl rfl rfl (e_int (a_attr (e_name rfl (x_set A.2.2.2 s5.at1 s5.at2 (by simp) ?_)))))
  have s6 := s5.set2 (.ns [("_node2info", .ref d), ("_ready_nodes", .none), ("_npassedout", .int 0), ("_nfinished", .int 0)])
  refine s_cons (s_if (t_cmp rfl (e_name rfl (e_none (o_isnn (fun _ => by simp) (tr_bool (s_nil (s_nil ⟨rfl, ?_⟩))))))))
  refine h ⟨x, dx, d, 0, [], none, 0, 0⟩ _ rfl ?_
  have p : ((d, O.dict [] 0) :: (x, O.inst 137 dx) :: (dx, O.ns [("_node2info", .ref d), ("_ready_nodes", .none), ("_npassedout", .int 0), ("_nfinished", .int 0)]) :: B).Perm ((⟨x, dx, d, 0, [], none, 0, 0⟩ : Srt).lay ++ B) := by
    show List.Perm _ ((x, O.inst 137 dx) :: (dx, O.ns [("_node2info", .ref d), ("_ready_nodes", .none), ("_npassedout", .int 0), ("_nfinished", .int 0)]) :: (d, O.dict [] 0) :: B)
    exact (List.Perm.swap ..).trans (List.Perm.cons _ (List.Perm.swap ..))
  exact s6.perm p
end
end Mine
end
section
open PySem PySem.W PySem.Calls PyProof.Rows PySem.SeqAt
set_option linter.unusedVariables false
set_option maxRecDepth 100000
namespace Mine
section
variable {g : G} {F : Fm} {m : Loc} {H : AH} {X : Value → List V → Loc → AH → Prop} {Q : V → Loc → AH → Prop} {σ : Srt} {B : List (Addr × O)}
theorem new_node_spec (D : Gd g) (hl : F.lvl < 90) {k : Int} (s : Sat H B) (h : ∀ na la H', Sat H' ((na, .node 40 [.int k, .int 0, .ref la]) :: (la, .list []) :: B) → Q (.ref na) m H') : WCode g F (.ref 40) [.int k] m H Q X := by
  have A := at_slot g.w.params
  rw [← D.K] at A
  refine c_node (by rw [D.K]; rfl) (fI := 36) (by rw [D.K]; rfl) (by rw [D.K]; rfl) (by omega) fun A' hA x hx => ?_
  refine d_code (D.lk rfl) (D.cd rfl) rfl rfl rfl rfl rfl rfl rfl (show F.lvl + 1 < 100 by omega) (binds_peek (fun vs => [("self", vs.getD 0 .none), ("node", vs.getD 1 .none)]) (fun vs S hv => ?_) (fun h vs r => ?_)) (bs := [("self", .ref x), ("node", .int k)]) rfl fun F' hF => ?_
  · match vs, hv with | [v, u], _ => rw [D.K]; rfl
  · obtain ⟨v, r', rfl, rv, rr⟩ := r.uncons; obtain ⟨u, r', rfl, ru, rr⟩ := rr.uncons; exact ⟨v, _, rfl, rv, u, [], rfl, ru, rfl⟩
  have s1 : Sat (put H x (.node 40 [])) ((x, .node 40 []) :: B) := s.new hx
  refine s_cons (s_assign1 rfl rfl rfl (e_name rfl (a_attr (e_name rfl (x_slotset A.1 s1.at0 (by simp) ?_)))))
  have s2 := s1.set (.node 40 [.int k])
  refine s_cons (s_assign1 rfl rfl rfl (e_int (a_attr (e_name rfl (x_slotset A.2.1 s2.at0 (by simp) ?_)))))
  have s3 := s2.set (.node 40 [.int k, .int 0])
  refine s_cons (s_assign1 rfl rfl rfl (e_list (l_nil ⟨by decide, fun la hla => a_attr (e_name rfl ?_)⟩)))
  have s4 := s3.new (o := .list []) hla
  refine x_slotset A.2.2 s4.at1 (by simp) ?_
  have s5 := s4.set1 (.node 40 [.int k, .int 0, .ref la])
  exact s_nil ⟨rfl, h x la _ (sat2 s5)⟩
def findRow (rows : List Row) (k : Int) : Option Row := rows.find? fun r => r.k = k
theorem dget_rows (rows : List Row) (k : Int) : dget (dictOfRows rows) k = (findRow rows k).map fun r => .ref r.na := by
  unfold dget dictOfRows findRow
  induction rows with
  | nil => rfl
  | cons r rows ih =>
    rw [List.map_cons, List.find?_cons, List.find?_cons]
    by_cases q : r.k = k
    · simp [q]
    · simp only [q, decide_false]; exact ih
theorem findRow_some {rows : List Row} {k : Int} {r : Row} (h : findRow rows k = some r) : r ∈ rows ∧ r.k = k := ⟨List.mem_of_find?_eq_some h, by simpa using List.find?_some h⟩
theorem findRow_none {rows : List Row} {k : Int} (h : findRow rows k = none) : k ∉ rows.map (·.k) := fun q => by
  obtain ⟨r, hr, e⟩ := List.mem_map.mp q
  have := List.find?_eq_none.mp h r hr
  simp [e] at this
theorem findRow_mem {rows : List Row} {k : Int} (h : k ∈ rows.map (·.k)) : ∃ r, findRow rows k = some r := by
  cases q : findRow rows k with
  | some r => exact ⟨r, rfl⟩
  | none => exact absurd h (findRow_none q)
theorem gni_spec (D : Gd g) (hl : F.lvl < 80) {k : Int} (s : Sat H (σ.lay ++ B)) (hz : σ.rows.length < 1000)
    (h : ∀ (σ' : Srt) (r : Row) (H' : AH), σ'.x = σ.x → σ'.abs = σ.abs.ens k → σ'.rd = σ.rd → r ∈ σ'.rows → r.k = k → Sat H' (σ'.lay ++ B) → Q (.ref r.na) m H') : WCode g F (.ref 80) [.ref σ.x, .int k] m H Q X := by
  have A := at_ns g.w.params
  rw [← D.K] at A
  refine d_code (D.lk rfl) (D.cd rfl) rfl rfl rfl rfl rfl rfl rfl (lv100 hl rfl) (binds_peek (fun vs => [("self", vs.getD 0 .none), ("node", vs.getD 1 .none)]) (fun vs S hv => ?_) (fun h vs r => ?_)) (bs := [("self", .ref σ.x), ("node", .int k)]) rfl fun F' hF => ?_
  · match vs, hv with | [v, u], _ => rw [D.K]; rfl
  · obtain ⟨v, r', rfl, rv, rr⟩ := r.uncons; obtain ⟨u, r', rfl, ru, rr⟩ := rr.uncons; exact ⟨v, _, rfl, rv, u, [], rfl, ru, rfl⟩
  refine s_cons (s_if (t_cmp rfl (e_walrus (hF.loc rfl) (e_meth (e_attr (e_name rfl (x_get A.1 (Srt.inst s) (Srt.ns s) (x := .ref σ.d) rfl rfl ⟨_, meth_dict (Srt.dict s) PySem.F.slot_dict_get PySem.F.type_dict_get, cw_plain (.blt _) (l_cons (e_name rfl (l_nil (c_dget (Srt.dict s) ?_))))⟩)))))))
  rw [dget_rows]
  cases q : findRow σ.rows k with
  | some r =>
    obtain ⟨hr, hk⟩ := findRow_some q
    refine e_none (o_isn (fun _ => by simp) (tr_bool (s_nil ?_)))
    refine s_cons (s_ret (e_name rfl (h σ r H rfl ?_ rfl hr hk s)))
    unfold PS.ens
    rw [if_pos (by rw [Srt.names_abs]; rw [← hk]; exact List.mem_map_of_mem hr)]
  | none =>
    refine e_none (o_isn (fun _ => by simp) (tr_bool ?_))
    refine s_cons (s_assign2 rfl rfl (e_call (e_glob (hF.glo rfl) (D.nb rfl) (fun _ => .cst' _) ⟨_, rfl, cw_plain (D.kp rfl) (l_cons (e_name rfl (l_nil (WCode.call (new_node_spec D (hF.lv hl rfl) s fun na la H' s' => ?_)))))⟩)))
    have sx := s'.tail (A := [_, _])
    refine a_sub (e_attr (e_name rfl (x_get A.1 (Srt.inst sx) (Srt.ns sx) (x := .ref σ.d) rfl rfl (e_name rfl (o_dset (Srt.dict sx) (by unfold dictOfRows; rw [List.length_map]; omega) fun ep' => ?_)))))
    have e : dput (dictOfRows σ.rows) k (.ref na) = dictOfRows (σ.rows ++ [⟨k, na, 0, la, []⟩]) := by
      unfold dput
      have hn := findRow_none q
      rw [if_neg]
      · unfold dictOfRows; simp
      · intro z
        rw [List.any_eq_true] at z
        obtain ⟨p, hp, hpk⟩ := z
        unfold dictOfRows at hp
        obtain ⟨r, hr, rfl⟩ := List.mem_map.mp hp
        exact hn (by rw [← of_decide_eq_true hpk]; exact List.mem_map_of_mem hr)
    rw [e]
    have sf := Srt.newRow (ep := ep') sx s'
    refine a_name (hF.loc rfl) (s_nil (s_cons (s_ret (e_name rfl (h ⟨σ.x, σ.dx, σ.d, ep', σ.rows ++ [⟨k, na, 0, la, []⟩], σ.rd, σ.po, σ.nf⟩ ⟨k, na, 0, la, []⟩ _ rfl ?_ rfl (by simp) rfl sf)))))
    unfold PS.ens
    rw [if_neg (by rw [Srt.names_abs]; exact findRow_none q)]
    unfold Srt.abs
    simp [Row.abs]
end
end Mine
end
section
open PySem PySem.W PySem.Calls PyProof.Rows PySem.SeqAt
set_option linter.unusedVariables false
set_option maxRecDepth 100000
namespace Mine
theorem PS.names_upd (p : PS) (k : Int) (f : PRow → PRow) (h : ∀ r, (f r).k = r.k) : (p.upd k f).names = p.names := by
  unfold PS.upd PS.names
  rw [List.map_map]
  refine List.map_congr_left fun r _ => ?_
  show (if r.k = k then f r else r).k = r.k
  split
  · exact h r
  · rfl
theorem PS.names_ens (p : PS) (k : Int) : (p.ens k).names = if k ∈ p.names then p.names else p.names ++ [k] := by
  unfold PS.ens
  split
  · rfl
  · unfold PS.names; simp
theorem PS.nodup_ens {p : PS} (h : p.names.Nodup) (k : Int) : (p.ens k).names.Nodup := by
  rw [PS.names_ens]
  split
  · exact h
  · rename_i q
    rw [List.nodup_append]
    exact ⟨h, by simp, fun a ha b hb => by simp at hb; subst hb; intro e; subst e; exact q ha⟩
def PS.fits (p : PS) (n : Nat) : Prop := p.rows.length ≤ n ∧ ∀ r ∈ p.rows, r.su.length ≤ n
theorem PS.fits_ens {p : PS} {n : Nat} (h : p.fits n) (k : Int) : (p.ens k).fits (n + 1) := by
  unfold PS.ens
  split
  · exact ⟨Nat.le_succ_of_le h.1, fun r hr => Nat.le_succ_of_le (h.2 r hr)⟩
  · refine ⟨by simp; exact h.1, fun r hr => ?_⟩
    rcases List.mem_append.mp hr with hr | hr
    · exact Nat.le_succ_of_le (h.2 r hr)
    · simp at hr; subst hr; simp
theorem PS.fits_upd {p : PS} {n k : Nat} (h : p.fits n) (q : Int) (f : PRow → PRow) (hf : ∀ r, (f r).su.length ≤ r.su.length + k) : (p.upd q f).fits (n + k) := by
  unfold PS.upd
  refine ⟨by simp; have := h.1; omega, fun r hr => ?_⟩
  obtain ⟨r', hr', rfl⟩ := List.mem_map.mp hr
  have := h.2 r' hr'
  split
  · have := hf r'; omega
  · omega
theorem Srt.fits_rows {σ : Srt} {n : Nat} (h : σ.abs.fits n) : σ.rows.length ≤ n ∧ ∀ r ∈ σ.rows, r.su.length ≤ n := by
  refine ⟨by have := h.1; unfold Srt.abs at this; simpa using this, fun r hr => h.2 r.abs ?_⟩
  unfold Srt.abs; exact List.mem_map_of_mem hr
section
variable {g : G} {F : Fm} {m : Loc} {H : AH} {X : Value → List V → Loc → AH → Prop} {Q : V → Loc → AH → Prop} {σ : Srt} {B : List (Addr × O)}
theorem m_gni (p : Params) : MethD (Mine.kx.heap_1 p) 137 "_get_nodeinfo" 80 := ⟨rfl, rfl, rfl⟩
theorem add_spec (D : Gd g) (hl : F.lvl < 70) (hh : F.A.handled = none) {k : Int} {ps : List Int} (hps : ps.length ≤ 9) (s : Sat H (σ.lay ++ B)) (hk : σ.abs.names.Nodup) (hf : σ.abs.fits 500)
    (h : match σ.rd with | some _ => X (.type "ValueError") [.str "Nodes cannot be added after a call to prepare()"] m H | none => ∀ (σ' : Srt) (H' : AH), σ'.x = σ.x → σ'.abs = σ.abs.add k ps → Sat H' (σ'.lay ++ B) → Q .none m H') :
    WCode g F (.ref 87) (.ref σ.x :: .int k :: nums ps) m H Q X := by
  have A := at_ns g.w.params
  have A2 := at_slot g.w.params
  have M := m_gni g.w.params
  rw [← D.K] at A A2 M
  refine d_code (D.lk rfl) (D.cd rfl) rfl rfl rfl rfl rfl rfl rfl (lv100 hl rfl) (bs := ([("self", .ref σ.x), ("node", .int k)] : List (Str × V)) ++ ([("predecessors", .tup (nums ps))] : List (Str × V))) (binds_var (k := 2) (fun vs => [("self", vs.getD 0 .none), ("node", vs.getD 1 .none)]) (fun vs S hv => ?_) (fun h vs r => ?_)) rfl fun F' hF => ?_
  · rw [D.K]
    match vs, hv with
    | v :: u :: rest, hv =>
      have hr : rest.length ≤ 9 := by simp [nums] at hv; omega
      clear hv
      revert hr
      revert rest
      refine len9 ?_ ?_ ?_ ?_ ?_ ?_ ?_ ?_ ?_ ?_ <;> intros <;> exact ⟨_, rfl, fun _ => rfl⟩
  · obtain ⟨v, r', rfl, rv, rr⟩ := r.uncons; obtain ⟨u, r', rfl, ru, rr⟩ := rr.uncons; exact ⟨v, _, rfl, rv, u, [], rfl, ru, rfl⟩
  cases hrd : σ.rd with
  | some r =>
    obtain ⟨a, ns⟩ := r
    rw [hrd] at h
    refine s_cons (s_if (t_cmp rfl (e_attr (e_name rfl (x_get A.2.1 (Srt.inst s) (Srt.ns s) (x := .ref a) (by rw [hrd]; rfl) rfl (e_none (o_isnn (fun _ => by simp) (tr_bool ?_))))))))
    exact s_cons (s_raise PySem.F.excCall_ValueError PySem.F.excRaise_ValueError (hF.hh hh) rfl (hF.glo rfl) (D.nb rfl) D.ve (l_cons (e_str (l_nil ⟨by decide, h⟩))))
  | none =>
    rw [hrd] at h
    refine s_cons (s_if (t_cmp rfl (e_attr (e_name rfl (x_get A.2.1 (Srt.inst s) (Srt.ns s) (x := .none) (by rw [hrd]; rfl) rfl (e_none (o_isnn (fun _ => by simp) (tr_bool (s_nil ?_)))))))))
    refine s_cons (s_assign (hF.loc rfl) rfl (e_meth (e_name rfl ⟨_, meth_inst M (Srt.inst s) (Srt.ns s) rfl, cw_plain (D.kp rfl) (l_cons (e_name rfl (l_nil (WCode.call (gni_spec D (hF.lv hl rfl) s (by have := (Srt.fits_rows hf).1; omega) fun σ1 r1 H1 ex ea erd hr1 hk1 s1 => ?_)))))⟩)))
    have hk1' : (σ1.rows.map (·.k)).Nodup := by rw [← Srt.names_abs, ea]; exact PS.nodup_ens hk k
    have hf1 : σ1.abs.fits 501 := by rw [ea]; exact PS.fits_ens hf k
    refine s_cons (s_augattr (e_name rfl (x_slot A2.2.1 (Srt.node s1 hr1) rfl rfl (e_call (e_blt (hF.glo rfl) (D.nb rfl) D.len ⟨_, rfl, cw_plain (.blt _) (l_cons (e_name rfl (l_nil (c_lenT (by rw [ints_length]; omega) (o_iadd (x_slotset A2.2.1 (Srt.node s1 hr1) (by simp) ?_))))))⟩)))))
    have s2 := Srt.setNode s1 hr1 hk1' (r1.np + (nums ps).length)
    have e2 : (σ1.upd r1.k fun r => { r with np := r1.np + (nums ps).length }).abs = (σ.abs.ens k).upd k fun r => { r with np := r.np + ps.length } := by
      obtain ⟨pre, post, e, hfn⟩ := rows_split hr1 hk1'
      rw [← ea]
      unfold Srt.upd Srt.abs PS.upd
      rw [hfn]
      have := hfn fun r => { r with np := r.np + ps.length }
      rw [hk1] at this
      have e3 : (σ1.rows.map Row.abs).map (fun r => if r.k = k then ({ r with np := r.np + ps.length } : PRow) else r) = (σ1.rows.map fun r => if r.k = k then ({ r with np := r.np + ps.length } : Row) else r).map Row.abs := by
        rw [List.map_map, List.map_map]
        refine List.map_congr_left fun r _ => ?_
        show (if (Row.abs r).k = k then _ else _) = Row.abs (if r.k = k then _ else _)
        by_cases q : r.k = k
        · rw [if_pos q, if_pos (show (Row.abs r).k = k from q)]; rfl
        · rw [if_neg q, if_neg (show ¬ (Row.abs r).k = k from q)]
      rw [e3, this]
      simp [Row.abs, ints_length, hk1]
    have hn2 : (σ1.upd r1.k fun r => { r with np := r1.np + (nums ps).length }).abs.names.Nodup := by rw [Srt.names_abs, Srt.keys_upd σ1 r1.k (fun r => { r with np := r1.np + (nums ps).length }) (fun _ => rfl)]; exact hk1'
    have hf2 : (σ1.upd r1.k fun r => { r with np := r1.np + (nums ps).length }).abs.fits 501 := by
      rw [e2]; exact PS.fits_upd (k := 0) (by rw [← ea]; exact hf1) k _ fun r => Nat.le_refl _
    obtain ⟨σ2, hσ2⟩ : ∃ z, z = (σ1.upd r1.k fun r => { r with np := r1.np + (nums ps).length }) := ⟨_, rfl⟩
    have hx2 : σ2.x = σ1.x := by rw [hσ2]; rfl
    rw [← hσ2] at s2 e2 hn2 hf2
    refine s_cons (s_for (fun _ => rfl) (e_name rfl (for_any it_tup (fun i m' H' => ∃ σi : Srt, σi.x = σ.x ∧ σi.abs = (ps.take i).foldl (fun p q => p.tell k q) ((σ.abs.ens k).upd k fun r => { r with np := r.np + ps.length }) ∧ σi.abs.names.Nodup ∧ σi.abs.fits (501 + 2 * i) ∧ Sat H' (σi.lay ++ B) ∧ m' "self" = some (.ref σi.x) ∧ m' "node" = some (.int k))
      (hF.hh hh) hF.st (fun _ _ _ _ => trivial) ⟨σ2, hx2.trans ex, by rw [e2]; rfl, hn2, hf2, s2, (by show some (V.ref σ.x) = _; rw [← ex, ← hx2]), rfl⟩ (fun i m' H' hi ⟨σi, ex, ei, hni, hfi, si, m1, m2⟩ => ?_) (fun m' H' ⟨σi, ex, ei, hni, hfi, si, m1, m2⟩ => ?_))))
    · have hi' : i < ps.length := by rw [ints_length] at hi; exact hi
      have ev : (nums ps).getD i .none = .int ps[i] := by unfold nums; rw [List.getD_eq_getElem?_getD, List.getElem?_map, List.getElem?_eq_getElem hi']; rfl
      rw [ev]
      refine a_name (hF.loc rfl) ?_
      have fa := (Srt.fits_rows hfi)
      refine s_cons (s_assign (hF.loc rfl) rfl (e_meth (e_name (by exact m1) ⟨_, meth_inst M (Srt.inst si) (Srt.ns si) rfl, cw_plain (D.kp rfl) (l_cons (e_name rfl (l_nil (WCode.call (gni_spec D (hF.lv hl rfl) si (by omega) fun σ3 r3 H3 ex3 ea3 erd3 hr3 hk3 s3 => ?_)))))⟩)))
      have hn3 : (σ3.rows.map (·.k)).Nodup := by rw [← Srt.names_abs, ea3]; exact PS.nodup_ens hni _
      have hf3 : σ3.abs.fits (501 + 2 * i + 1) := by rw [ea3]; exact PS.fits_ens hfi _
      refine s_cons (s_expr (e_meth (e_attr (e_name rfl (x_slot A2.2.2 (Srt.node s3 hr3) rfl rfl ⟨_, meth_list (.own (Srt.succs s3 hr3)) PySem.F.slot_list_append PySem.F.type_list_append, cw_plain (.blt _) (l_cons (e_name (by exact m2) (l_nil (c_append (Srt.succs s3 hr3) (by rw [ints_length]; have := (Srt.fits_rows hf3).2 r3 hr3; omega) ?_))))⟩)))))
      have s4 := Srt.setSu s3 hr3 hn3 (r3.su ++ [k])
      have en : nums r3.su ++ [.int k] = nums (r3.su ++ [k]) := by unfold nums; simp
      rw [en]
      have e4 : (σ3.upd r3.k fun r => { r with su := r3.su ++ [k] }).abs = σi.abs.tell k ps[i] := by
        unfold PS.tell
        rw [← ea3, ← hk3]
        obtain ⟨pre, post, e, hfn⟩ := rows_split hr3 hn3
        have := hfn fun r => { r with su := r.su ++ [k] }
        rw [← Srt.abs_upd σ3 r3.k (fun r => { r with su := r.su ++ [k] }) _ (fun _ => rfl)]
        unfold Srt.upd
        rw [hfn, this]
      have hn4 : (σ3.upd r3.k fun r => { r with su := r3.su ++ [k] }).abs.names.Nodup := by rw [Srt.names_abs, Srt.keys_upd σ3 r3.k (fun r => { r with su := r3.su ++ [k] }) (fun _ => rfl)]; exact hn3
      obtain ⟨σ4, hσ4⟩ : ∃ z, z = (σ3.upd r3.k fun r => { r with su := r3.su ++ [k] }) := ⟨_, rfl⟩
      have hx4 : σ4.x = σ3.x := by rw [hσ4]; rfl
      rw [← hσ4] at s4 e4 hn4
      refine s_nil ⟨σ4, (hx4.trans ex3).trans ex, ?_, hn4, ?_, s4, ?_, by exact m2⟩
      · rw [e4, ei, List.take_add_one, List.getElem?_eq_getElem hi', List.foldl_append]; rfl
      · rw [e4]
        unfold PS.tell
        have := PS.fits_upd (k := 1) (PS.fits_ens hfi ps[i]) ps[i] (fun r => { r with su := r.su ++ [k] }) fun r => by simp
        exact this
      · show m' "self" = _
        rw [m1, hx4, ex3]
    · refine s_nil (s_nil (h σi H' ex ?_ si))
      rw [ei, ints_length, List.take_of_length_le (Nat.le_refl _)]; rfl
end
end Mine
end
section
open PySem PySem.W PySem.Calls PyProof.Rows PySem.SeqAt
set_option linter.unusedVariables false
set_option maxRecDepth 100000
namespace Mine
def PS.setNp (p : PS) (k np : Int) : PS := p.upd k fun r => { r with np := np }
def PS.out (p : PS) (ns : List Int) : PS := ns.foldl (fun p k => p.setNp k (-1)) p
theorem PS.names_setNp (p : PS) (k np : Int) : (p.setNp k np).names = p.names := PS.names_upd p k _ fun _ => rfl
theorem PS.names_out (ns : List Int) : ∀ p : PS, (p.out ns).names = p.names := by
  induction ns with
  | nil => intro p; rfl
  | cons n ns ih => intro p; unfold PS.out; rw [List.foldl_cons]; exact (ih _).trans (PS.names_setNp ..)
theorem PS.out_more (ns : List Int) : ∀ p : PS, (p.out ns).rd = p.rd ∧ (p.out ns).po = p.po ∧ (p.out ns).nf = p.nf := by
  induction ns with
  | nil => intro p; exact ⟨rfl, rfl, rfl⟩
  | cons n ns ih => intro p; unfold PS.out; rw [List.foldl_cons]; exact ih _
theorem Srt.setNp_abs {σ : Srt} {r : Row} (np : Int) : (σ.upd r.k fun r => { r with np := np }).abs = σ.abs.setNp r.k np := Srt.abs_upd σ r.k (fun r => { r with np := np }) _ fun _ => rfl
section
variable {g : G} {F : Fm} {m : Loc} {H : AH} {X : Value → List V → Loc → AH → Prop} {Q : V → Loc → AH → Prop} {σ : Srt} {B : List (Addr × O)}
theorem nums_get {ns : List Int} {i : Nat} (h : i < ns.length) : (nums ns).getD i .none = .int ns[i] := by
  unfold nums; rw [List.getD_eq_getElem?_getD, List.getElem?_map, List.getElem?_eq_getElem h]; rfl
theorem dget_row {rows : List Row} {k : Int} (h : k ∈ rows.map (·.k)) : ∃ r, r ∈ rows ∧ r.k = k ∧ dget (dictOfRows rows) k = some (.ref r.na) := by
  obtain ⟨r, e⟩ := findRow_mem h
  obtain ⟨h1, h2⟩ := findRow_some e
  exact ⟨r, h1, h2, by rw [dget_rows, e]; rfl⟩
theorem get_ready_spec (D : Gd g) (hl : F.lvl < 90) (hh : F.A.handled = none) (s : Sat H (σ.lay ++ B)) (hk : σ.abs.names.Nodup)
    (h : match σ.rd with | none => X (.type "ValueError") [.str "prepare() must be called first"] m H | some (a, ns) => ns.length < 1000 ∧ (∀ n ∈ ns, n ∈ σ.abs.names) ∧ ∀ (σ' : Srt) (H' : AH), σ'.x = σ.x → σ'.abs = { σ.abs.out ns with rd := some [], po := σ.po + ns.length } → Sat H' (σ'.lay ++ B) → Q (.tup (nums ns)) m H') :
    WCode g F (.ref 99) [.ref σ.x] m H Q X := by
  have A := at_ns g.w.params
  have A2 := at_slot g.w.params
  rw [← D.K] at A A2
  refine d_code (D.lk rfl) (D.cd rfl) rfl rfl rfl rfl rfl rfl rfl (lv100 hl rfl) (binds_peek (fun vs => [("self", vs.getD 0 .none)]) (fun vs S hv => ?_) (fun h vs r => ?_)) (bs := [("self", .ref σ.x)]) rfl fun F' hF => ?_
  · match vs, hv with | [v], _ => rw [D.K]; rfl
  · obtain ⟨v, r', rfl, rv, rr⟩ := r.uncons; exact ⟨v, [], rfl, rv, rfl⟩
  cases hrd : σ.rd with
  | none =>
    rw [hrd] at h
    refine s_cons (s_if (t_cmp rfl (e_attr (e_name rfl (x_get A.2.1 (Srt.inst s) (Srt.ns s) (x := .none) (by rw [hrd]; rfl) rfl (e_none (o_isn (fun _ => by simp) (tr_bool ?_))))))))
    exact s_cons (s_raise PySem.F.excCall_ValueError PySem.F.excRaise_ValueError (hF.hh hh) rfl (hF.glo rfl) (D.nb rfl) D.ve (l_cons (e_str (l_nil ⟨by decide, h⟩))))
  | some r =>
    obtain ⟨a, ns⟩ := r
    rw [hrd] at h
    obtain ⟨hz, hin, h⟩ := h
    refine s_cons (s_if (t_cmp rfl (e_attr (e_name rfl (x_get A.2.1 (Srt.inst s) (Srt.ns s) (x := .ref a) (by rw [hrd]; rfl) rfl (e_none (o_isn (fun _ => by simp) (tr_bool (s_nil ?_)))))))))
    refine s_cons (s_assign (hF.loc rfl) rfl (e_call (e_blt (hF.glo rfl) (D.nb rfl) D.tuple ⟨_, rfl, cw_plain (.type _) (l_cons (e_attr (e_name rfl (x_get A.2.1 (Srt.inst s) (Srt.ns s) (x := .ref a) (by rw [hrd]; rfl) rfl (l_nil (c_tupleof (.own (Srt.ready s hrd)) (by rw [ints_length]; omega) ?_))))))⟩)))
    refine s_cons (s_assign (hF.loc rfl) rfl (e_attr (e_name rfl (x_get A.1 (Srt.inst s) (Srt.ns s) (x := .ref σ.d) rfl rfl ?_))))
    refine s_cons (s_for (fun _ => rfl) (e_name rfl (for_any it_tup (fun i m' H' => ∃ σi : Srt, σi.x = σ.x ∧ σi.d = σ.d ∧ σi.rd = σ.rd ∧ σi.abs = σ.abs.out (ns.take i) ∧ Sat H' (σi.lay ++ B) ∧ m' "self" = some (.ref σ.x) ∧ m' "n2i" = some (.ref σ.d) ∧ m' "result" = some (.tup (nums ns)))
      (hF.hh hh) hF.st (fun _ _ _ _ => trivial) ⟨σ, rfl, rfl, rfl, rfl, s, rfl, rfl, rfl⟩ (fun i m' H' hi ⟨σi, ex, ed, er, ei, si, m1, m2, m3⟩ => ?_) (fun m' H' ⟨σi, ex, ed, er, ei, si, m1, m2, m3⟩ => ?_))))
    · have hi' : i < ns.length := by rw [ints_length] at hi; exact hi
      rw [nums_get hi']
      have hni : σi.abs.names = σ.abs.names := by rw [ei, PS.names_out]
      obtain ⟨r, hr, hrk, hdg⟩ := dget_row (rows := σi.rows) (k := ns[i]) (by rw [← Srt.names_abs, hni]; exact hin _ (List.getElem_mem hi'))
      have hkn : (σi.rows.map (·.k)).Nodup := by rw [← Srt.names_abs, hni]; exact hk
      refine a_name (hF.loc rfl) (s_cons (s_assign1 rfl rfl rfl (e_glob (hF.glo rfl) (D.nb rfl) (fun _ => .int' (-1) _) (a_attr (e_sub (e_name (by exact m2) (e_name rfl (gi_dict (ed ▸ Srt.dict si) (o_ditem (ed ▸ Srt.dict si) hdg (x_slotset A2.2.1 (Srt.node si hr) (by simp) (s_nil ?_)))))))))))
      have s4 := Srt.setNode si hr hkn (-1)
      have e4 := Srt.setNp_abs (σ := σi) (r := r) (-1)
      obtain ⟨σ4, hσ4⟩ : ∃ z, z = (σi.upd r.k fun r => { r with np := -1 }) := ⟨_, rfl⟩
      have hx4 : σ4.x = σi.x ∧ σ4.d = σi.d ∧ σ4.rd = σi.rd := by rw [hσ4]; exact ⟨rfl, rfl, rfl⟩
      rw [← hσ4] at s4 e4
      refine ⟨σ4, hx4.1.trans ex, hx4.2.1.trans ed, hx4.2.2.trans er, ?_, s4, by exact m1, by exact m2, by exact m3⟩
      rw [e4, ei, hrk, List.take_add_one, List.getElem?_eq_getElem hi']
      unfold PS.out
      rw [List.foldl_append]; rfl
    · rw [ints_length, List.take_of_length_le (Nat.le_refl _)] at ei
      have er' : σi.rd = some (a, ns) := er.trans hrd
      refine s_nil (s_cons (s_expr (e_meth (e_attr (e_name (by exact m1) (x_get A.2.1 (ex ▸ Srt.inst si) (Srt.ns si) (x := .ref a) (by rw [er']; rfl) rfl ⟨_, meth_list (.own (Srt.ready si er')) PySem.F.slot_list_clear PySem.F.type_list_clear, cw_plain (.blt _) (l_nil (c_clear (Srt.ready si er') (by rw [ints_length]; omega) ?_))⟩)))))) 
      have s5 := Srt.setReady si er' []
      obtain ⟨σ5, hσ5⟩ : ∃ z, z = ({ σi with rd := some (a, []) } : Srt) := ⟨_, rfl⟩
      have hx5 : σ5.x = σi.x ∧ σ5.rd = some (a, []) ∧ σ5.po = σi.po ∧ σ5.nf = σi.nf ∧ σ5.rows = σi.rows := by rw [hσ5]; exact ⟨rfl, rfl, rfl, rfl, rfl⟩
      rw [← hσ5] at s5
      have ix : H' σ.x = some (.inst 137 σi.dx) := ex ▸ Srt.inst si
      have ix5 : put H' a (.list (nums [])) σ.x = some (.inst 137 σ5.dx) := by rw [← ex, ← hx5.1]; exact Srt.inst s5
      have epo : σi.po = σ.po ∧ σi.nf = σ.nf := by
        have := PS.out_more ns σ.abs
        rw [← ei] at this
        exact ⟨this.2.1, this.2.2⟩
      refine s_cons (s_augattr (e_name (by exact m1) (x_get A.2.2.1 ix5 (Srt.ns s5) (x := .int σ5.po) rfl rfl (e_call (e_blt (hF.glo rfl) (D.nb rfl) D.len ⟨_, rfl, cw_plain (.blt _) (l_cons (e_name (by exact m3) (l_nil (c_lenT (by rw [ints_length]; omega) (o_iadd (x_set A.2.2.1 ix5 (Srt.ns s5) (by simp [nsOf]) ?_))))))⟩)))))
      have s6 := Srt.setNs s5 (σ5.po + (nums ns).length) σ5.nf
      refine s_cons (s_ret (e_name (by exact m3) (h ({ σ5 with po := σ5.po + (nums ns).length, nf := σ5.nf } : Srt) _ (hx5.1.trans ex) ?_ s6)))
      unfold Srt.abs
      simp only [hx5.2.1, hx5.2.2.1, hx5.2.2.2.1, hx5.2.2.2.2, ints_length, Option.map_some]
      have e7 : σi.rows.map Row.abs = (σ.abs.out ns).rows := by rw [← ei]; rfl
      have e8 : (σ.abs.out ns).nf = σ.nf := by rw [← ei]; exact epo.2
      rw [e7, epo.1, epo.2]
      show (⟨_, _, _, _⟩ : PS) = ⟨_, _, _, _⟩
      congr 1
      exact e8.symm
end
end Mine
end
section
open PySem PySem.W PySem.Calls PyProof.Rows PySem.SeqAt
set_option linter.unusedVariables false
set_option maxRecDepth 100000
namespace Mine
def PS.npOf (p : PS) (k : Int) : Int := ((p.rows.find? fun r => r.k = k).map (·.np)).getD 0
def PS.suOf (p : PS) (k : Int) : List Int := ((p.rows.find? fun r => r.k = k).map (·.su)).getD []
def PS.dec (p : PS) (q : Int) : PS := if p.npOf q - 1 = 0 then { p.setNp q (p.npOf q - 1) with rd := p.rd.map (· ++ [q]) } else p.setNp q (p.npOf q - 1)
def PS.done1 (p : PS) (n : Int) : PS := { (p.suOf n).foldl PS.dec (p.setNp n (-2)) with nf := p.nf + 1 }
def PS.doneOk : PS → List Int → Prop
  | _, [] => True
  | p, n :: ns => (n ∈ p.names ∧ p.npOf n = -1 ∧ ∀ q ∈ p.suOf n, q ∈ p.names) ∧ (p.done1 n).doneOk ns
theorem find_row {rows : List Row} {r : Row} (hr : r ∈ rows) (hk : (rows.map (·.k)).Nodup) : (rows.map Row.abs).find? (fun x => x.k = r.k) = some r.abs := by
  induction rows with
  | nil => cases hr
  | cons y rows ih =>
    rw [List.map_cons, List.nodup_cons] at hk
    rw [List.map_cons, List.find?_cons]
    rcases List.mem_cons.mp hr with rfl | hr
    · simp [Row.abs]
    · have : ¬ (Row.abs y).k = r.k := fun q => hk.1 (by rw [show y.k = r.k from q]; exact List.mem_map_of_mem hr)
      simp only [this, decide_false]
      exact ih hr hk.2
theorem Srt.npOf {σ : Srt} {r : Row} (hr : r ∈ σ.rows) (hk : (σ.rows.map (·.k)).Nodup) : σ.abs.npOf r.k = r.np ∧ σ.abs.suOf r.k = r.su := by
  unfold PS.npOf PS.suOf Srt.abs
  simp only
  rw [find_row hr hk]
  exact ⟨rfl, rfl⟩
def skel (σ : Srt) : List (Int × Addr × Addr × List Int) := σ.rows.map fun r => (r.k, r.na, r.la, r.su)
theorem skel_np (σ : Srt) (k : Int) (np : Int) : skel (σ.upd k fun r => { r with np := np }) = skel σ := by
  unfold skel Srt.upd
  rw [List.map_map]
  refine List.map_congr_left fun r _ => ?_
  show (fun r : Row => (r.k, r.na, r.la, r.su)) (if r.k = k then _ else r) = _
  split <;> rfl
theorem skel_row {σ σ' : Srt} (h : skel σ' = skel σ) {r : Row} (hr : r ∈ σ.rows) : ∃ r' ∈ σ'.rows, r'.k = r.k ∧ r'.na = r.na ∧ r'.la = r.la ∧ r'.su = r.su := by
  have : (r.k, r.na, r.la, r.su) ∈ skel σ' := by rw [h]; exact List.mem_map_of_mem (f := fun r : Row => (r.k, r.na, r.la, r.su)) hr
  obtain ⟨r', hr', e⟩ := List.mem_map.mp this
  simp only [Prod.mk.injEq] at e
  exact ⟨r', hr', e.1, e.2.1, e.2.2.1, e.2.2.2⟩
theorem skel_keys {σ σ' : Srt} (h : skel σ' = skel σ) : σ'.rows.map (·.k) = σ.rows.map (·.k) := by
  have := congrArg (fun l => l.map (·.1)) h
  unfold skel at this
  simp only [List.map_map] at this
  exact this
section
variable {g : G} {F : Fm} {m : Loc} {H : AH} {X : Value → List V → Loc → AH → Prop} {Q : V → Loc → AH → Prop} {σ : Srt} {B : List (Addr × O)}
theorem done_spec (D : Gd g) (hl : F.lvl < 90) (hh : F.A.handled = none) {ns : List Int} (hns : ns.length ≤ 9) (s : Sat H (σ.lay ++ B)) (hk : σ.abs.names.Nodup) (hf : σ.abs.fits 500) {a : Addr} {rs : List Int} (hrd : σ.rd = some (a, rs)) (hrs : rs.length ≤ 1000) (hok : σ.abs.doneOk ns)
    (h : ∀ (σ' : Srt) (H' : AH), σ'.x = σ.x → σ'.abs = ns.foldl PS.done1 σ.abs → Sat H' (σ'.lay ++ B) → Q .none m H') : WCode g F (.ref 120) (.ref σ.x :: nums ns) m H Q X := by
  have A := at_ns g.w.params
  have A2 := at_slot g.w.params
  rw [← D.K] at A A2
  refine d_code (D.lk rfl) (D.cd rfl) rfl rfl rfl rfl rfl rfl rfl (lv100 hl rfl) (bs := ([("self", .ref σ.x)] : List (Str × V)) ++ ([("nodes", .tup (nums ns))] : List (Str × V))) (binds_var (k := 1) (fun vs => [("self", vs.getD 0 .none)]) (fun vs S hv => ?_) (fun h vs r => ?_)) rfl fun F' hF => ?_
  · rw [D.K]
    match vs, hv with
    | v :: rest, hv =>
      have hr : rest.length ≤ 9 := by simp [nums] at hv; omega
      clear hv
      revert hr
      revert rest
      refine len9 ?_ ?_ ?_ ?_ ?_ ?_ ?_ ?_ ?_ ?_ <;> intros <;> exact ⟨_, rfl, fun _ => rfl⟩
  · obtain ⟨v, r', rfl, rv, rr⟩ := r.uncons; exact ⟨v, [], rfl, rv, rfl⟩
  refine s_cons (s_if (t_cmp rfl (e_attr (e_name rfl (x_get A.2.1 (Srt.inst s) (Srt.ns s) (x := .ref a) (by rw [hrd]; rfl) rfl (e_none (o_isn (fun _ => by simp) (tr_bool (s_nil ?_)))))))))
  refine s_cons (s_assign (hF.loc rfl) rfl (e_attr (e_name rfl (x_get A.1 (Srt.inst s) (Srt.ns s) (x := .ref σ.d) rfl rfl ?_))))
  obtain ⟨J, hJ⟩ : ∃ J : Nat → Loc → AH → Prop, ∀ i m' H', J i m' H' ↔ (∃ (σi : Srt) (ri : List Int), σi.x = σ.x ∧ σi.d = σ.d ∧ σi.rd = some (a, ri) ∧ ri.length ≤ 1000 + 501 * i ∧ skel σi = skel σ ∧ σi.abs = (ns.take i).foldl PS.done1 σ.abs ∧ σi.abs.doneOk (ns.drop i) ∧ Sat H' (σi.lay ++ B) ∧ m' "self" = some (.ref σ.x) ∧ m' "n2i" = some (.ref σ.d)) := ⟨_, fun _ _ _ => Iff.rfl⟩
  refine s_cons (s_for (fun _ => rfl) (e_name rfl (for_any it_tup J
    (hF.hh hh) hF.st (fun _ _ _ _ => trivial) ((hJ _ _ _).mpr ⟨σ, rs, rfl, rfl, hrd, by omega, rfl, rfl, by simpa using hok, s, rfl, rfl⟩) (fun i m' H' hi jj => ?_) (fun m' H' jj => ?_))))
  · obtain ⟨σi, ri, ex, ed, er, hri, hsk, ei, hoki, si, m1, m2⟩ := (hJ _ _ _).mp jj
    have hi' : i < ns.length := by rw [ints_length] at hi; exact hi
    rw [nums_get hi']
    have hki : (σi.rows.map (·.k)).Nodup := by rw [skel_keys hsk, ← Srt.names_abs]; exact hk
    rw [List.drop_eq_getElem_cons hi'] at hoki
    obtain ⟨⟨hin, hnp, hsu⟩, hok'⟩ := hoki
    obtain ⟨r, hr, hrk, hdg⟩ := dget_row (rows := σi.rows) (k := ns[i]) (by rw [← Srt.names_abs]; exact hin)
    obtain ⟨o1, o2⟩ := Srt.npOf hr hki
    rw [hrk] at o1 o2
    rw [o1] at hnp
    rw [o2] at hsu
    have di : H' σ.d = some (.dict (dictOfRows σi.rows) σi.ep) := ed ▸ Srt.dict si
    refine a_name (hF.loc rfl) (s_cons (s_if (t_cmp rfl (e_walrus (hF.loc rfl) (e_meth (e_name (by exact m2) ⟨_, meth_dict di PySem.F.slot_dict_get PySem.F.type_dict_get, cw_plain (.blt _) (l_cons (e_name rfl (l_nil (c_dget di ?_))))⟩))))))
    rw [hdg]
    refine e_none (o_isn (fun _ => by simp) (tr_bool (s_nil ?_)))
    refine s_cons (s_assign (hF.loc rfl) rfl (e_attr (e_name rfl (x_slot A2.2.1 (Srt.node si hr) (x := .int (-1)) (by rw [hnp]; rfl) rfl ?_))))
    refine s_cons (s_if (t_cmp rfl (e_name rfl (e_glob (hF.glo rfl) (D.nb rfl) (fun _ => .int' (-1) _) (o_nei (tr_bool ?_))))))
    rw [if_neg (by decide)]
    refine s_nil ?_
    refine s_cons (s_assign1 rfl rfl rfl (e_glob (hF.glo rfl) (D.nb rfl) (fun _ => .int' (-2) _) (a_attr (e_name rfl (x_slotset A2.2.1 (Srt.node si hr) (by simp) ?_)))))
    have s2 := Srt.setNode si hr hki (-2)
    have e2 := Srt.setNp_abs (σ := σi) (r := r) (-2)
    have sk2 := skel_np σi r.k (-2)
    obtain ⟨σ2, hσ2⟩ : ∃ z, z = (σi.upd r.k fun r => { r with np := -2 }) := ⟨_, rfl⟩
    have hx2 : σ2.x = σi.x ∧ σ2.d = σi.d ∧ σ2.rd = σi.rd ∧ σ2.nf = σi.nf := by rw [hσ2]; exact ⟨rfl, rfl, rfl, rfl⟩
    rw [← hσ2] at s2 e2 sk2
    obtain ⟨r2, hr2, q1, q2, q3, q4⟩ := skel_row (sk2) hr
    have hsl : r.su.length ≤ 500 := by
      obtain ⟨r0, hr0, w1, w2, w3, w4⟩ := skel_row hsk.symm hr
      rw [← w4]; exact (Srt.fits_rows hf).2 r0 hr0
    have hl2 : put H' r.na (.node 40 [.int r.k, .int (-2), .ref r.la]) r.la = some (.list (nums r.su)) := by have z := Srt.succs s2 hr2; rw [q3, q4] at z; exact z
    have hn2 : put H' r.na (.node 40 [.int r.k, .int (-2), .ref r.la]) r.na = some (.node 40 [.int r.k, .int (-2), .ref r.la]) := put_self ..
    obtain ⟨J2, hJ2⟩ : ∃ J : Nat → Loc → AH → Prop, ∀ j m'' H'', J j m'' H'' ↔ (∃ (σj : Srt) (rj : List Int), σj.x = σ.x ∧ σj.d = σ.d ∧ σj.rd = some (a, rj) ∧ rj.length ≤ 1000 + 501 * i + j ∧ skel σj = skel σ ∧ σj.nf = σi.nf ∧ σj.abs = (r.su.take j).foldl PS.dec σ2.abs ∧ Sat H'' (σj.lay ++ B) ∧ m'' "self" = some (.ref σ.x) ∧ m'' "n2i" = some (.ref σ.d)) := ⟨_, fun _ _ _ => Iff.rfl⟩
    refine s_cons (s_for (fun _ => rfl) (e_attr (e_name rfl (x_slot A2.2.2 hn2 rfl rfl (for_any (it_list (l := r.la) (xs := nums r.su)) J2
      (hF.hh hh) hF.st (fun j m'' H'' jj2 => ?_) ((hJ2 _ _ _).mpr ⟨σ2, ri, hx2.1.trans ex, hx2.2.1.trans ed, hx2.2.2.1.trans er, hri, sk2.trans hsk, hx2.2.2.2, rfl, s2, by exact m1, by exact m2⟩)
      (fun j m'' H'' hj jj2 => ?_) (fun m'' H'' jj2 => ?_))))))
    · obtain ⟨σj, rj, ex', ed', er', hrj, hskj, enf, ej, sj, m1', m2'⟩ := (hJ2 _ _ _).mp jj2
      obtain ⟨r3, hr3, w1, w2, w3, w4⟩ := skel_row (hskj.trans hsk.symm) hr
      rw [← w3, ← w4]; exact Srt.succs sj hr3
    · obtain ⟨σj, rj, ex', ed', er', hrj, hskj, enf, ej, sj, m1', m2'⟩ := (hJ2 _ _ _).mp jj2
      have hj' : j < r.su.length := by rw [ints_length] at hj; exact hj
      rw [nums_get hj']
      have hkj : (σj.rows.map (·.k)).Nodup := by rw [skel_keys hskj, ← Srt.names_abs]; exact hk
      have dj : H'' σ.d = some (.dict (dictOfRows σj.rows) σj.ep) := ed' ▸ Srt.dict sj
      obtain ⟨t, ht, htk, htg⟩ := dget_row (rows := σj.rows) (k := r.su[j]) (by
        have := hsu _ (List.getElem_mem hj')
        rw [Srt.names_abs, skel_keys hsk] at this
        rw [skel_keys hskj]; exact this)
      refine a_name (hF.loc rfl) (s_cons (s_assign (hF.loc rfl) rfl (e_sub (e_name (by exact m2') (e_name rfl (gi_dict dj (o_ditem dj htg ?_)))))))
      refine s_cons (s_augattr (e_name rfl (x_slot A2.2.1 (Srt.node sj ht) rfl rfl (e_int (o_isub (x_slotset A2.2.1 (Srt.node sj ht) (by simp) ?_))))))
      have s4 := Srt.setNode sj ht hkj (t.np - 1)
      have e4 := Srt.setNp_abs (σ := σj) (r := t) (t.np - 1)
      have sk4 := skel_np σj t.k (t.np - 1)
      obtain ⟨σ4, hσ4⟩ : ∃ z, z = (σj.upd t.k fun r => { r with np := t.np - 1 }) := ⟨_, rfl⟩
      have hx4 : σ4.x = σj.x ∧ σ4.d = σj.d ∧ σ4.rd = σj.rd ∧ σ4.nf = σj.nf ∧ σ4.po = σj.po := by rw [hσ4]; exact ⟨rfl, rfl, rfl, rfl, rfl⟩
      rw [← hσ4] at s4 e4 sk4
      have hn4 : put H'' t.na (.node 40 [.int t.k, .int (t.np - 1), .ref t.la]) t.na = some (.node 40 [.int t.k, .int (t.np - 1), .ref t.la]) := put_self ..
      have hnp4 := (Srt.npOf ht hkj).1
      have ext : (r.su.take (j + 1)).foldl PS.dec σ2.abs = (σj.abs).dec t.k := by rw [List.take_add_one, List.getElem?_eq_getElem hj', List.foldl_append, ← ej, htk]; rfl
      refine s_cons (s_if (t_cmp rfl (e_attr (e_name rfl (x_slot A2.2.1 hn4 rfl rfl (e_int (o_eqi (tr_bool ?_))))))))
      by_cases hz : t.np - 1 = 0
      · rw [if_pos (by simpa using hz)]
        have er4 : σ4.rd = some (a, rj) := hx4.2.2.1.trans er'
        have ix4 : put H'' t.na (.node 40 [.int t.k, .int (t.np - 1), .ref t.la]) σ.x = some (.inst 137 σ4.dx) := by rw [← ex', ← hx4.1]; exact Srt.inst s4
        refine s_cons (s_expr (e_meth (e_attr (e_name (by exact m1') (x_get A.2.1 ix4 (Srt.ns s4) (x := .ref a) (by rw [er4]; rfl) rfl ⟨_, meth_list (.own (Srt.ready s4 er4)) PySem.F.slot_list_append PySem.F.type_list_append, cw_plain (.blt _) (l_cons (e_name rfl (l_nil (c_append (Srt.ready s4 er4) (by rw [ints_length]; omega) ?_))))⟩)))))
        have en : nums rj ++ [.int r.su[j]] = nums (rj ++ [r.su[j]]) := by unfold nums; simp
        rw [en]
        have s5 := Srt.setReady s4 er4 (rj ++ [r.su[j]])
        refine s_nil (s_nil ((hJ2 _ _ _).mpr ⟨{ σ4 with rd := some (a, rj ++ [r.su[j]]) }, rj ++ [r.su[j]], hx4.1.trans ex', hx4.2.1.trans ed', rfl, by simp; omega, sk4.trans hskj, hx4.2.2.2.1.trans enf, ?_, s5, by exact m1', by exact m2'⟩))
        rw [ext]
        unfold PS.dec
        rw [hnp4, if_pos hz, ← e4]
        unfold Srt.abs
        simp [hx4, er', htk]
      · rw [if_neg (by simpa using hz)]
        refine s_nil (s_nil ((hJ2 _ _ _).mpr ⟨σ4, rj, hx4.1.trans ex', hx4.2.1.trans ed', hx4.2.2.1.trans er', by omega, sk4.trans hskj, hx4.2.2.2.1.trans enf, ?_, s4, by exact m1', by exact m2'⟩))
        rw [ext]
        unfold PS.dec
        rw [hnp4, if_neg hz, ← e4]
    · obtain ⟨σj, rj, ex', ed', er', hrj, hskj, enf, ej, sj, m1', m2'⟩ := (hJ2 _ _ _).mp jj2
      rw [ints_length, List.take_of_length_le (Nat.le_refl _)] at ej
      have ixj : H'' σ.x = some (.inst 137 σj.dx) := ex' ▸ Srt.inst sj
      refine s_nil (s_cons (s_augattr (e_name (by exact m1') (x_get A.2.2.2 ixj (Srt.ns sj) (x := .int σj.nf) rfl rfl (e_int (o_iadd (x_set A.2.2.2 ixj (Srt.ns sj) (by simp [nsOf]) ?_)))))))
      have s6 := Srt.setNs sj σj.po (σj.nf + 1)
      have e6 : ({ σj with po := σj.po, nf := σj.nf + 1 } : Srt).abs = σi.abs.done1 ns[i] := by
        unfold PS.done1
        rw [o2, ← hrk, ← e2, ← ej]
        unfold Srt.abs
        simp [enf]
      refine s_nil ((hJ _ _ _).mpr ⟨{ σj with po := σj.po, nf := σj.nf + 1 }, rj, ex', ed', er', by rw [ints_length] at *; omega, hskj, ?_, ?_, s6, by exact m1', by exact m2'⟩)
      · rw [e6, List.take_add_one, List.getElem?_eq_getElem hi', List.foldl_append, ← ei]; rfl
      · rw [e6]; exact hok'
  · obtain ⟨σi, ri, ex, ed, er, hri, hsk, ei, hoki, si, m1, m2⟩ := (hJ _ _ _).mp jj
    refine s_nil (s_nil (h σi H' ex ?_ si))
    rw [ei, ints_length, List.take_of_length_le (Nat.le_refl _)]
end
end Mine
end
section
open PySem PySem.W PySem.Calls PyProof.Rows PySem.SeqAt
set_option linter.unusedVariables false
set_option maxRecDepth 100000
namespace Mine
structure Lv where
  b : Addr
  it : Addr
  i : Nat
  r : Row
def lvLay (f : Lv) : List (Addr × O) := [(f.b, .bound "list_iterator.__next__" f.it), (f.it, .iter f.r.la f.i)]
def idx (ks : List Int) : List (Int × V) := ks.zipIdx.map fun p => (p.1, .int (p.2 : Int))
theorem idx_snoc (ks : List Int) (k : Int) : idx (ks ++ [k]) = idx ks ++ [(k, .int (ks.length : Int))] := by unfold idx; simp [List.zipIdx_append]
theorem idx_keys (ks : List Int) : (idx ks).map (·.1) = ks := by
  unfold idx
  rw [List.map_map]
  have : ((fun e : Int × V => e.1) ∘ fun p : Int × Nat => (p.1, V.int (p.2 : Int))) = Prod.fst := rfl
  rw [this, List.zipIdx_map_fst]
theorem dput_new {es : List (Int × V)} {k : Int} {x : V} (h : k ∉ es.map (·.1)) : dput es k x = es ++ [(k, x)] := by
  unfold dput
  rw [if_neg]
  intro z
  rw [List.any_eq_true] at z
  obtain ⟨p, hp, q⟩ := z
  exact h (by rw [← of_decide_eq_true q]; exact List.mem_map_of_mem hp)
theorem ddel_last {es : List (Int × V)} {k : Int} {x : V} (h : k ∉ es.map (·.1)) : ddel (es ++ [(k, x)]) k = es := by
  unfold ddel
  rw [List.filter_append]
  have e1 : es.filter (fun e => decide (e.1 ≠ k)) = es := List.filter_eq_self.mpr fun p hp => decide_eq_true fun q => h (by rw [← q]; exact List.mem_map_of_mem hp)
  rw [e1]; simp
theorem dget_mem {es : List (Int × V)} {k : Int} : (dget es k).isSome = true ↔ k ∈ es.map (·.1) := by
  unfold dget
  rw [Option.isSome_map, List.find?_isSome, List.mem_map]
  simp
theorem dget_idx {ks : List Int} {k : Int} (h : k ∈ ks) : ∃ j : Nat, j < ks.length ∧ dget (idx ks) k = some (.int (j : Int)) := by
  have : (dget (idx ks) k).isSome = true := dget_mem.mpr (by rw [idx_keys]; exact h)
  obtain ⟨v, e⟩ := Option.isSome_iff_exists.mp this
  have e' := e
  unfold dget at e
  obtain ⟨p, hp, rfl⟩ := Option.map_eq_some_iff.mp e
  have hm := List.mem_of_find?_eq_some hp
  unfold idx at hm
  obtain ⟨q, hq, rfl⟩ := List.mem_map.mp hm
  have := (List.mem_zipIdx hq).2.1
  exact ⟨q.2, by omega, e'⟩
theorem dget_last {es : List (Int × V)} {k : Int} {x : V} (h : k ∉ es.map (·.1)) : dget (es ++ [(k, x)]) k = some x := by
  unfold dget
  rw [List.find?_append]
  have : es.find? (fun e => decide (e.1 = k)) = none := List.find?_eq_none.mpr fun p hp q => h (by rw [← of_decide_eq_true q]; exact List.mem_map_of_mem hp)
  rw [this]; simp
def wt (rows : List Row) (T : Int → Bool) : Nat := (rows.map fun r => if T r.k then 0 else r.su.length + 1).sum
def lw (fs : List Lv) : Nat := (fs.map fun f => f.r.su.length - f.i).sum
theorem wt_add {rows : List Row} {r : Row} {T : Int → Bool} (hr : r ∈ rows) (hT : T r.k = false) : wt rows (fun k' => T k' || decide (k' = r.k)) + (r.su.length + 1) ≤ wt rows T := by
  induction rows with
  | nil => cases hr
  | cons y rows ih =>
    unfold wt at ih ⊢
    rw [List.map_cons, List.map_cons, List.sum_cons, List.sum_cons]
    have le : ∀ rows : List Row, (rows.map fun r' => if (T r'.k || decide (r'.k = r.k)) = true then 0 else r'.su.length + 1).sum ≤ (rows.map fun r' => if T r'.k = true then 0 else r'.su.length + 1).sum := by
      intro rows
      induction rows with
      | nil => exact Nat.le_refl _
      | cons z rows ih2 =>
        rw [List.map_cons, List.map_cons, List.sum_cons, List.sum_cons]
        refine Nat.add_le_add ?_ ih2
        cases T z.k <;> simp
        split <;> omega
    rcases List.mem_cons.mp hr with e | hr
    · subst e
      have := le rows
      simp only [hT, decide_true, Bool.or_true, if_true, Bool.false_eq_true, if_false]
      omega
    · have h2 := ih hr
      dsimp only at h2 ⊢
      have h1 : (if (T y.k || decide (y.k = r.k)) = true then 0 else y.su.length + 1) ≤ (if T y.k = true then 0 else y.su.length + 1) := by
        cases T y.k <;> simp
        split <;> omega
      omega
def CloseR (rows : List Row) : Prop := ∀ r ∈ rows, ∀ q ∈ r.su, q ∈ rows.map (·.k)
structure FC (g : G) (σ : Srt) (B : List (Addr × O)) (stk its sn n2s : Addr) (fs : List Lv) (T : Int → Bool) (n ep : Nat) (m : Loc) (H : AH) : Prop where
  sat : Sat H ((stk, .list (nums (fs.map (·.r.k)))) :: (its, .list (fs.map fun f => .ref f.b)) :: (sn, .set T n) :: (n2s, .dict (idx (fs.map (·.r.k))) ep) :: (fs.flatMap lvLay ++ (σ.lay ++ B)))
  m1 : m "n2i" = some (.ref σ.d)
  m2 : m "stack" = some (.ref stk)
  m3 : m "itstack" = some (.ref its)
  m4 : m "seen" = some (.ref sn)
  m5 : m "node2stacki" = some (.ref n2s)
  rows : ∀ f ∈ fs, f.r ∈ σ.rows
  nd : (fs.map (·.r.k)).Nodup
  seen : ∀ f ∈ fs, T f.r.k = true
  room : n + wt σ.rows T + lw fs ≤ 3000
  cnt : fs.length ≤ n
theorem FC.srt {g : G} {σ : Srt} {B : List (Addr × O)} {stk its sn n2s : Addr} {fs : List Lv} {T : Int → Bool} {n ep : Nat} {m : Loc} {H : AH} (x : FC g σ B stk its sn n2s fs T n ep m H) : Sat H (σ.lay ++ B) := by
  have := x.sat
  exact this.tail (A := (stk, .list (nums (fs.map (·.r.k)))) :: (its, .list (fs.map fun f => .ref f.b)) :: (sn, .set T n) :: (n2s, .dict (idx (fs.map (·.r.k))) ep) :: fs.flatMap lvLay)
section
variable {g : G} {σ : Srt} {B : List (Addr × O)} {stk its sn n2s : Addr} {fs : List Lv} {T : Int → Bool} {n ep : Nat} {m : Loc} {H : AH}
theorem FC.f3 (x : FC g σ B stk its sn n2s fs T n ep m H) : fs.length ≤ 3000 := by have := x.cnt; have := x.room; omega
theorem FC.n4 (x : FC g σ B stk its sn n2s fs T n ep m H) : n < 4000 := by have := x.room; omega
theorem FC.ln (x : FC g σ B stk its sn n2s fs T n ep m H) : (nums (fs.map (·.r.k))).length ≤ 3000 := by rw [ints_length, List.length_map]; exact x.f3
theorem FC.lb (x : FC g σ B stk its sn n2s fs T n ep m H) : (fs.map fun f => V.ref f.b).length ≤ 3000 := by rw [List.length_map]; exact x.f3
theorem FC.lx (x : FC g σ B stk its sn n2s fs T n ep m H) : (idx (fs.map (·.r.k))).length ≤ 3000 := by unfold idx; rw [List.length_map, List.length_zipIdx, List.length_map]; exact x.f3
theorem FC.loc (x : FC g σ B stk its sn n2s fs T n ep m H) {m' : Loc} (h1 : m' "n2i" = m "n2i") (h2 : m' "stack" = m "stack") (h3 : m' "itstack" = m "itstack") (h4 : m' "seen" = m "seen") (h5 : m' "node2stacki" = m "node2stacki") : FC g σ B stk its sn n2s fs T n ep m' H :=
  ⟨x.sat, h1.trans x.m1, h2.trans x.m2, h3.trans x.m3, h4.trans x.m4, h5.trans x.m5, x.rows, x.nd, x.seen, x.room, x.cnt⟩
theorem FC.push (x : FC g σ B stk its sn n2s fs T n ep m H) {r : Row} {k : Int} {b it : Addr} {ep' : Nat} {H' : AH} (hr : r ∈ σ.rows) (hrk : r.k = k) (hT : T k = false)
    (y6 : Sat H' ((b, O.bound "list_iterator.__next__" it) :: (it, .iter r.la 0) :: (stk, O.list (nums (fs.map (·.r.k)) ++ [V.int k])) :: (its, .list ((fs.map fun f => V.ref f.b) ++ [V.ref b])) :: (sn, .set (fun k' => T k' || decide (k' = k)) (n + 1)) :: (n2s, .dict (dput (idx (fs.map (·.r.k))) k (V.int (nums (fs.map (·.r.k))).length)) ep') :: (fs.flatMap lvLay ++ (σ.lay ++ B)))) :
    FC g σ B stk its sn n2s (fs ++ [⟨b, it, 0, r⟩]) (fun k' => T k' || decide (k' = k)) (n + 1) ep' m H' ∧ wt σ.rows (fun k' => T k' || decide (k' = k)) + lw (fs ++ [⟨b, it, 0, r⟩]) ≤ wt σ.rows T + lw fs := by
  have hnin : k ∉ fs.map (·.r.k) := fun q => by obtain ⟨f, hf, e⟩ := List.mem_map.mp q; have := x.seen f hf; rw [e, hT] at this; cases this
  have y7 := Sat.perm (L := [(b, O.bound "list_iterator.__next__" it), (it, .iter r.la 0)] ++ (([(stk, O.list (nums (fs.map (·.r.k)) ++ [V.int k])), (its, .list ((fs.map fun f => V.ref f.b) ++ [V.ref b])), (sn, .set (fun k' => T k' || decide (k' = k)) (n + 1)), (n2s, .dict (dput (idx (fs.map (·.r.k))) k (V.int (nums (fs.map (·.r.k))).length)) ep')] ++ fs.flatMap lvLay) ++ (σ.lay ++ B))) y6 (perm_rot [(b, O.bound "list_iterator.__next__" it), (it, .iter r.la 0)] ([(stk, O.list (nums (fs.map (·.r.k)) ++ [V.int k])), (its, .list ((fs.map fun f => V.ref f.b) ++ [V.ref b])), (sn, .set (fun k' => T k' || decide (k' = k)) (n + 1)), (n2s, .dict (dput (idx (fs.map (·.r.k))) k (V.int (nums (fs.map (·.r.k))).length)) ep')] ++ fs.flatMap lvLay) (σ.lay ++ B))
  rw [dput_new (by rw [idx_keys]; exact hnin)] at y7
  have hwt := wt_add (rows := σ.rows) (r := r) (T := T) hr (by rw [hrk]; exact hT)
  rw [hrk] at hwt
  have hroom := x.room
  have hlw : lw (fs ++ [⟨b, it, 0, r⟩]) = lw fs + r.su.length := by unfold lw; simp
  have hle : wt σ.rows (fun k' => T k' || decide (k' = k)) + lw (fs ++ [⟨b, it, 0, r⟩]) + 1 ≤ wt σ.rows T + lw fs := by rw [hlw]; omega
  refine ⟨⟨?_, x.m1, x.m2, x.m3, x.m4, x.m5, ?_, ?_, ?_, ?_, ?_⟩, Nat.le_of_succ_le hle⟩
  · simp only [List.map_append, List.map_cons, List.map_nil, List.flatMap_append, List.flatMap_cons, List.flatMap_nil, lvLay, idx_snoc, hrk]
    simp only [nums, List.map_append, List.map_cons, List.map_nil, List.length_map, List.cons_append, List.nil_append, List.append_assoc, List.append_nil] at y7 ⊢
    exact y7
  · intro f hf
    rcases List.mem_append.mp hf with hf | hf
    · exact x.rows f hf
    · rw [List.mem_singleton] at hf; subst hf; exact hr
  · rw [List.map_append, List.nodup_append]
    exact ⟨x.nd, by simp, fun a ha b' hb' => by simp at hb'; subst hb'; intro e; rw [e, hrk] at ha; exact hnin ha⟩
  · intro f hf
    rcases List.mem_append.mp hf with hf | hf
    · simp only [x.seen f hf, Bool.true_or]
    · rw [List.mem_singleton] at hf; subst hf; simp [hrk]
  · omega
  · rw [List.length_append]; exact Nat.succ_le_succ x.cnt
theorem FC.next {pre : List Lv} {f : Lv} (x : FC g σ B stk its sn n2s (pre ++ [f]) T n ep m H) (hlt : f.i < f.r.su.length) :
    FC g σ B stk its sn n2s (pre ++ [{ f with i := f.i + 1 }]) T n ep m (put H f.it (.iter f.r.la (f.i + 1))) ∧ wt σ.rows T + lw (pre ++ [{ f with i := f.i + 1 }]) < wt σ.rows T + lw (pre ++ [f]) := by
  have y0 := x.sat
  simp only [List.map_append, List.map_cons, List.map_nil, List.flatMap_append, List.flatMap_cons, List.flatMap_nil, lvLay, List.append_nil, List.append_assoc, List.cons_append, List.nil_append] at y0
  have y1 := Sat.mid (A := (stk, O.list (nums (pre.map (·.r.k) ++ [f.r.k]))) :: (its, .list ((pre.map fun f => V.ref f.b) ++ [V.ref f.b])) :: (sn, .set T n) :: (n2s, .dict (idx (pre.map (·.r.k) ++ [f.r.k])) ep) :: (pre.flatMap lvLay ++ [(f.b, .bound "list_iterator.__next__" f.it)])) (a := f.it) (o := .iter f.r.la f.i) (C := σ.lay ++ B) (by simpa [lvLay] using y0) (.iter f.r.la (f.i + 1))
  have hl1 : lw (pre ++ [{ f with i := f.i + 1 }]) + 1 = lw (pre ++ [f]) := by unfold lw; simp; omega
  have hroom := x.room
  have hcnt := x.cnt
  refine ⟨⟨by simpa [lvLay] using y1, x.m1, x.m2, x.m3, x.m4, x.m5, ?_, by simpa using x.nd, ?_, by omega, by simpa using hcnt⟩, by omega⟩
  · intro f' hf'
    rcases List.mem_append.mp hf' with hf' | hf'
    · exact x.rows f' (List.mem_append_left _ hf')
    · rw [List.mem_singleton] at hf'; subst hf'; exact x.rows f (by simp)
  · intro f' hf'
    rcases List.mem_append.mp hf' with hf' | hf'
    · exact x.seen f' (List.mem_append_left _ hf')
    · rw [List.mem_singleton] at hf'; subst hf'; exact x.seen f (by simp)
theorem FC.out {pre : List Lv} {f : Lv} (x : FC g σ B stk its sn n2s (pre ++ [f]) T n ep m H) :
    Sat (rem H f.it) ((stk, O.list (nums (pre.map (·.r.k)) ++ [.int f.r.k])) :: (its, .list ((pre.map fun f => V.ref f.b) ++ [V.ref f.b])) :: (sn, .set T n) :: (n2s, .dict (idx (pre.map (·.r.k)) ++ [(f.r.k, .int ((pre.map (·.r.k)).length : Int))]) ep) :: ((pre.flatMap lvLay ++ [(f.b, .bound "list_iterator.__next__" f.it)]) ++ (σ.lay ++ B))) ∧ f.r.k ∉ pre.map (·.r.k) ∧ pre.length ≤ 3000 := by
  have y0 := x.sat
  simp only [List.map_append, List.map_cons, List.map_nil, List.flatMap_append, List.flatMap_cons, List.flatMap_nil, lvLay, List.append_nil, List.append_assoc, List.cons_append, List.nil_append] at y0
  have hnd := x.nd
  rw [List.map_append, List.nodup_append] at hnd
  refine ⟨?_, fun q => hnd.2.2 f.r.k q f.r.k (by simp) rfl, Nat.le_trans (by rw [List.length_append]; exact Nat.le_add_right _ _) x.f3⟩
  rw [idx_snoc] at y0
  refine Sat.rem (o := .iter f.r.la f.i) (y0.perm ?_)
  have := List.perm_middle (a := (f.it, O.iter f.r.la f.i)) (l₁ := (stk, O.list (nums (pre.map (·.r.k)) ++ [.int f.r.k])) :: (its, .list ((pre.map fun f => V.ref f.b) ++ [V.ref f.b])) :: (sn, .set T n) :: (n2s, .dict (idx (pre.map (·.r.k)) ++ [(f.r.k, .int ((pre.map (·.r.k)).length : Int))]) ep) :: (pre.flatMap lvLay ++ [(f.b, O.bound "list_iterator.__next__" f.it)])) (l₂ := σ.lay ++ B)
  simpa [lvLay, nums] using this
theorem FC.pop {pre : List Lv} {f : Lv} (x : FC g σ B stk its sn n2s (pre ++ [f]) T n ep m H) {ep' : Nat} {H' : AH}
    (y4 : Sat H' ((stk, O.list (nums (pre.map (·.r.k)))) :: (its, .list (pre.map fun f => V.ref f.b)) :: (sn, .set T n) :: (n2s, .dict (idx (pre.map (·.r.k))) ep') :: ((pre.flatMap lvLay ++ [(f.b, .bound "list_iterator.__next__" f.it)]) ++ (σ.lay ++ B)))) :
    FC g σ B stk its sn n2s pre T n ep' m H' ∧ lw pre ≤ lw (pre ++ [f]) := by
  have hl1 : lw pre ≤ lw (pre ++ [f]) := by unfold lw; simp
  have hroom := x.room
  have hcnt := x.cnt
  have hnd := x.nd
  rw [List.map_append, List.nodup_append] at hnd
  rw [List.length_append] at hcnt
  refine ⟨⟨?_, x.m1, x.m2, x.m3, x.m4, x.m5, fun f' hf' => x.rows f' (List.mem_append_left _ hf'), hnd.1, fun f' hf' => x.seen f' (List.mem_append_left _ hf'), by omega, Nat.le_trans (Nat.le_add_right _ _) hcnt⟩, hl1⟩
  exact y4.sublist (.cons_cons _ (.cons_cons _ (.cons_cons _ (.cons_cons _ (by rw [List.append_assoc]; exact (List.Sublist.refl _).append ((List.Sublist.refl _).cons _))))))
end
end Mine
end
section
open PySem PySem.W PySem.Calls PyProof.Rows PySem.SeqAt
set_option linter.unusedVariables false
set_option maxRecDepth 100000
namespace Mine
section
variable {g : G} {F : Fm} {m : Loc} {H : AH} {X : Value → List V → Loc → AH → Prop} {Q : V → Loc → AH → Prop} {σ : Srt} {B : List (Addr × O)}
theorem cut_from (xs : List V) (j : Int) : (cut xs (some j) none none).length ≤ xs.length := by
  unfold cut
  refine Nat.le_trans (List.length_filterMap_le ..) ?_
  unfold sliceRange sliceBounds
  simp only [Option.getD_none, List.length_map, List.length_range]
  split <;> split <;> (try split) <;> simp <;> omega
theorem stop_catch (D : Gd g) : Catches g (.type "StopIteration") (.type "StopIteration") true := ⟨(Looks.of_pure rfl : Looks _ _ (typeOf (.type "StopIteration")) _).andThen (Looks.of_pure (by rw [isSubtype_type]; kernel_rfl)), Looks.now, by rw [D.K]; kernel_rfl, by rw [D.K]; kernel_rfl⟩
theorem find_cycle_spec (D : Gd g) (hl : F.lvl < 90) (hh : F.A.handled = none) (s : Sat H (σ.lay ++ B)) (hk : σ.abs.names.Nodup) (hc : CloseR σ.rows) (hw : wt σ.rows (fun _ => false) ≤ 3000)
    (h1 : ∀ H', Sat H' (σ.lay ++ B) → Q .none m H') (h2 : ∀ l xs H', Sat H' ((l, .list xs) :: (σ.lay ++ B)) → xs ≠ [] → xs.length ≤ 4000 → Q (.ref l) m H') : WCode g F (.ref 127) [.ref σ.x] m H Q X := by
  have A := at_ns g.w.params
  have A2 := at_slot g.w.params
  rw [← D.K] at A A2
  have hkr : (σ.rows.map (·.k)).Nodup := by rw [← Srt.names_abs]; exact hk
  refine d_code (D.lk rfl) (D.cd rfl) rfl rfl rfl rfl rfl rfl rfl (lv100 hl rfl) (binds_peek (fun vs => [("self", vs.getD 0 .none)]) (fun vs S hv => ?_) (fun h vs r => ?_)) (bs := [("self", .ref σ.x)]) rfl fun F' hF => ?_
  · match vs, hv with | [v], _ => rw [D.K]; rfl
  · obtain ⟨v, r', rfl, rv, rr⟩ := r.uncons; exact ⟨v, [], rfl, rv, rfl⟩
  refine s_cons (s_assign (hF.loc rfl) rfl (e_attr (e_name rfl (x_get A.1 (Srt.inst s) (Srt.ns s) (x := .ref σ.d) rfl rfl ?_))))
  refine s_cons (s_assign (hF.loc rfl) rfl (e_list (l_nil ⟨by decide, fun stk hstk => ?_⟩)))
  have s1 := s.new (o := .list []) hstk
  refine s_cons (s_assign (hF.loc rfl) rfl (e_list (l_nil ⟨by decide, fun its hits => ?_⟩)))
  have s2 := s1.new (o := .list []) hits
  refine s_cons (s_assign (hF.loc rfl) rfl (e_call (e_blt (hF.glo rfl) (D.nb rfl) D.set ⟨_, rfl, cw_plain (.type _) (l_nil (c_set0 fun sn hsn => ?_))⟩)))
  have s3 := s2.new (o := .set (fun _ => false) 0) hsn
  refine s_cons (s_assign (hF.loc rfl) rfl (e_dict0 fun n2s hn2s => ?_))
  have s4 := s3.new (o := .dict [] 0) hn2s
  have s5 : Sat _ ((stk, .list (nums (([] : List Lv).map (·.r.k)))) :: (its, .list (([] : List Lv).map fun f => .ref f.b)) :: (sn, .set (fun _ => false) 0) :: (n2s, .dict (idx (([] : List Lv).map (·.r.k))) 0) :: (([] : List Lv).flatMap lvLay ++ (σ.lay ++ B))) :=
    s4.perm (by
      show List.Perm ([(n2s, O.dict [] 0), (sn, .set (fun _ => false) 0), (its, .list []), (stk, .list [])] ++ (σ.lay ++ B)) ([(stk, O.list []), (its, .list []), (sn, .set (fun _ => false) 0), (n2s, .dict [] 0)] ++ (σ.lay ++ B))
      exact (List.reverse_perm [(stk, O.list []), (its, .list []), (sn, .set (fun _ => false) 0), (n2s, .dict [] 0)]).append_right _)
  refine s_cons (s_for (fun _ => rfl) (e_name rfl (for_any (it_dict (d := σ.d) (es := dictOfRows σ.rows) (ep := σ.ep)) (fun i m' H' => ∃ T n ep, FC g σ B stk its sn n2s [] T n ep m' H')
    (hF.hh hh) hF.st (fun i m' H' ⟨T, n, ep, x⟩ => Srt.dict x.srt) ⟨_, _, _, s5, rfl, rfl, rfl, rfl, rfl, (fun _ h => by cases h), List.nodup_nil, (fun _ h => by cases h), by show 0 + wt σ.rows (fun _ => false) + 0 ≤ 3000; omega, Nat.le_refl _⟩ (fun i m' H' hi ⟨T, n, ep, x⟩ => ?_) (fun m' H' ⟨T, n, ep, x⟩ => ?_))))
  · have hi' : i < σ.rows.length := by unfold dictOfRows at hi; simpa using hi
    have ev : ((dictOfRows σ.rows).getD i (0, .none)).1 = σ.rows[i].k := by unfold dictOfRows; rw [List.getD_eq_getElem?_getD, List.getElem?_map, List.getElem?_eq_getElem hi']; rfl
    rw [ev]
    have hn := x.n4
    refine a_name (hF.loc rfl) (s_cons (s_if (t_cmp rfl (e_name rfl (e_name (by exact x.m4) (o_inset x.sat.at2 hn (tr_bool ?_)))))))
    cases hT : T σ.rows[i].k with
    | true => exact s_cons (s_cont ⟨T, n, ep, x.loc rfl rfl rfl rfl rfl⟩)
    | false =>
      refine s_nil (s_cons (s_while (fun μ m' H' => ∃ fs T n ep k, FC g σ B stk its sn n2s fs T n ep m' H' ∧ m' "node" = some (.int k) ∧ k ∈ σ.rows.map (·.k) ∧ wt σ.rows T + lw fs = μ) _ hF.st ⟨[], T, n, ep, σ.rows[i].k, x.loc rfl rfl rfl rfl rfl, rfl, List.mem_map_of_mem (List.getElem_mem hi'), rfl⟩ (fun μ m' H' ⟨fs, T, n, ep, k, x, mk, hkn, hμ⟩ => ?_)))
      refine t_val (e_bool (tr_bool ?_))
      rw [if_pos rfl]
      have hn := x.n4
      refine s_cons (Wt.mono (Q := fun f m' H' => (f = .next ∧ ∃ fs T n ep, FC g σ B stk its sn n2s fs T n ep m' H' ∧ wt σ.rows T + lw fs ≤ μ) ∨ (∃ l xs, f = .ret (.ref l) ∧ Sat H' ((l, .list xs) :: (σ.lay ++ B)) ∧ xs ≠ [] ∧ xs.length ≤ 4000)) ?_ (fun f m' H' hq => ?_) (fun _ _ _ _ z => z))
      · refine s_if (t_cmp rfl (e_name (by exact mk) (e_name (by exact x.m4) (o_inset x.sat.at2 hn (tr_bool ?_)))))
        cases hT : T k with
        | true =>
          refine s_cons (s_if (t_cmp rfl (e_name (by exact mk) (e_name (by exact x.m5) (o_ind x.sat.at3 (tr_bool ?_))))))
          by_cases hin : k ∈ fs.map (·.r.k)
          · rw [if_pos (dget_mem.mpr (by rw [idx_keys]; exact hin))]
            obtain ⟨j, hj, hg⟩ := dget_idx hin
            have hlen := x.ln
            refine s_cons (s_ret (e_bin (e_slice (e_name (by exact x.m2) (p_some (e_sub (e_name (by exact x.m5) (e_name (by exact mk) (gi_dict x.sat.at3 (o_ditem x.sat.at3 hg (p_none (p_none ⟨stk, _, some (j : Int), none, none, rfl, .own x.sat.at0, Nat.le_trans hlen (Nat.le_of_ble_eq_true rfl), .int j, .none, .none, (fun q => nomatch q), fun c hc => ?_⟩))))))))))))
            have y1 := x.sat.new (o := .list (cut (nums (fs.map (·.r.k))) (some (j : Int)) none none)) hc
            refine e_list (l_cons (e_name (by exact mk) (l_nil ⟨by simp [sizeLine_eq], fun c2 hc2 => ?_⟩)))
            have y2 := y1.new (o := .list [.int k]) hc2
            have hcl := cut_from (nums (fs.map (·.r.k))) j
            have hcl2 := Nat.le_trans hcl hlen
            refine o_concat (.own y2.at1) (.own y2.at0) (Nat.le_trans (Nat.succ_le_succ hcl2) (Nat.le_of_ble_eq_true rfl)) fun c3 hc3 => ?_
            have y3 := y2.new (o := .list (cut (nums (fs.map (·.r.k))) (some (j : Int)) none none ++ [.int k])) hc3
            refine .inr ⟨c3, cut (nums (fs.map (·.r.k))) (some (j : Int)) none none ++ [.int k], rfl, ?_, by simp, by rw [List.length_append]; exact Nat.le_trans (Nat.succ_le_succ hcl2) (Nat.le_of_ble_eq_true rfl)⟩
            exact y3.sublist (.cons_cons _ (.cons _ (.cons _ (.cons _ (.cons _ (.cons _ (.cons _ (List.sublist_append_right ..))))))))
          · rw [if_neg (fun q => hin (by have := dget_mem.mp q; rw [idx_keys] at this; exact this))]
            exact s_nil (s_nil (.inl ⟨rfl, fs, T, n, ep, x, Nat.le_of_eq hμ⟩))
        | false =>
          obtain ⟨r, hr, hrk, hdg⟩ := dget_row (rows := σ.rows) hkn
          refine s_cons (s_expr (e_meth (e_name (by exact x.m4) ⟨_, meth_set x.sat.at2 (Nat.lt_trans hn (Nat.le_of_ble_eq_true rfl)), cw_plain (.blt _) (l_cons (e_name (by exact mk) (l_nil (c_setadd x.sat.at2 hn ?_))))⟩)))
          rw [hT, if_neg (by decide)]
          have y1 := x.sat.set2 (.set (fun k' => T k' || decide (k' = k)) (n + 1))
          have d1 : Sat _ (σ.lay ++ B) := y1.tail (A := (stk, .list (nums (fs.map (·.r.k)))) :: (its, .list (fs.map fun f => .ref f.b)) :: (sn, .set _ _) :: (n2s, .dict (idx (fs.map (·.r.k))) ep) :: fs.flatMap lvLay)
          refine s_cons (s_expr (e_meth (e_name (by exact x.m3) ⟨_, meth_list (.own y1.at1) PySem.F.slot_list_append PySem.F.type_list_append, cw_plain (.blt _) (l_cons (e_attr (e_call (e_blt (hF.glo rfl) (D.nb rfl) D.iter ⟨_, rfl, cw_plain (.blt _) (l_cons (e_attr (e_sub (e_name (by exact x.m1) (e_name (by exact mk) (gi_dict (Srt.dict d1) (o_ditem (Srt.dict d1) hdg (x_slot A2.2.2 (Srt.node d1 hr) rfl rfl (l_nil (c_iter (Srt.succs d1 hr) fun it hit => ?_))))))))))⟩))))⟩)))
          have y2 := y1.new (o := .iter r.la 0) hit
          refine x_next y2.at0 fun b hb => l_nil ?_
          have y3 := y2.new (o := .bound "list_iterator.__next__" it) hb
          refine c_append y3.at3 (Nat.le_trans x.lb (Nat.le_of_ble_eq_true rfl)) ?_
          have y4 := y3.set3 (.list ((fs.map fun f => V.ref f.b) ++ [.ref b]))
          refine s_cons (s_assign1 rfl rfl rfl (e_call (e_blt (hF.glo rfl) (D.nb rfl) D.len ⟨_, rfl, cw_plain (.blt _) (l_cons (e_name (by exact x.m2) (l_nil (c_len (.own y4.at2) (Nat.lt_of_le_of_lt x.ln (Nat.le_of_ble_eq_true rfl)) (a_sub (e_name (by exact x.m5) (e_name (by exact mk) (o_dset y4.at5 (Nat.le_trans x.lx (Nat.le_of_ble_eq_true rfl)) fun ep' => ?_))))))))⟩)))
          have y5 := y4.set5 (.dict (dput (idx (fs.map (·.r.k))) k (.int (nums (fs.map (·.r.k))).length)) ep')
          refine s_cons (s_expr (e_meth (e_name (by exact x.m2) ⟨_, meth_list (.own y5.at2) PySem.F.slot_list_append PySem.F.type_list_append, cw_plain (.blt _) (l_cons (e_name (by exact mk) (l_nil (c_append y5.at2 (Nat.le_trans x.ln (Nat.le_of_ble_eq_true rfl)) ?_))))⟩)))
          have y6 := y5.set2 (.list (nums (fs.map (·.r.k)) ++ [.int k]))
          obtain ⟨x', hw'⟩ := x.push hr hrk hT y6
          exact s_nil (.inl ⟨rfl, _, _, _, ep', x'.loc rfl rfl rfl rfl rfl, Nat.le_trans hw' (Nat.le_of_eq hμ)⟩)
      · rcases hq with ⟨rfl, fs, T, n, ep, x, hm⟩ | ⟨l, xs, rfl, hs, hne, hln⟩
        · refine s_cons (s_while (fun κ m' H' => ∃ fs T n ep, FC g σ B stk its sn n2s fs T n ep m' H' ∧ wt σ.rows T + lw fs ≤ μ ∧ fs.length = κ) _ hF.st ⟨fs, T, n, ep, x, hm, rfl⟩ (fun κ m' H' ⟨fs, T, n, ep, x, hm, hκ⟩ => ?_))
          refine t_val (e_name (by exact x.m2) (tr_list (.own x.sat.at0) (Nat.lt_of_le_of_lt x.ln (Nat.le_of_ble_eq_true rfl)) ?_))
          rcases List.eq_nil_or_concat fs with e | ⟨pre, f, e⟩
          · subst e
            rw [if_neg (by simp [nums])]
            exact s_cons (s_break (s_nil ⟨T, n, ep, x⟩))
          · rw [List.concat_eq_append] at e
            subst e
            rw [if_pos (by simp [nums])]
            have hfr := x.rows f (by simp)
            have hb : H' f.b = some (.bound "list_iterator.__next__" f.it) := x.sat.get (by simp [lvLay])
            have hit : H' f.it = some (.iter f.r.la f.i) := x.sat.get (by simp [lvLay])
            have hla := Srt.succs x.srt hfr
            refine s_cons (s_try hF.st (s_cons (s_assign (hF.loc rfl) rfl (e_callnext (hF.hh hh) (e_sub (e_name (by exact x.m3) (e_un (e_int (o_neg (gi_list (.own x.sat.at1) (o_last (.own x.sat.at1) (x := .ref f.b) (by simp) ⟨f.b, f.it, f.r.la, f.i, nums f.r.su, rfl, hb, hit, hla, ?_⟩)))))))))))
            cases hq : f.r.su[f.i]? with
            | some q =>
              have e1 : (nums f.r.su)[f.i]? = some (.int q) := ints_get hq
              rw [e1]
              have hlt : f.i < f.r.su.length := (List.getElem?_eq_some_iff.mp hq).1
              obtain ⟨x', hw'⟩ := x.next hlt
              exact s_cons (s_break (s_nil ⟨_, Nat.lt_of_lt_of_le hw' hm, _, T, n, ep, q, x'.loc rfl rfl rfl rfl rfl, rfl, hc f.r hfr q (List.mem_of_getElem? hq), rfl⟩))
            | none =>
              have e1 : (nums f.r.su)[f.i]? = none := by unfold nums; rw [List.getElem?_map, hq]; rfl
              rw [e1]
              refine h_take (spec_blt (hF.glo rfl) (D.nb rfl) D.stop) (stop_catch D) fun e => ?_
              obtain ⟨y1, hni, hpl⟩ := x.out
              have hpl1 : (nums (pre.map (·.r.k))).length ≤ 3000 := by rw [ints_length, List.length_map]; exact hpl
              have hpl2 : (pre.map fun f => V.ref f.b).length ≤ 3000 := by rw [List.length_map]; exact hpl
              have hpl3 : (idx (pre.map (·.r.k)) ++ [(f.r.k, V.int ((pre.map (·.r.k)).length : Int))]).length ≤ 3001 := by unfold idx; rw [List.length_append, List.length_map, List.length_zipIdx, List.length_map]; exact Nat.succ_le_succ hpl
              refine s_cons (s_delsub (e_name (by exact x.m5) (e_meth (e_name (by exact x.m2) ⟨_, meth_list (.own y1.at0) PySem.F.slot_list_pop PySem.F.type_list_pop, cw_plain (.blt _) (l_nil (c_pop y1.at0 (Nat.lt_of_le_of_lt hpl1 (Nat.le_of_ble_eq_true rfl)) ?_))⟩))))
              have y2 := y1.set (.list (nums (pre.map (·.r.k))))
              refine o_ddel y2.at3 (Nat.le_trans hpl3 (Nat.le_of_ble_eq_true rfl)) (dget_last (by rw [idx_keys]; exact hni)) fun ep' => ?_
              rw [ddel_last (by rw [idx_keys]; exact hni)]
              have y3 := y2.set3 (.dict (idx (pre.map (·.r.k))) ep')
              refine s_cons (s_expr (e_meth (e_name (by exact x.m3) ⟨_, meth_list (.own y3.at1) PySem.F.slot_list_pop PySem.F.type_list_pop, cw_plain (.blt _) (l_nil (c_pop y3.at1 (Nat.lt_of_le_of_lt hpl2 (Nat.le_of_ble_eq_true rfl)) ?_))⟩)))
              have y4 := y3.set1 (.list (pre.map fun f => V.ref f.b))
              obtain ⟨x', hw'⟩ := x.pop y4
              rw [List.length_append] at hκ
              exact s_nil (s_nil ⟨pre.length, by rw [← hκ]; exact Nat.lt_succ_self _, pre, T, n, ep', x'.loc rfl rfl rfl rfl rfl, Nat.le_trans (Nat.add_le_add_left hw' _) hm, rfl⟩)
        · exact h2 l xs _ hs hne hln
  · refine s_nil (s_cons (s_ret (e_none (h1 _ x.srt))))
end
end Mine
end
section
open PySem PySem.W PySem.Calls PyProof.Rows PySem.SeqAt
set_option linter.unusedVariables false
set_option maxRecDepth 100000
namespace Mine
def readyOf (rows : List Row) : List Int := (rows.filter fun r => r.np == 0).map (·.k)
theorem readyOf_len (rows : List Row) : (readyOf rows).length ≤ rows.length := by unfold readyOf; rw [List.length_map]; exact List.length_filter_le ..
section
variable {g : G} {F : Fm} {m : Loc} {H : AH} {X : Value → List V → Loc → AH → Prop} {Q : V → Loc → AH → Prop} {σ : Srt} {B : List (Addr × O)}
theorem e_joined1 {e : Expr} {pos : Pos} (h : WE g F (eval e F.env) m H Q X) : WE g F (eval (.JoinedStr [e] pos) F.env) m H Q X := fun s S => wpAny_JoinedStr_one (h s S)
theorem m_fc (p : Params) : MethD (Mine.kx.heap_1 p) 137 "_find_cycle" 127 := ⟨rfl, rfl, rfl⟩
theorem prepare_spec (D : Gd g) (hl : F.lvl < 80) (hh : F.A.handled = none) (s : Sat H (σ.lay ++ B)) (hk : σ.abs.names.Nodup) (hc : CloseR σ.rows) (hw : wt σ.rows (fun _ => false) ≤ 3000) (hrd : σ.rd = none) (hz : σ.rows.length ≤ 1000)
    (h1 : ∀ (σ' : Srt) (H' : AH), σ'.x = σ.x → σ'.abs = { σ.abs with rd := some (readyOf σ.rows) } → Sat H' (σ'.lay ++ B) → Q .none m H' ∧ ∀ as, X (.ref 55) as m H') : WCode g F (.ref 92) [.ref σ.x] m H Q X := by
  have A := at_ns g.w.params
  have A2 := at_slot g.w.params
  have M := m_fc g.w.params
  rw [← D.K] at A A2 M
  refine d_code (D.lk rfl) (D.cd rfl) rfl rfl rfl rfl rfl rfl rfl (lv100 hl rfl) (binds_peek (fun vs => [("self", vs.getD 0 .none)]) (fun vs S hv => ?_) (fun h vs r => ?_)) (bs := [("self", .ref σ.x)]) rfl fun F' hF => ?_
  · match vs, hv with | [v], _ => rw [D.K]; rfl
  · obtain ⟨v, r', rfl, rv, rr⟩ := r.uncons; exact ⟨v, [], rfl, rv, rfl⟩
  refine s_cons (s_if (t_cmp rfl (e_attr (e_name rfl (x_get A.2.1 (Srt.inst s) (Srt.ns s) (x := .none) (by rw [hrd]; rfl) rfl (e_none (o_isnn (fun _ => by simp) (tr_bool (s_nil ?_)))))))))
  refine s_cons (s_assign1 rfl rfl rfl (e_comp (CompHead.of hF rfl rfl) (fun _ => rfl) (hF.hh hh) hF.st (fun Fc acc it => turn_one ..) (e_meth (e_attr (e_name rfl (x_get A.1 (Srt.inst s) (Srt.ns s) (x := .ref σ.d) rfl rfl ⟨_, meth_dict (Srt.dict s) PySem.F.slot_dict_values PySem.F.type_dict_values, cw_plain (.blt _) (l_nil (c_values (Srt.dict s) ?_))⟩))))))
  · refine ⟨_, _, _, fun i ys m' H' => H' = H ∧ ys = nums (readyOf (σ.rows.take i)), it_values (d := σ.d) (es := dictOfRows σ.rows) (ep := σ.ep), fun i ys m' H' ⟨e, _⟩ => by rw [e]; exact Srt.dict s, ⟨rfl, rfl⟩, fun Fc acc hC i ys m' H' hi ⟨e1, e2⟩ => ?_, fun ys m' H' ⟨e1, e2⟩ => ?_⟩
    · subst e1
      have hi' : i < σ.rows.length := by unfold dictOfRows at hi; simpa using hi
      have ev : ((dictOfRows σ.rows).getD i (0, .none)).2 = .ref σ.rows[i].na := by unfold dictOfRows; rw [List.getD_eq_getElem?_getD, List.getElem?_map, List.getElem?_eq_getElem hi']; rfl
      rw [ev]
      have hr := List.getElem_mem hi'
      refine a_name (hC.loc rfl) (tests_one (t_cmp rfl (e_attr (e_name rfl (x_slot A2.2.1 (Srt.node s hr) rfl rfl (e_int (o_eqi (tr_bool ?_))))))))
      have es : readyOf (σ.rows.take (i + 1)) = readyOf (σ.rows.take i) ++ (if σ.rows[i].np == 0 then [σ.rows[i].k] else []) := by
        unfold readyOf
        rw [List.take_add_one, List.getElem?_eq_getElem hi', List.filter_append, List.map_append]
        cases z : σ.rows[i].np == 0 <;> simp [List.filter_cons, z]
      by_cases q : (σ.rows[i].np == 0) = true
      · rw [if_pos q]
        refine acc_emit (by rw [e2, ints_length, sizeLine_eq]; have := readyOf_len (σ.rows.take i); simp at this; omega) (e_attr (e_name rfl (x_slot A2.1 (Srt.node s hr) rfl rfl ⟨rfl, ?_⟩)))
        rw [es, if_pos q, e2]; unfold nums; simp
      · rw [if_neg q]
        refine ⟨rfl, ?_⟩
        rw [es, if_neg q, e2, List.append_nil]
    · subst e1 e2
      intro b hb
      have el : (dictOfRows σ.rows).length = σ.rows.length := by unfold dictOfRows; simp
      rw [el, List.take_of_length_le (Nat.le_refl _)]
      have y1 : Sat (put H' b (.list (nums (readyOf σ.rows)))) ((b, .list (nums (readyOf σ.rows))) :: (σ.x, .inst 137 σ.dx) :: (σ.dx, .ns (nsOf σ.d .none σ.po σ.nf)) :: (σ.d, .dict (dictOfRows σ.rows) σ.ep) :: (rowsLay σ.rows ++ B)) := by
        have := s.new (o := .list (nums (readyOf σ.rows))) hb
        unfold Srt.lay at this
        rw [hrd] at this
        exact this
      refine a_attr (e_name rfl (x_set A.2.1 y1.at1 y1.at2 (by simp [nsOf]) ?_))
      have ep : putF "_ready_nodes" (.ref b) (nsOf σ.d .none σ.po σ.nf) = nsOf σ.d (.ref b) σ.po σ.nf := rfl
      rw [ep]
      have y2 := y1.set2 (.ns (nsOf σ.d (.ref b) σ.po σ.nf))
      have y3 : Sat _ (({ σ with rd := some (b, readyOf σ.rows) } : Srt).lay ++ B) := y2.perm (perm_rot [(b, O.list (nums (readyOf σ.rows)))] [(σ.x, O.inst 137 σ.dx), (σ.dx, .ns (nsOf σ.d (.ref b) σ.po σ.nf)), (σ.d, .dict (dictOfRows σ.rows) σ.ep)] (rowsLay σ.rows ++ B))
      obtain ⟨σ2, hσ2⟩ : ∃ z, z = ({ σ with rd := some (b, readyOf σ.rows) } : Srt) := ⟨_, rfl⟩
      have hx2 : σ2.x = σ.x ∧ σ2.rows = σ.rows := by rw [hσ2]; exact ⟨rfl, rfl⟩
      have hab : σ2.abs = { σ.abs with rd := some (readyOf σ.rows) } := by rw [hσ2]; rfl
      rw [← hσ2] at y3
      have e0 : σ.x = σ2.x := hx2.1.symm
      rw [e0]
      refine s_cons (s_assign (hF.loc rfl) rfl (e_meth (e_name rfl ⟨_, meth_inst M (Srt.inst y3) (Srt.ns y3) rfl, cw_plain (D.kp rfl) (l_nil (WCode.call (find_cycle_spec (σ := σ2) D (hF.lv hl rfl) (hF.hh hh) y3 (by rw [hab]; exact hk) (by rw [hx2.2]; exact hc) (by rw [hx2.2]; exact hw) (fun H' s' => ?_) (fun l xs H' s' hne hln => ?_))))⟩)))
      · refine s_cons (s_if (t_val (e_name rfl (tr_none (s_nil (s_nil ?_))))))
        exact (h1 σ2 _ hx2.1 hab s').1
      · refine s_cons (s_if (t_val (e_name rfl (tr_list (.own s'.at0) (by omega) ?_))))
        rw [if_pos (by cases xs with | nil => exact absurd rfl hne | cons => rfl)]
        refine s_cons (s_raise_own D.own PySem.F.excBase_ValueError (hF.hh hh) (hF.glo rfl) (l_cons (e_joined1 (e_str (l_cons (e_name rfl (l_nil ⟨by simp, ?_⟩)))))))
        exact (h1 σ2 _ hx2.1 hab (s'.tail (A := [_]))).2 _
end
end Mine
end
section
open PySem PySem.W PySem.Calls PyProof.Rows PySem.SeqAt
set_option linter.unusedVariables false
set_option maxRecDepth 100000
namespace Mine
def pr (p : Int × Int) : V := .tup [.int p.1, .int p.2]
def prs (ps : List (Int × Int)) : List V := ps.map pr
theorem PS.tell_ok {p : PS} {n : Nat} (k q : Int) (h : p.names.Nodup) (hf : p.fits n) : (p.tell k q).names.Nodup ∧ (p.tell k q).fits (n + 2) ∧ (p.tell k q).rd = p.rd := by
  unfold PS.tell
  refine ⟨?_, PS.fits_upd (k := 1) (PS.fits_ens hf q) q _ fun r => by simp, ?_⟩
  · rw [PS.names_upd (p.ens q) q (fun r => { r with su := r.su ++ [k] }) fun _ => rfl]; exact PS.nodup_ens h q
  · unfold PS.upd PS.ens; split <;> rfl
theorem PS.add_ok {p : PS} {n : Nat} (k : Int) (qs : List Int) (h : p.names.Nodup) (hf : p.fits n) : (p.add k qs).names.Nodup ∧ (p.add k qs).fits (n + 1 + 2 * qs.length) ∧ (p.add k qs).rd = p.rd := by
  unfold PS.add
  have base : ((p.ens k).upd k fun r => { r with np := r.np + qs.length }).names.Nodup ∧ ((p.ens k).upd k fun r => { r with np := r.np + qs.length }).fits (n + 1) ∧ ((p.ens k).upd k fun r => { r with np := r.np + qs.length }).rd = p.rd := by
    refine ⟨?_, PS.fits_upd (k := 0) (PS.fits_ens hf k) k _ fun r => Nat.le_refl _, ?_⟩
    · rw [PS.names_upd (p.ens k) k (fun r => { r with np := r.np + qs.length }) fun _ => rfl]; exact PS.nodup_ens h k
    · unfold PS.upd PS.ens; split <;> rfl
  generalize ((p.ens k).upd k fun r => { r with np := r.np + qs.length }) = p0 at base
  have main : ∀ (qs : List Int) (p0 : PS) (n0 : Nat), p0.names.Nodup → p0.fits n0 → p0.rd = p.rd → (qs.foldl (fun p q => p.tell k q) p0).names.Nodup ∧ (qs.foldl (fun p q => p.tell k q) p0).fits (n0 + 2 * qs.length) ∧ (qs.foldl (fun p q => p.tell k q) p0).rd = p.rd := by
    intro qs
    induction qs with
    | nil => intro p0 n0 h1 h2 h3; exact ⟨h1, h2, h3⟩
    | cons q qs ih =>
      intro p0 n0 h1 h2 h3
      obtain ⟨t1, t2, t3⟩ := PS.tell_ok k q h1 h2
      have := ih (p0.tell k q) (n0 + 2) t1 t2 (t3.trans h3)
      rw [List.foldl_cons]
      refine ⟨this.1, ?_, this.2.2⟩
      have e : n0 + 2 * (q :: qs).length = n0 + 2 + 2 * qs.length := by simp; omega
      rw [e]; exact this.2.1
  exact main qs p0 (n + 1) base.1 base.2.1 base.2.2
def told0 (z : Nat) : PS := (List.range z).foldl (fun p (i : Nat) => p.add (i : Int) []) ⟨[], none, 0, 0⟩
def told (z : Nat) (ps : List (Int × Int)) : PS := ps.foldl (fun p q => p.add q.2 [q.1]) (told0 z)
theorem told0_succ (i : Nat) : told0 (i + 1) = (told0 i).add (i : Int) [] := by unfold told0; rw [List.range_succ, List.foldl_append]; rfl
theorem told0_ok : ∀ z : Nat, (told0 z).names.Nodup ∧ (told0 z).fits z ∧ (told0 z).rd = none
  | 0 => ⟨List.nodup_nil, ⟨Nat.le_refl _, fun _ h => by cases h⟩, rfl⟩
  | z + 1 => by
    obtain ⟨a, b, c⟩ := told0_ok z
    rw [told0_succ]
    obtain ⟨x, y, w⟩ := PS.add_ok (z : Int) [] a b
    exact ⟨x, y, w.trans c⟩
theorem tells_ok : ∀ (ps : List (Int × Int)) (p : PS) (n : Nat), p.names.Nodup → p.fits n → p.rd = none → (ps.foldl (fun p q => p.add q.2 [q.1]) p).names.Nodup ∧ (ps.foldl (fun p q => p.add q.2 [q.1]) p).fits (n + 3 * ps.length) ∧ (ps.foldl (fun p q => p.add q.2 [q.1]) p).rd = none
  | [], p, n, h1, h2, h3 => ⟨h1, h2, h3⟩
  | q :: ps, p, n, h1, h2, h3 => by
    obtain ⟨x, y, w⟩ := PS.add_ok q.2 [q.1] h1 h2
    have := tells_ok ps (p.add q.2 [q.1]) (n + 3) x y (w.trans h3)
    rw [List.foldl_cons]
    have e : n + 3 * (q :: ps).length = n + 3 + 3 * ps.length := by simp; omega
    rw [e]; exact this
theorem told_ok (z : Nat) (ps : List (Int × Int)) : (told z ps).names.Nodup ∧ (told z ps).fits (z + 3 * ps.length) ∧ (told z ps).rd = none := by
  obtain ⟨a, b, c⟩ := told0_ok z
  exact tells_ok ps _ z a b c
theorem Srt.rd_none {σ : Srt} (h : σ.abs.rd = none) : σ.rd = none := by
  unfold Srt.abs at h
  simpa using h
theorem m_add (p : Params) : MethD (Mine.kx.heap_1 p) 137 "add" 87 := ⟨rfl, rfl, rfl⟩
section
variable {g : G}
theorem m_act (p : Params) : MethD (Mine.kx.heap_1 p) 137 "is_active" 106 := ⟨rfl, rfl, rfl⟩
theorem cyc_tup (D : Gd g) : Looks (model g.prog g.w) g.B (isInstance (.ref 55) (.type "tuple")) false := looks_instIn g.kin (by rw [D.K]; rfl)
theorem cyc_typ (D : Gd g) : Looks (model g.prog g.w) g.B (isType (.ref 55)) true := by
  have h : (clsIn g.K 55).isSome = true := by rw [D.K]; rfl
  obtain ⟨cd, hcd⟩ := Option.isSome_iff_exists.mp h
  unfold clsIn at hcd
  split at hcd
  · rename_i ho
    exact (Looks.ld (g.kin _ _ ho)).andThen .now
  · cases hcd
theorem cyc_ve (D : Gd g) : Catches g (.ref 55) (.type "ValueError") false := ⟨cyc_tup D, cyc_typ D, by rw [D.K]; rfl, by rw [D.K]; kernel_rfl⟩
theorem cyc_cyc (D : Gd g) : Catches g (.ref 55) (.ref 55) true := ⟨cyc_tup D, cyc_typ D, by rw [D.K]; rfl, by rw [D.K]; rfl⟩
theorem ve_ve (D : Gd g) : Catches g (.type "ValueError") (.type "ValueError") true := ⟨(Looks.of_pure rfl : Looks _ _ (typeOf (.type "ValueError")) _).andThen (Looks.of_pure (by rw [isSubtype_type]; kernel_rfl)), Looks.now, by rw [D.K]; kernel_rfl, by rw [D.K]; kernel_rfl⟩
end
end Mine
end
section
open PySem PySem.W PySem.Calls PyProof.Rows PySem.SeqAt
set_option linter.unusedVariables false
set_option maxRecDepth 100000
namespace Mine
def secs (ps : List (Int × Int)) (t : Int → Bool) : List Int := (ps.filter fun q => t q.1).map (·.2)
theorem prs_len (ps : List (Int × Int)) : (prs ps).length = ps.length := by unfold prs; simp
theorem prs_get {ps : List (Int × Int)} {i : Nat} (h : i < ps.length) : (prs ps).getD i .none = .tup [.int ps[i].1, .int ps[i].2] := by
  unfold prs; rw [List.getD_eq_getElem?_getD, List.getElem?_map, List.getElem?_eq_getElem h]; rfl
theorem secs_take {ps : List (Int × Int)} {t : Int → Bool} {i : Nat} (h : i < ps.length) : secs (ps.take (i + 1)) t = secs (ps.take i) t ++ (if t ps[i].1 then [ps[i].2] else []) := by
  unfold secs
  rw [List.take_add_one, List.getElem?_eq_getElem h, List.filter_append, List.map_append]
  cases z : t ps[i].1 <;> simp [List.filter_cons, z]
theorem secs_len (ps : List (Int × Int)) (t : Int → Bool) : (secs ps t).length ≤ ps.length := by unfold secs; rw [List.length_map]; exact List.length_filter_le ..
theorem nums_app (a b : List Int) : nums (a ++ b) = nums a ++ nums b := by unfold nums; simp
section
variable {g : G} {F : Fm} {m : Loc} {H : AH} {s : Shared} {X : Value → List V → Loc → AH → Prop}
theorem pair_turn {Fc : Fm} {scope : Scope} {x y : Str} {px py py2 pt : Pos} {k : Nat} {c : Expr} {q : Int × Int} {acc : Addr} {ys : List Int} {J : List V → Loc → AH → Prop} {m₀ : Loc} (hF : CompOf Fc F scope) (hh : F.A.handled = none) (t : Int → Bool) (hz : ys.length ≤ 1000)
    (hx : ownN scope x = true) (hy : ownN scope y = true) (hxy : x ≠ y) (hd : (y == ("__debug__" : Str)) = false) (hs : Sees scope m₀ m)
    (ht : ∀ m', Sees scope m₀ m' → m' x = some (.int q.1) → WB g Fc (isTrue c Fc.env (eval c Fc.env)) m' H (fun b m'' H'' => b = t q.1 ∧ m'' = m' ∧ H'' = H) X)
    (hJ : ∀ m', Sees scope m₀ m' → J (nums (ys ++ (if t q.1 then [q.2] else []))) m' H) :
    WA g Fc (.Tuple [.Name x px, .Name y py] k pt) (.tup [.int q.1, .int q.2]) m H (fun m H => WB g Fc (testsOf [c] Fc.env) m H (fun ok m H => if ok then WAcc g Fc acc (emitTail (.Name y py2) Fc acc) (nums ys) m H (fun ys m H => J ys m H) X else J (nums ys) m H) X) X := by
  refine a_tuple (hF.hh hh) rfl (a_name (hF.loc hx) (a_name (hF.loc hy) ?_))
  have s' : Sees scope m₀ (setL (setL m x (.int q.1)) y (.int q.2)) := (hs.set hx).set hy
  refine tests_one (Wt.post (ht _ s' (by rw [setL_ne _ _ hxy, setL_self])) fun b m'' H'' ⟨q1, q2, q3⟩ => ?_)
  subst q1 q2 q3
  have z := hJ _ s'
  by_cases e : t q.1 = true
  · rw [if_pos e] at z ⊢
    refine acc_emit (by rw [ints_length, sizeLine_eq]; omega) (e_name (setL_self ..) ?_ hd)
    rw [nums_app] at z
    exact z
  · rw [if_neg e] at z ⊢
    rw [List.append_nil] at z
    exact z
theorem w0_pairs {scope : Scope} {x y : Str} {px py py2 pt : Pos} {k : Nat} {c : Expr} {l : Addr} {ps : List (Int × Int)} {Q : List V → AH → Prop} (hh : F.A.handled = none) (t : Int → Bool) (hl : H l = some (.list (prs ps))) (hz : ps.length ≤ 900)
    (hx : ownN scope x = true) (hy : ownN scope y = true) (hxy : x ≠ y) (hd : (y == ("__debug__" : Str)) = false)
    (ht : ∀ Fc, CompOf Fc F scope → ∀ q ∈ ps, ∀ m', Sees scope m m' → m' x = some (.int q.1) → WB g Fc (isTrue c Fc.env (eval c Fc.env)) m' H (fun b m'' H'' => b = t q.1 ∧ m'' = m' ∧ H'' = H) X)
    (hq : Q (nums (secs ps t)) H) : Walk0 g F scope (.Tuple [.Name x px, .Name y py] k pt) [c] (emitTail (.Name y py2)) (.ref l) m H Q X := by
  refine ⟨(prs ps).length, _, fun H => H l = some (.list (prs ps)), fun i ys m' H' => H' = H ∧ ys = nums (secs (ps.take i) t) ∧ Sees scope m m', it_list, fun i ys m' H' ⟨e, _⟩ => by rw [e]; exact hl, ⟨rfl, rfl, .start _ _⟩, fun Fc acc hF i ys m' H' hi ⟨e1, e2, e3⟩ => ?_, fun ys m' H' ⟨e1, e2, _⟩ => ?_⟩
  · subst e1 e2
    rw [prs_len] at hi
    rw [prs_get hi]
    refine pair_turn hF hh t (by have := secs_len (ps.take i) t; simp at this; omega) hx hy hxy hd e3 (ht Fc hF _ (List.getElem_mem hi)) fun m'' s'' => ⟨rfl, ?_, s''⟩
    rw [secs_take hi]
  · subst e1 e2
    rw [prs_len, List.take_of_length_le (Nat.le_refl _)]
    exact hq
theorem wk_pairs {Fc : Fm} {scope : Scope} {x y : Str} {px py py2 pt : Pos} {k : Nat} {c : Expr} {l acc : Addr} {ps : List (Int × Int)} {ys : List Int} {m₀ : Loc} {Q : List V → Loc → AH → Prop} (hF : CompOf Fc F scope) (hh : F.A.handled = none) (t : Int → Bool) (hl : H l = some (.list (prs ps))) (hz : ys.length + ps.length ≤ 900)
    (hx : ownN scope x = true) (hy : ownN scope y = true) (hxy : x ≠ y) (hd : (y == ("__debug__" : Str)) = false) (hs : Sees scope m₀ m)
    (ht : ∀ q ∈ ps, ∀ m', Sees scope m₀ m' → m' x = some (.int q.1) → WB g Fc (isTrue c Fc.env (eval c Fc.env)) m' H (fun b m'' H'' => b = t q.1 ∧ m'' = m' ∧ H'' = H) X)
    (hq : ∀ m', Sees scope m₀ m' → Q (nums (ys ++ secs ps t)) m' H) : Walk g Fc acc (.Tuple [.Name x px, .Name y py] k pt) [c] (emitTail (.Name y py2) Fc acc) (.ref l) (nums ys) m H Q X := by
  refine ⟨(prs ps).length, _, fun H => H l = some (.list (prs ps)), fun i zs m' H' => H' = H ∧ zs = nums (ys ++ secs (ps.take i) t) ∧ Sees scope m₀ m', it_list, fun i ys m' H' ⟨e, _⟩ => by rw [e]; exact hl, ⟨rfl, by unfold secs; simp, hs⟩, fun i zs m' H' hi ⟨e1, e2, e3⟩ => ?_, fun zs m' H' ⟨e1, e2, e3⟩ => ?_⟩
  · subst e1 e2
    rw [prs_len] at hi
    rw [prs_get hi]
    refine pair_turn hF hh t (by have := secs_len (ps.take i) t; simp at this ⊢; omega) hx hy hxy hd e3 (ht _ (List.getElem_mem hi)) fun m'' s'' => ⟨rfl, ?_, s''⟩
    rw [secs_take hi, List.append_assoc]
  · subst e1 e2
    rw [prs_len, List.take_of_length_le (Nat.le_refl _)]
    exact hq _ e3
end
end Mine
end
section
open PySem PySem.W PySem.Calls PyProof.Rows PySem.SeqAt
set_option linter.unusedVariables false
namespace Mine
def cnt (ps : List (Int × Int)) (n : Int) : Int := ((ps.filter fun q => q.2 = n).length : Int)
def sus (ps : List (Int × Int)) (f : Int) : List Int := (ps.filter fun q => q.1 = f).map (·.2)
theorem cnt_snoc (qs : List (Int × Int)) (q : Int × Int) (n : Int) : cnt (qs ++ [q]) n = cnt qs n + (if q.2 = n then 1 else 0) := by
  unfold cnt
  rw [List.filter_append, List.length_append]
  by_cases h : q.2 = n
  · rw [if_pos h]; simp [h]
  · rw [if_neg h]; simp [h]
theorem sus_snoc (qs : List (Int × Int)) (q : Int × Int) (f : Int) : sus (qs ++ [q]) f = sus qs f ++ (if q.1 = f then [q.2] else []) := by
  unfold sus
  rw [List.filter_append, List.map_append]
  by_cases h : q.1 = f
  · rw [if_pos h]; simp [h]
  · rw [if_neg h]; simp [h]
def rowOf (ps : List (Int × Int)) (i : Nat) : PRow := ⟨(i : Int), cnt ps i, sus ps i⟩
def baseP (z : Nat) (f : Nat → PRow) : PS := ⟨(List.range z).map f, none, 0, 0⟩
theorem baseP_upd (z : Nat) (f : Nat → PRow) (k : Int) (h : PRow → PRow) : (baseP z f).upd k h = baseP z fun i => if (f i).k = k then h (f i) else f i := by
  unfold PS.upd baseP; simp [List.map_map, Function.comp_def]
theorem baseP_names (z : Nat) (f : Nat → PRow) (hf : ∀ i, (f i).k = (i : Int)) : (baseP z f).names = (List.range z).map fun (i : Nat) => (i : Int) := by
  unfold PS.names baseP; simp only [List.map_map]; exact List.map_congr_left fun i _ => hf i
theorem baseP_ens {z : Nat} {f : Nat → PRow} (hf : ∀ i, (f i).k = (i : Int)) {k : Nat} (hk : k < z) : (baseP z f).ens (k : Int) = baseP z f := by
  unfold PS.ens
  rw [if_pos (by rw [baseP_names z f hf]; exact List.mem_map.mpr ⟨k, List.mem_range.mpr hk, rfl⟩)]
theorem told0_is : ∀ z : Nat, told0 z = baseP z (rowOf [])
  | 0 => rfl
  | z + 1 => by
    rw [told0_succ, told0_is z]
    unfold PS.add
    simp only [List.foldl_nil, List.length_nil]
    have hn : ¬ ((z : Int) ∈ (baseP z (rowOf [])).names) := by
      rw [baseP_names z _ fun _ => rfl]
      intro q
      obtain ⟨i, hi, e⟩ := List.mem_map.mp q
      have := List.mem_range.mp hi
      omega
    unfold PS.ens
    rw [if_neg hn]
    unfold PS.upd baseP
    simp only [PS.mk.injEq, and_self, and_true]
    rw [List.range_succ, List.map_append, List.map_append]
    congr 1
    · rw [List.map_map]
      refine List.map_congr_left fun i hi => ?_
      have := List.mem_range.mp hi
      show (if (rowOf [] i).k = (z : Int) then _ else _) = _
      rw [if_neg (by show ¬ ((i : Int) = (z : Int)); omega)]
    · simp [rowOf, cnt, sus]
theorem told_from {z : Nat} : ∀ (ps qs : List (Int × Int)), (∀ q ∈ ps, 0 ≤ q.1 ∧ q.1 < z ∧ 0 ≤ q.2 ∧ q.2 < z) → ps.foldl (fun p q => p.add q.2 [q.1]) (baseP z (rowOf qs)) = baseP z (rowOf (qs ++ ps))
  | [], qs, _ => by simp
  | q :: ps, qs, h => by
    have hq := h q List.mem_cons_self
    have e : (baseP z (rowOf qs)).add q.2 [q.1] = baseP z (rowOf (qs ++ [q])) := by
      obtain ⟨a, b⟩ := q
      obtain ⟨a, rfl⟩ := Int.eq_ofNat_of_zero_le hq.1
      obtain ⟨b, rfl⟩ := Int.eq_ofNat_of_zero_le hq.2.2.1
      have ha : a < z := by omega
      have hb : b < z := by omega
      unfold PS.add
      simp only [List.foldl_cons, List.foldl_nil, List.length_singleton]
      rw [baseP_ens (fun _ => rfl) hb, baseP_upd]
      unfold PS.tell
      rw [baseP_ens (fun i => by show (if _ then _ else _ : PRow).k = _; split <;> rfl) ha, baseP_upd]
      unfold baseP
      simp only [PS.mk.injEq, and_self, and_true]
      refine List.map_congr_left fun i _ => ?_
      unfold rowOf
      rw [cnt_snoc, sus_snoc]
      simp only
      by_cases h1 : (i : Int) = (b : Int)
      · rw [if_pos h1, if_pos (show (b : Int) = (i : Int) from h1.symm)]
        by_cases h2 : (i : Int) = (a : Int)
        · rw [if_pos (show (a : Int) = (i : Int) from h2.symm)]
          simp only [h2, if_true]
          rfl
        · rw [if_neg (show ¬ (a : Int) = (i : Int) from fun q => h2 q.symm), List.append_nil]
          simp only [h2, if_false]
          rfl
      · rw [if_neg h1, if_neg (show ¬ (b : Int) = (i : Int) from fun q => h1 q.symm), Int.add_zero]
        by_cases h2 : (i : Int) = (a : Int)
        · rw [if_pos (show (a : Int) = (i : Int) from h2.symm)]
          simp only [h2, if_true]
        · rw [if_neg (show ¬ (a : Int) = (i : Int) from fun q => h2 q.symm), List.append_nil]
          simp only [h2, if_false]
    rw [List.foldl_cons, e, told_from ps (qs ++ [q]) fun q' h' => h q' (List.mem_cons_of_mem _ h'), List.append_assoc]; rfl
end Mine
namespace Mine
theorem told_is {z : Nat} {ps : List (Int × Int)} (h : ∀ q ∈ ps, 0 ≤ q.1 ∧ q.1 < z ∧ 0 ≤ q.2 ∧ q.2 < z) : told z ps = baseP z (rowOf ps) := by
  unfold told
  rw [told0_is]
  exact told_from ps [] h
end Mine
end
section
open PySem PySem.W PySem.Calls PyProof.Rows PySem.SeqAt
set_option linter.unusedVariables false
namespace Mine
def nms (z : Nat) : List Int := (List.range z).map fun (i : Nat) => (i : Int)
theorem mem_nms {z : Nat} {n : Int} : n ∈ nms z ↔ 0 ≤ n ∧ n < z := by
  unfold nms
  rw [List.mem_map]
  constructor
  · rintro ⟨i, hi, rfl⟩; have := List.mem_range.mp hi; omega
  · rintro ⟨h0, h1⟩; exact ⟨n.toNat, List.mem_range.mpr (by omega), by omega⟩
theorem nms_lt (z : Nat) : (nms z).Pairwise (· < ·) := by
  unfold nms
  rw [List.pairwise_map]
  exact List.pairwise_lt_range.imp fun h => by omega
theorem nms_nodup (z : Nat) : (nms z).Nodup := (nms_lt z).imp fun h => by omega
theorem nms_len (z : Nat) : (nms z).length = z := by unfold nms; simp
def cntE (e : Int → Bool) (ps : List (Int × Int)) (n : Int) : Int := ((ps.filter fun q => decide (q.2 = n) && e q.1).length : Int)
def free (z : Nat) (e : Int → Bool) (ps : List (Int × Int)) : List Int := (nms z).filter fun n => e n && cntE e ps n == 0
def npv (e : Int → Bool) (W : List Int) (ps : List (Int × Int)) (n : Int) : Int := if e n then (if n ∈ W then -1 else cntE e ps n) else -2
def stP (z : Nat) (ps : List (Int × Int)) (f : Int → Int) (rd : List Int) (po nf : Int) : PS := ⟨(nms z).map fun i => ⟨i, f i, sus ps i⟩, some rd, po, nf⟩
theorem stP_names (z : Nat) (ps : List (Int × Int)) (f : Int → Int) (rd : List Int) (po nf : Int) : (stP z ps f rd po nf).names = nms z := by
  unfold PS.names stP; simp [Function.comp_def]
theorem stP_congr {z : Nat} {ps : List (Int × Int)} {f f' : Int → Int} {rd : List Int} {po nf : Int} (h : ∀ n ∈ nms z, f n = f' n) : stP z ps f rd po nf = stP z ps f' rd po nf := by
  unfold stP
  congr 1
  exact List.map_congr_left fun n hn => by rw [h n hn]
theorem stP_setNp (z : Nat) (ps : List (Int × Int)) (f : Int → Int) (rd : List Int) (po nf k v : Int) : (stP z ps f rd po nf).setNp k v = stP z ps (fun n => if n = k then v else f n) rd po nf := by
  unfold PS.setNp PS.upd stP
  simp only [List.map_map, PS.mk.injEq, and_self, and_true]
  refine List.map_congr_left fun n _ => ?_
  show (if n = k then _ else _) = _
  by_cases h : n = k
  · simp [h]
  · simp [h]
theorem stP_find {z : Nat} {ps : List (Int × Int)} {f : Int → Int} {k : Int} (hk : k ∈ nms z) : ((nms z).map fun i => (⟨i, f i, sus ps i⟩ : PRow)).find? (fun r => decide (r.k = k)) = some ⟨k, f k, sus ps k⟩ := by
  rw [List.find?_map]
  have : List.find? ((fun r : PRow => decide (r.k = k)) ∘ fun i => (⟨i, f i, sus ps i⟩ : PRow)) (nms z) = some k := by
    rw [List.find?_eq_some_iff_append]
    obtain ⟨as, bs, e⟩ := List.append_of_mem hk
    refine ⟨by simp, as, bs, e, fun a ha => ?_⟩
    have hn := nms_nodup z
    rw [e] at hn
    have := (List.nodup_append.mp hn).2.2 a ha k List.mem_cons_self
    simpa using this
  rw [this]; rfl
theorem stP_np {z : Nat} {ps : List (Int × Int)} {f : Int → Int} {rd : List Int} {po nf k : Int} (hk : k ∈ nms z) : (stP z ps f rd po nf).npOf k = f k ∧ (stP z ps f rd po nf).suOf k = sus ps k := by
  unfold PS.npOf PS.suOf stP
  simp only [stP_find hk]
  exact ⟨rfl, rfl⟩
theorem stP_dec {z : Nat} {ps : List (Int × Int)} {f : Int → Int} {rd : List Int} {po nf k : Int} (hk : k ∈ nms z) : (stP z ps f rd po nf).dec k = stP z ps (fun n => if n = k then f k - 1 else f n) (if f k - 1 = 0 then rd ++ [k] else rd) po nf := by
  unfold PS.dec
  rw [(stP_np hk).1, stP_setNp]
  by_cases h : f k - 1 = 0
  · rw [if_pos h, if_pos h]; rfl
  · rw [if_neg h, if_neg h]
theorem stP_out (z : Nat) (ps : List (Int × Int)) (rd : List Int) (po nf : Int) : ∀ (ns : List Int) (f : Int → Int), (stP z ps f rd po nf).out ns = stP z ps (fun n => if n ∈ ns then -1 else f n) rd po nf
  | [], f => by unfold PS.out; simp
  | k :: ns, f => by
    have := stP_out z ps rd po nf ns (fun n => if n = k then -1 else f n)
    unfold PS.out at this ⊢
    rw [List.foldl_cons, stP_setNp, this]
    refine stP_congr fun n _ => ?_
    by_cases h : n = k
    · simp [h]
    · simp [h]
def cnt1 (t : List Int) (n : Int) : Int := (t.count n : Int)
theorem decs {z : Nat} {ps : List (Int × Int)} {po nf : Int} : ∀ (t : List Int) (f : Int → Int) (rd : List Int), (∀ q ∈ t, q ∈ nms z) → (∀ q ∈ t, cnt1 t q ≤ f q) →
    ∃ A, t.foldl PS.dec (stP z ps f rd po nf) = stP z ps (fun n => f n - cnt1 t n) (rd ++ A) po nf ∧ A.Nodup ∧ ∀ n, n ∈ A ↔ n ∈ t ∧ f n = cnt1 t n
  | [], f, rd, _, _ => ⟨[], by simp [cnt1], List.nodup_nil, fun n => by simp⟩
  | q :: t, f, rd, hz, hf => by
    have hq := hz q List.mem_cons_self
    have hfq := hf q List.mem_cons_self
    have ce : ∀ n, cnt1 (q :: t) n = cnt1 t n + if n = q then 1 else 0 := fun n => by
      unfold cnt1
      rw [List.count_cons]
      by_cases h : n = q
      · subst h; simp
      · have : ¬ (q = n) := fun e => h e.symm
        simp [h, this]
    have c0 : ∀ n, 0 ≤ cnt1 t n := fun n => by unfold cnt1; omega
    have cm : ∀ n, n ∈ t ↔ 0 < cnt1 t n := fun n => by
      unfold cnt1
      have := @List.count_pos_iff _ _ _ n t
      rw [← this]; omega
    obtain ⟨A, h1, h2, h3⟩ := decs (ps := ps) (po := po) (nf := nf) t (fun n => if n = q then f q - 1 else f n) (if f q - 1 = 0 then rd ++ [q] else rd) (fun x hx => hz x (List.mem_cons_of_mem _ hx)) (fun x hx => by
      have := hf x (List.mem_cons_of_mem _ hx)
      rw [ce] at this
      by_cases h : x = q
      · subst h; simp at this ⊢; omega
      · simp [h] at this ⊢; omega)
    rw [List.foldl_cons, stP_dec hq, h1]
    have hc : ∀ n ∈ nms z, (if n = q then f q - 1 else f n) - cnt1 t n = f n - cnt1 (q :: t) n := fun n _ => by
      rw [ce]
      by_cases h : n = q
      · subst h; simp; omega
      · simp [h]
    rw [stP_congr hc]
    by_cases h : f q - 1 = 0
    · have nq : q ∉ A := fun hA => by
        have := (h3 q).mp hA
        rw [cm] at this
        rw [ce] at hfq
        simp at hfq
        omega
      refine ⟨q :: A, by rw [if_pos h, List.append_assoc]; rfl, List.nodup_cons.mpr ⟨nq, h2⟩, fun n => ?_⟩
      rw [List.mem_cons, List.mem_cons, h3, ce]
      by_cases e : n = q
      · subst e
        rw [ce] at hfq
        simp at hfq ⊢
        have := c0 n
        omega
      · simp [e]
    · refine ⟨A, by rw [if_neg h], h2, fun n => ?_⟩
      rw [List.mem_cons, h3, ce]
      by_cases e : n = q
      · subst e
        rw [cm]
        simp
        have := c0 n
        constructor
        · rintro ⟨a, b⟩; omega
        · intro b; constructor <;> omega
      · simp [e]
end Mine
end
section
open PySem PySem.W PySem.Calls PyProof.Rows PySem.SeqAt
set_option linter.unusedVariables false
set_option linter.unusedSimpArgs false
namespace Mine
theorem perm_of_mem {l l' : List Int} (h : l.Nodup) (h' : l'.Nodup) (k : ∀ n, n ∈ l ↔ n ∈ l') : l.Perm l' := by
  exact (List.perm_ext_iff_of_nodup h h').mpr k
def closedE (e : Int → Bool) (ps : List (Int × Int)) : Prop := ∀ q ∈ ps, e q.1 = true → e q.2 = true
def dn (z : Nat) (e : Int → Bool) : Int := (((nms z).filter fun n => !e n).length : Int)
def wo (e : Int → Bool) (ns : List Int) : Int → Bool := fun k => e k && !ns.contains k
structure Inv (z : Nat) (ps : List (Int × Int)) (e : Int → Bool) (W R : List Int) (P : PS) : Prop where
  eq : P = stP z ps (npv e W ps) R (dn z e + W.length) (dn z e)
  perm : (W ++ R).Perm (free z e ps)
theorem cntE_split {e : Int → Bool} {n : Int} (hn : e n = true) (q : Int) : ∀ ps : List (Int × Int), cntE e ps q = cntE (wo e [n]) ps q + cnt1 (sus ps n) q
  | [] => by simp [cntE, cnt1, sus]
  | p :: ps => by
    have ih := cntE_split hn q ps
    unfold cntE cnt1 sus wo at ih ⊢
    by_cases h1 : p.1 = n
    · by_cases h2 : p.2 = q
      · simp [List.filter_cons, h1, h2, hn] at ih ⊢; omega
      · simp [h1, h2, hn] at ih ⊢; omega
    · by_cases h2 : p.2 = q
      · by_cases h3 : e p.1 = true
        · simp [List.filter_cons, h1, h2, h3] at ih ⊢; omega
        · simp [List.filter_cons, h1, h2, h3] at ih ⊢; omega
      · simp [List.filter_cons, h1, h2] at ih ⊢; omega
theorem cntE_nonneg (e : Int → Bool) (ps : List (Int × Int)) (q : Int) : 0 ≤ cntE e ps q := by unfold cntE; omega
theorem cnt1_nonneg (t : List Int) (q : Int) : 0 ≤ cnt1 t q := by unfold cnt1; omega
theorem cnt1_pos {t : List Int} {q : Int} : q ∈ t ↔ 0 < cnt1 t q := by
  unfold cnt1
  have := @List.count_pos_iff _ _ _ q t
  rw [← this]; omega
theorem mem_sus {ps : List (Int × Int)} {n q : Int} : q ∈ sus ps n ↔ (n, q) ∈ ps := by
  unfold sus
  rw [List.mem_map]
  constructor
  · rintro ⟨p, hp, rfl⟩
    have := List.mem_filter.mp hp
    have e : p.1 = n := by simpa using this.2
    rw [← e]; exact this.1
  · intro h; exact ⟨(n, q), List.mem_filter.mpr ⟨h, by simp⟩, rfl⟩
theorem len_wo {n : Int} {e : Int → Bool} (hn : e n = true) : ∀ {l : List Int}, l.Nodup → n ∈ l → (l.filter fun k => !wo e [n] k).length = (l.filter fun k => !e k).length + 1
  | [], _, h => by cases h
  | x :: l, hl, h => by
    obtain ⟨h1, h2⟩ := List.nodup_cons.mp hl
    by_cases q : x = n
    · subst q
      have : (l.filter fun k => !wo e [x] k) = l.filter fun k => !e k := List.filter_congr fun k hk => by
        have : k ≠ x := fun z => h1 (z ▸ hk)
        simp [wo, this]
      rw [List.filter_cons, List.filter_cons, this]
      simp [wo, hn]
    · have hm : n ∈ l := (List.mem_cons.mp h).resolve_left fun z => q z.symm
      have ih := len_wo hn h2 hm
      rw [List.filter_cons, List.filter_cons]
      have : wo e [n] x = e x := by simp [wo, q]
      rw [this]
      split <;> simp [ih]
theorem len_ne {n : Int} {l : List Int} (hl : l.Nodup) (h : n ∈ l) : (l.filter fun k => !([n] : List Int).contains k).length + 1 = l.length := by
  have := len_wo (e := fun _ => true) (n := n) rfl hl h
  have e1 : (l.filter fun k => !wo (fun _ => true) [n] k) = l.filter fun k => !!([n] : List Int).contains k := List.filter_congr fun k _ => by simp [wo]
  have e2 : (l.filter fun k => !(fun _ => true : Int → Bool) k) = [] := by simp
  have e3 : (l.filter fun k => !!([n] : List Int).contains k).length + (l.filter fun k => !([n] : List Int).contains k).length = l.length := by
    clear this e1 e2 hl h
    induction l with
    | nil => rfl
    | cons x l ih =>
      rw [List.filter_cons, List.filter_cons]
      by_cases q : ([n] : List Int).contains x = true
      · rw [if_pos (by rw [q]; rfl), if_neg (by rw [q]; decide), List.length_cons, List.length_cons]; omega
      · rw [if_neg (by simpa using q), if_pos (by simpa using q), List.length_cons, List.length_cons]; omega
  rw [e1, e2] at this
  simp only [List.length_nil] at this
  omega
theorem mem_free {z : Nat} {e : Int → Bool} {ps : List (Int × Int)} {n : Int} : n ∈ free z e ps ↔ n ∈ nms z ∧ e n = true ∧ cntE e ps n = 0 := by
  unfold free; rw [List.mem_filter]; simp
theorem free_nodup (z : Nat) (e : Int → Bool) (ps : List (Int × Int)) : (free z e ps).Nodup := (nms_nodup z).filter _
theorem zero_r {a b c : Int} (h : a = b + c) (ha : a = 0) (hb : 0 ≤ b) (hc : 0 ≤ c) : c = 0 := by omega
theorem zero_l {a b c : Int} (h : a = b + c) (ha : a = 0) (hb : 0 ≤ b) (hc : 0 ≤ c) : b = 0 := by omega
theorem no_pos {a : Int} (h : 0 < a) (k : a = 0) : False := by omega
theorem le_l {a b c : Int} (h : a = b + c) (hb : 0 ≤ b) : c ≤ a := by omega
theorem eq_l {a b c : Int} (h : a = b + c) (k : a = c) : b = 0 := by omega
theorem eq_r {a b c : Int} (h : a = b + c) (k : b = 0) : a = c := by omega
theorem sub_l {a b c : Int} (h : a = b + c) : a - c = b := by omega
theorem pos_of {a : Int} (h : 0 ≤ a) (k : ¬ a = 0) : 0 < a := by omega
theorem sum0 {a b c : Int} (h : a = b + c) (k : b = 0) (k' : c = 0) : a = 0 := by omega
theorem done1_inv {z : Nat} {ps : List (Int × Int)} {e : Int → Bool} {W R : List Int} {P : PS} {n : Int} (hps : ∀ q ∈ ps, q.1 ∈ nms z ∧ q.2 ∈ nms z) (I : Inv z ps e W R P) (hn : n ∈ W) (hc : closedE e ps) :
    (n ∈ P.names ∧ P.npOf n = -1 ∧ ∀ q ∈ P.suOf n, q ∈ P.names) ∧ closedE (wo e [n]) ps ∧ ∃ R', Inv z ps (wo e [n]) (W.filter fun k => !([n] : List Int).contains k) R' (P.done1 n) := by
  obtain ⟨he, hp⟩ := I
  have mm : ∀ k, (k ∈ W ∨ k ∈ R) ↔ k ∈ nms z ∧ e k = true ∧ cntE e ps k = 0 := fun k => by rw [← List.mem_append, hp.mem_iff, mem_free]
  have nd : (W ++ R).Nodup := hp.nodup_iff.mpr (free_nodup ..)
  obtain ⟨nW, nR, nWR⟩ := List.nodup_append.mp nd
  obtain ⟨hz, hen, hcn⟩ := (mm n).mp (.inl hn)
  have sp : ∀ q, cntE e ps q = cntE (wo e [n]) ps q + cnt1 (sus ps n) q := fun q => cntE_split hen q ps
  have hsn : cnt1 (sus ps n) n = 0 := zero_r (sp n) hcn (cntE_nonneg _ _ _) (cnt1_nonneg _ _)
  have hse : ∀ q, 0 < cnt1 (sus ps n) q → e q = true := fun q h => hc _ (mem_sus.mp (cnt1_pos.mpr h)) hen
  have hsW : ∀ q, (q ∈ W ∨ q ∈ R) → cnt1 (sus ps n) q = 0 := fun q h => zero_r (sp q) ((mm q).mp h).2.2 (cntE_nonneg _ _ _) (cnt1_nonneg _ _)
  have hsz : ∀ q ∈ sus ps n, q ∈ nms z := fun q h => (hps _ (mem_sus.mp h)).2
  subst he
  refine ⟨⟨by rw [stP_names]; exact hz, ?_, ?_⟩, fun q hq h => ?_, ?_⟩
  · rw [(stP_np hz).1]; unfold npv; rw [if_pos hen, if_pos hn]
  · rw [(stP_np hz).2, stP_names]; exact hsz
  · unfold wo at h ⊢
    simp only [Bool.and_eq_true] at h ⊢
    refine ⟨hc q hq h.1, ?_⟩
    by_cases k : q.2 = n
    · have : q ∈ ps.filter fun q => decide (q.2 = n) && e q.1 := List.mem_filter.mpr ⟨hq, by simp [k, h.1]⟩
      unfold cntE at hcn
      have : 0 < (ps.filter fun q => decide (q.2 = n) && e q.1).length := List.length_pos_of_mem this
      omega
    · simp [k]
  · unfold PS.done1
    rw [(stP_np hz).2, stP_setNp]
    obtain ⟨A, h1, h2, h3⟩ := decs (z := z) (ps := ps) (po := dn z e + W.length) (nf := dn z e) (sus ps n) (fun k => if k = n then -2 else npv e W ps k) R hsz (fun q hq => by
      have h0 := cnt1_pos.mp hq
      have h1 : q ≠ n := fun z => no_pos h0 (z ▸ hsn)
      have h2 : q ∉ W := fun h => no_pos h0 (hsW q (.inl h))
      rw [if_neg h1]; unfold npv; rw [if_pos (hse q h0), if_neg h2]
      exact le_l (sp q) (cntE_nonneg _ _ _))
    rw [h1]
    have hA : ∀ k, k ∈ A ↔ 0 < cnt1 (sus ps n) k ∧ cntE (wo e [n]) ps k = 0 := fun k => by
      rw [h3, cnt1_pos]
      constructor
      · rintro ⟨a, b⟩
        have h1 : k ≠ n := fun z => no_pos a (z ▸ hsn)
        have h2 : k ∉ W := fun h => no_pos a (hsW k (.inl h))
        rw [if_neg h1] at b; unfold npv at b; rw [if_pos (hse k a), if_neg h2] at b
        exact ⟨a, eq_l (sp k) b⟩
      · rintro ⟨a, b⟩
        have h1 : k ≠ n := fun z => no_pos a (z ▸ hsn)
        have h2 : k ∉ W := fun h => no_pos a (hsW k (.inl h))
        rw [if_neg h1]; unfold npv; rw [if_pos (hse k a), if_neg h2]
        exact ⟨a, eq_r (sp k) b⟩
    have hd : dn z (wo e [n]) = dn z e + 1 := by unfold dn; rw [len_wo hen (nms_nodup z) hz]; omega
    have hw := len_ne nW hn
    refine ⟨R ++ A, ?_, ?_⟩
    · have hf : ∀ k ∈ nms z, (if k = n then -2 else npv e W ps k) - cnt1 (sus ps n) k = npv (wo e [n]) (W.filter fun k => !([n] : List Int).contains k) ps k := fun k hk => by
        by_cases q : k = n
        · subst q; rw [if_pos rfl, hsn]; unfold npv wo; simp
        · rw [if_neg q]
          have ew : wo e [n] k = e k := by unfold wo; simp [q]
          have ef : (k ∈ W.filter fun k => !([n] : List Int).contains k) ↔ k ∈ W := by rw [List.mem_filter]; simp [q]
          unfold npv
          rw [ew]
          simp only [ef]
          have := sp k
          by_cases hek : e k = true
          · rw [if_pos hek, if_pos hek]
            by_cases hkW : k ∈ W
            · rw [if_pos hkW, if_pos hkW, hsW k (.inl hkW)]; rfl
            · rw [if_neg hkW, if_neg hkW]; exact sub_l this
          · rw [if_neg hek, if_neg hek]
            have : ¬ 0 < cnt1 (sus ps n) k := fun h => hek (hse k h)
            have := cnt1_nonneg (sus ps n) k
            omega
      rw [stP_congr hf]
      unfold stP
      simp only [PS.mk.injEq, true_and]
      rw [hd]
      refine ⟨by omega, rfl⟩
    · have hRA : (R ++ A).Nodup := List.nodup_append.mpr ⟨nR, h2, fun a ha b hb q => by subst q; exact no_pos ((hA a).mp hb).1 (hsW a (.inr ha))⟩
      refine perm_of_mem (List.nodup_append.mpr ⟨nW.filter _, hRA, fun a ha b hb q => ?_⟩) (free_nodup ..) fun k => ?_
      · subst q
        have haW := (List.mem_filter.mp ha).1
        rcases List.mem_append.mp hb with h | h
        · exact nWR a haW a h rfl
        · exact no_pos ((hA a).mp h).1 (hsW a (.inl haW))
      · rw [List.mem_append, List.mem_append, List.mem_filter, mem_free, hA]
        have ew : wo e [n] k = true ↔ e k = true ∧ k ≠ n := by unfold wo; simp
        have en : (!([n] : List Int).contains k) = true ↔ k ≠ n := by simp
        rw [ew, en]
        have s := sp k
        have c1 := cntE_nonneg (wo e [n]) ps k
        have c2 := cnt1_nonneg (sus ps n) k
        constructor
        · rintro (⟨a, b⟩ | a | ⟨a, b⟩)
          · obtain ⟨m1, m2, m3⟩ := (mm k).mp (.inl a); exact ⟨m1, ⟨m2, b⟩, zero_l s m3 c1 c2⟩
          · obtain ⟨m1, m2, m3⟩ := (mm k).mp (.inr a)
            exact ⟨m1, ⟨m2, fun q => by subst q; exact nWR k hn k a rfl⟩, zero_l s m3 c1 c2⟩
          · exact ⟨hsz k (cnt1_pos.mpr a), ⟨hse k a, fun q => no_pos a (q ▸ hsn)⟩, b⟩
        · rintro ⟨a, ⟨b, c⟩, d⟩
          by_cases q : cnt1 (sus ps n) k = 0
          · rcases (mm k).mpr ⟨a, b, sum0 s d q⟩ with h | h
            · exact .inl ⟨h, c⟩
            · exact .inr (.inl h)
          · exact .inr (.inr ⟨pos_of c2 q, d⟩)
theorem dones_inv {z : Nat} {ps : List (Int × Int)} (hps : ∀ q ∈ ps, q.1 ∈ nms z ∧ q.2 ∈ nms z) : ∀ (ns : List Int) {e : Int → Bool} {W R : List Int} {P : PS}, Inv z ps e W R P → ns.Nodup → (∀ n ∈ ns, n ∈ W) → closedE e ps →
    P.doneOk ns ∧ closedE (wo e ns) ps ∧ ∃ R', Inv z ps (wo e ns) (W.filter fun k => !ns.contains k) R' (ns.foldl PS.done1 P)
  | [], e, W, R, P, I, _, _, hc => by
    have h1 : wo e [] = e := by funext k; simp [wo]
    have h2 : (W.filter fun k => !([] : List Int).contains k) = W := by simp
    rw [h1, h2]
    exact ⟨trivial, hc, R, I⟩
  | n :: ns, e, W, R, P, I, hnd, hW, hc => by
    obtain ⟨h1, h2⟩ := List.nodup_cons.mp hnd
    obtain ⟨a, b, R1, I1⟩ := done1_inv hps I (hW n List.mem_cons_self) hc
    obtain ⟨c, d, R2, I2⟩ := dones_inv hps ns I1 h2 (fun k hk => List.mem_filter.mpr ⟨hW k (List.mem_cons_of_mem _ hk), by
      have : k ≠ n := fun q => h1 (q ▸ hk)
      simp [this]⟩) b
    have e1 : wo (wo e [n]) ns = wo e (n :: ns) := by funext k; unfold wo; simp [Bool.and_assoc]
    have e2 : ((W.filter fun k => !([n] : List Int).contains k).filter fun k => !ns.contains k) = W.filter fun k => !(n :: ns).contains k := by
      rw [List.filter_filter]
      refine List.filter_congr fun k _ => ?_
      simp [Bool.and_comm]
    rw [e1] at d I2
    rw [e2] at I2
    exact ⟨⟨a, c⟩, d, R2, I2⟩
end Mine
end
section
open PySem PySem.W PySem.Calls PyProof.Rows PySem.SeqAt
set_option linter.unusedVariables false
set_option linter.unusedSimpArgs false
namespace Mine
theorem readyOf_abs (rows : List Row) : readyOf rows = ((rows.map Row.abs).filter fun r => r.np == 0).map (·.k) := by
  unfold readyOf
  rw [List.filter_map, List.map_map]; rfl
def allE : Int → Bool := fun _ => true
theorem cnt_all (ps : List (Int × Int)) (n : Int) : cntE allE ps n = cnt ps n := by
  unfold cntE cnt allE; simp
theorem told_rows {z : Nat} {ps : List (Int × Int)} (h : ∀ q ∈ ps, q.1 ∈ nms z ∧ q.2 ∈ nms z) : told z ps = ⟨(nms z).map fun i => ⟨i, cnt ps i, sus ps i⟩, none, 0, 0⟩ := by
  rw [told_is (fun q hq => by have := h q hq; rw [mem_nms, mem_nms] at this; omega)]
  unfold baseP nms
  simp [List.map_map, Function.comp_def, rowOf]
theorem start_inv {z : Nat} {ps : List (Int × Int)} {rows : List Row} (h : ∀ q ∈ ps, q.1 ∈ nms z ∧ q.2 ∈ nms z) (hr : rows.map Row.abs = (told z ps).rows) : Inv z ps allE [] (readyOf rows) { told z ps with rd := some (readyOf rows) } := by
  rw [told_rows h] at hr ⊢
  simp only at hr
  have e1 : readyOf rows = free z allE ps := by
    rw [readyOf_abs, hr]
    unfold free
    rw [List.filter_map, List.map_map]
    have e : (fun i => cnt ps i == 0) = fun n => allE n && cntE allE ps n == 0 := by funext n; rw [cnt_all]; simp [allE]
    show List.map (fun i => i) (List.filter (fun i => cnt ps i == 0) (nms z)) = _
    rw [List.map_id', e]
  refine ⟨?_, by rw [e1]; simp⟩
  unfold stP
  have hd : dn z allE = 0 := by unfold dn allE; simp
  rw [hd]
  simp only [PS.mk.injEq, true_and, List.length_nil, and_true]
  refine ⟨List.map_congr_left fun i _ => ?_, rfl⟩
  unfold npv
  rw [if_pos (show allE i = true from rfl), if_neg (by simp), cnt_all]
theorem out_inv {z : Nat} {ps : List (Int × Int)} {e : Int → Bool} {W R : List Int} {P : PS} (I : Inv z ps e W R P) : Inv z ps e (W ++ R) [] { P.out R with rd := some [], po := P.po + R.length } := by
  obtain ⟨he, hp⟩ := I
  subst he
  have hR : ∀ n ∈ R, e n = true := fun n hn => (mem_free.mp (hp.mem_iff.mp (List.mem_append_right _ hn))).2.1
  refine ⟨?_, by rw [List.append_nil]; exact hp⟩
  rw [stP_out]
  have hf : ∀ n ∈ nms z, (if n ∈ R then -1 else npv e W ps n) = npv e (W ++ R) ps n := fun n _ => by
    unfold npv
    by_cases q : n ∈ R
    · rw [if_pos q, if_pos (hR n q), if_pos (List.mem_append_right _ q)]
    · rw [if_neg q]; simp [q]
  rw [stP_congr hf]
  unfold stP
  simp only [PS.mk.injEq, true_and, List.length_append, and_true]
  omega
theorem act_inv {z : Nat} {ps : List (Int × Int)} {e : Int → Bool} {W R : List Int} {P : PS} (I : Inv z ps e W R P) : (decide (P.nf < P.po) || !R.isEmpty) = !(free z e ps).isEmpty := by
  obtain ⟨he, hp⟩ := I
  subst he
  have hl := hp.length_eq
  rw [List.length_append] at hl
  unfold stP
  simp only
  cases hR : R with
  | nil =>
    rw [hR] at hl
    simp only [List.length_nil, Nat.add_zero] at hl
    cases hF : free z e ps with
    | nil => rw [hF] at hl; simp at hl; simp [hl]
    | cons a b => rw [hF] at hl; simp at hl ⊢; omega
  | cons a b =>
    rw [hR] at hl
    cases hF : free z e ps with
    | nil => rw [hF] at hl; simp at hl
    | cons c d => simp
theorem secs_mem {ps : List (Int × Int)} {t : Int → Bool} {n : Int} : n ∈ secs ps t ↔ ∃ q ∈ ps, t q.1 = true ∧ q.2 = n := by
  unfold secs; simp only [List.mem_map, List.mem_filter]
  constructor
  · rintro ⟨q, ⟨a, b⟩, c⟩; exact ⟨q, a, b, c⟩
  · rintro ⟨q, a, b, c⟩; exact ⟨q, ⟨a, b⟩, c⟩
theorem cntE_zero {ps : List (Int × Int)} {e : Int → Bool} {n : Int} : cntE e ps n = 0 ↔ n ∉ secs ps e := by
  rw [secs_mem]
  unfold cntE
  constructor
  · rintro h ⟨q, a, b, c⟩
    have : 0 < (ps.filter fun q => decide (q.2 = n) && e q.1).length := List.length_pos_of_mem (a := q) (List.mem_filter.mpr ⟨a, by simp [b, c]⟩)
    omega
  · intro h
    have : (ps.filter fun q => decide (q.2 = n) && e q.1) = [] := List.filter_eq_nil_iff.mpr fun q hq k => h ⟨q, hq, by simp at k; exact ⟨k.2, k.1⟩⟩
    rw [this]; rfl
def endsOf (z : Nat) (e : Int → Bool) : List Int := (nms z).filter e
theorem mem_ends {z : Nat} {e : Int → Bool} {n : Int} : n ∈ endsOf z e ↔ n ∈ nms z ∧ e n = true := by unfold endsOf; rw [List.mem_filter]
theorem secs_ends {z : Nat} {e : Int → Bool} {ps : List (Int × Int)} (h : ∀ q ∈ ps, q.1 ∈ nms z) : secs ps (fun n => (endsOf z e).contains n) = secs ps e := by
  unfold secs
  congr 1
  refine List.filter_congr fun q hq => ?_
  rw [Bool.eq_iff_iff, List.contains_iff_mem, mem_ends]
  simp [h q hq]
theorem free_is {z : Nat} {e : Int → Bool} {ps : List (Int × Int)} (h : ∀ q ∈ ps, q.1 ∈ nms z) : ((endsOf z e).filter fun n => !(secs ps (fun n => (endsOf z e).contains n)).contains n) = free z e ps := by
  rw [secs_ends h]
  unfold endsOf free
  rw [List.filter_filter]
  refine List.filter_congr fun n _ => ?_
  rw [Bool.and_comm]
  congr 1
  rw [Bool.eq_iff_iff]
  simp only [Bool.not_eq_true', beq_iff_eq, cntE_zero]
  rw [← Bool.not_eq_true, List.contains_iff_mem]
theorem free_lt (z : Nat) (e : Int → Bool) (ps : List (Int × Int)) : (free z e ps).Pairwise (· ≤ ·) := ((nms_lt z).filter _).imp fun h => by omega
theorem sorted_is {z : Nat} {e : Int → Bool} {ps : List (Int × Int)} {ms W : List Int} (h1 : ms.Perm W) (h2 : ms.Pairwise (· ≤ ·)) (h3 : W.Perm (free z e ps)) : ms = free z e ps :=
  List.Perm.eq_of_pairwise (le := (· ≤ ·)) (fun a b _ _ h h' => by omega) h2 (free_lt z e ps) (h1.trans h3)
theorem free_len (z : Nat) (e : Int → Bool) (ps : List (Int × Int)) : (free z e ps).length ≤ z := by
  have := List.length_filter_le (fun n => e n && cntE e ps n == 0) (nms z)
  rw [nms_len] at this; exact this
theorem ends_len (z : Nat) (e : Int → Bool) : (endsOf z e).length ≤ z := by
  have := List.length_filter_le e (nms z)
  rw [nms_len] at this; exact this
def Goes (z : Nat) (e : Int → Bool) (pss : List (List (Int × Int))) (Gs : List Int) : Prop := Gs.Nodup ∧ ∀ n, n ∈ Gs ↔ n ∈ endsOf z e ∧ ∀ ps ∈ pss, n ∈ free z e ps
theorem goes_nil (z : Nat) (e : Int → Bool) : Goes z e [] (endsOf z e) := ⟨(nms_nodup z).filter _, fun n => by simp⟩
theorem goes_snoc {z : Nat} {e : Int → Bool} {pss : List (List (Int × Int))} {ps : List (Int × Int)} {Gs W : List Int} (h : Goes z e pss Gs) (hW : W.Perm (free z e ps)) : Goes z e (pss ++ [ps]) (Gs.filter fun n => W.contains n) := by
  refine ⟨h.1.filter _, fun n => ?_⟩
  rw [List.mem_filter, h.2, List.contains_iff_mem, hW.mem_iff]
  constructor
  · rintro ⟨⟨a, b⟩, c⟩; exact ⟨a, fun q hq => by rcases List.mem_append.mp hq with z | z; exact b q z; rw [List.mem_singleton] at z; subst z; exact c⟩
  · rintro ⟨a, b⟩; exact ⟨⟨a, fun q hq => b q (List.mem_append_left _ hq)⟩, b ps (by simp)⟩
theorem ends_next {z : Nat} {e : Int → Bool} {pss : List (List (Int × Int))} {Gs : List Int} (h : Goes z e pss Gs) (hc : ∀ ps ∈ pss, closedE e ps) (hz : ∀ ps ∈ pss, ∀ q ∈ ps, q.1 ∈ nms z) :
    ((nms z).filter fun n => (pss.flatMap fun ps => secs ps (fun n => (endsOf z e).contains n)).contains n) = endsOf z (wo e Gs) := by
  unfold endsOf
  refine List.filter_congr fun n hn => ?_
  rw [Bool.eq_iff_iff, List.contains_iff_mem, List.mem_flatMap]
  unfold wo
  rw [Bool.and_eq_true, Bool.not_eq_true', ← Bool.not_eq_true, List.contains_iff_mem, h.2, mem_ends]
  have hs : ∀ ps ∈ pss, secs ps (fun n => (List.filter e (nms z)).contains n) = secs ps e := fun ps hp => secs_ends (hz ps hp)
  constructor
  · rintro ⟨ps, hp, hm⟩
    rw [hs ps hp] at hm
    obtain ⟨q, hq, a, b⟩ := secs_mem.mp hm
    refine ⟨b ▸ hc ps hp q hq a, fun ⟨_, k⟩ => ?_⟩
    exact (cntE_zero.mp (mem_free.mp (k ps hp)).2.2) hm
  · rintro ⟨a, b⟩
    apply Classical.byContradiction
    intro k
    refine b ⟨⟨hn, a⟩, fun ps hp => mem_free.mpr ⟨hn, a, cntE_zero.mpr fun hm => k ⟨ps, hp, by rw [hs ps hp]; exact hm⟩⟩⟩
theorem closed_all (ps : List (Int × Int)) : closedE allE ps := fun _ _ _ => rfl
end Mine
end
section
open PySem PySem.W PySem.Calls PyProof.Rows PySem.SeqAt
set_option linter.unusedVariables false
set_option maxRecDepth 100000
namespace Mine
structure Pl where
  la : Addr
  ps : List (Int × Int)
  σ : Srt
  wa : Addr
  W : List Int
def plLay (p : Pl) : List (Addr × O) := p.σ.lay ++ [(p.wa, .list (nums p.W))]
def lays (pls : List Pl) : List (Addr × O) := pls.flatMap plLay
theorem lays_cons (p : Pl) (pls : List Pl) : lays (p :: pls) = plLay p ++ lays pls := by unfold lays; rw [List.flatMap_cons]
theorem lays_set {p : Pl} : ∀ {pls : List Pl} {i : Nat}, i < pls.length → (lays (pls.set i p)).Perm (plLay p ++ lays (pls.eraseIdx i))
  | [], _, h => by simp at h
  | q :: pls, 0, _ => by rw [List.set_cons_zero, List.eraseIdx_cons_zero, lays_cons]
  | q :: pls, i + 1, h => by
    rw [List.set_cons_succ, List.eraseIdx_cons_succ, lays_cons, lays_cons]
    refine ((lays_set (p := p) (pls := pls) (i := i) (by simpa using h)).append_left _).trans ?_
    rw [← List.append_assoc, ← List.append_assoc]
    exact List.perm_append_comm.append_right _
theorem lays_at {pls : List Pl} {i : Nat} (h : i < pls.length) : (lays pls).Perm (plLay pls[i] ++ lays (pls.eraseIdx i)) := by
  have := lays_set (p := pls[i]) h
  rwa [List.set_getElem_self] at this
theorem foc {w : Addr × O} {p : Pl} {X Y C : List (Addr × O)} (h : X.Perm (plLay p ++ Y)) : ((w :: X) ++ C).Perm (p.σ.lay ++ ((p.wa, .list (nums p.W)) :: w :: (Y ++ C))) := by
  refine (((h.cons w).append_right C)).trans ?_
  unfold plLay
  rw [List.append_assoc, List.cons_append, List.append_assoc]
  refine (List.perm_middle (a := w) (l₁ := p.σ.lay) (l₂ := [(p.wa, O.list (nums p.W))] ++ Y ++ C)).symm.trans ?_ |> fun z => by simpa using z
  simp only [List.cons_append, List.nil_append]
  exact (List.Perm.swap ..).append_left _
structure Tg (qs : List (Addr × List (Int × Int))) (sl wl : Addr) (B : List (Addr × O)) (pls : List Pl) (C : List (Addr × O)) (H : AH) : Prop where
  sat : Sat H (((wl, .list (pls.map fun p => .ref p.wa)) :: lays pls) ++ C)
  sub : ∃ Z, C = Z ++ B
  srt : (sl, .list (pls.map fun p => .ref p.σ.x)) ∈ C
  qs : pls.map (fun p => (p.la, p.ps)) = qs
section
variable {qs : List (Addr × List (Int × Int))} {sl wl : Addr} {B : List (Addr × O)} {pls : List Pl} {C : List (Addr × O)} {H : AH}
theorem Tg.alloc (x : Tg qs sl wl B pls C H) {a : Addr} {o : O} (h : H a = none) : Tg qs sl wl B pls ((a, o) :: C) (put H a o) :=
  ⟨(x.sat.new h).perm List.perm_middle.symm, let ⟨Z, e⟩ := x.sub; ⟨(a, o) :: Z, by rw [e]; rfl⟩, List.mem_cons_of_mem _ x.srt, x.qs⟩
theorem Tg.get (x : Tg qs sl wl B pls C H) {a : Addr} {o : O} (h : (a, o) ∈ C) : H a = some o := x.sat.get (List.mem_append_right _ h)
theorem Tg.inB (x : Tg qs sl wl B pls C H) {p : Addr × O} (h : p ∈ B) : p ∈ C := by obtain ⟨Z, e⟩ := x.sub; rw [e]; exact List.mem_append_right _ h
theorem Tg.base (x : Tg qs sl wl B pls C H) : Sat H B := by
  have := x.sat.tail
  obtain ⟨Z, e⟩ := x.sub
  rw [e] at this
  exact this.tail
theorem Tg.wts (x : Tg qs sl wl B pls C H) : H wl = some (.list (pls.map fun p => .ref p.wa)) := x.sat.get (by simp)
theorem Tg.len (x : Tg qs sl wl B pls C H) : pls.length = qs.length := by rw [← x.qs, List.length_map]
theorem Tg.foc (x : Tg qs sl wl B pls C H) {i : Nat} (hi : i < pls.length) : Sat H (pls[i].σ.lay ++ ((pls[i].wa, .list (nums pls[i].W)) :: (wl, .list (pls.map fun p => .ref p.wa)) :: (lays (pls.eraseIdx i) ++ C))) :=
  x.sat.perm (Mine.foc (lays_at hi))
theorem Tg.wa (x : Tg qs sl wl B pls C H) {i : Nat} (hi : i < pls.length) : H pls[i].wa = some (.list (nums pls[i].W)) := (x.foc hi).get (by simp)
theorem Tg.put {H' : AH} (x : Tg qs sl wl B pls C H) {i : Nat} (hi : i < pls.length) {p : Pl} (e1 : p.la = pls[i].la) (e2 : p.ps = pls[i].ps) (e3 : p.σ.x = pls[i].σ.x) (e4 : p.wa = pls[i].wa)
    (s : Sat H' (p.σ.lay ++ ((p.wa, .list (nums p.W)) :: (wl, .list (pls.map fun p => .ref p.wa)) :: (lays (pls.eraseIdx i) ++ C)))) : Tg qs sl wl B (pls.set i p) C H' := by
  have k : ∀ {β : Type} (f : Pl → β), f p = f pls[i] → (pls.set i p).map f = pls.map f := fun f e => by
    rw [List.map_set, e]
    have := List.set_getElem_self (as := pls.map f) (i := i) (by simpa using hi)
    simpa using this
  refine ⟨?_, x.sub, ?_, ?_⟩
  · rw [k (fun p => V.ref p.wa) (by rw [e4])]
    exact s.perm (Mine.foc (lays_set hi)).symm
  · rw [k (fun p => V.ref p.σ.x) (by rw [e3])]; exact x.srt
  · rw [k (fun p => (p.la, p.ps)) (by rw [e1, e2])]; exact x.qs
end
end Mine
end
section
open PySem PySem.W PySem.Calls PyProof.Rows PySem.SeqAt
set_option linter.unusedVariables false
set_option maxRecDepth 100000
namespace Mine
theorem fm_set {α β : Type} {f : α → List β} {p : α} : ∀ {xs : List α} {i : Nat}, i < xs.length → ((xs.set i p).flatMap f).Perm (f p ++ (xs.eraseIdx i).flatMap f)
  | [], _, h => by simp at h
  | q :: xs, 0, _ => by rw [List.set_cons_zero, List.eraseIdx_cons_zero, List.flatMap_cons]
  | q :: xs, i + 1, h => by
    rw [List.set_cons_succ, List.eraseIdx_cons_succ, List.flatMap_cons, List.flatMap_cons]
    refine ((fm_set (f := f) (p := p) (xs := xs) (i := i) (by simpa using h)).append_left _).trans ?_
    rw [← List.append_assoc, ← List.append_assoc]
    exact List.perm_append_comm.append_right _
theorem fm_at {α β : Type} {f : α → List β} {xs : List α} {i : Nat} (h : i < xs.length) : (xs.flatMap f).Perm (f xs[i] ++ (xs.eraseIdx i).flatMap f) := by
  have := fm_set (f := f) (p := xs[i]) h
  rwa [List.set_getElem_self] at this
theorem map_set_same {α β : Type} (f : α → β) {xs : List α} {i : Nat} {p : α} (hi : i < xs.length) (e : f p = f xs[i]) : (xs.set i p).map f = xs.map f := by
  rw [List.map_set, e]
  have := List.set_getElem_self (as := xs.map f) (i := i) (by simpa using hi)
  simpa using this
theorem sum_le {α : Type} {f : α → Nat} {n : Nat} : ∀ {xs : List α}, (∀ x ∈ xs, f x ≤ n) → (xs.map f).sum ≤ xs.length * n
  | [], _ => by simp
  | x :: xs, h => by
    have h1 := h x List.mem_cons_self
    have h2 := sum_le (f := f) (n := n) (xs := xs) fun y hy => h y (List.mem_cons_of_mem _ hy)
    rw [List.map_cons, List.sum_cons, List.length_cons, Nat.succ_mul]; omega
theorem told_srt {z : Nat} {ps : List (Int × Int)} {σ : Srt} (hz : z ≤ 5) (hps : ps.length ≤ 20) (h : ∀ q ∈ ps, q.1 ∈ nms z ∧ q.2 ∈ nms z) (e : σ.abs = told z ps) : CloseR σ.rows ∧ wt σ.rows (fun _ => false) ≤ 3000 ∧ σ.rows.length ≤ 1000 ∧ σ.abs.names.Nodup := by
  have t := told_ok z ps
  have r := told_rows h
  rw [← e] at t r
  have hr : σ.rows.map Row.abs = (nms z).map fun i => ⟨i, cnt ps i, sus ps i⟩ := by have := congrArg PS.rows r; exact this
  have hn : σ.rows.map (·.k) = nms z := by
    have := congrArg (List.map PRow.k) hr
    rw [List.map_map, List.map_map] at this
    have e2 : (nms z).map (PRow.k ∘ fun i => (⟨i, cnt ps i, sus ps i⟩ : PRow)) = nms z := by simp [Function.comp_def]
    rw [e2] at this
    exact this
  have hs : ∀ x ∈ σ.rows, ∃ n, x.su = sus ps n := fun x hx => by
    have : x.abs ∈ σ.rows.map Row.abs := List.mem_map_of_mem hx
    rw [hr] at this
    obtain ⟨n, _, en⟩ := List.mem_map.mp this
    exact ⟨n, by have := congrArg PRow.su en; exact this.symm⟩
  refine ⟨fun x hx q hq => ?_, ?_, ?_, t.1⟩
  · obtain ⟨n, en⟩ := hs x hx
    rw [en] at hq
    rw [hn]
    exact (h _ (mem_sus.mp hq)).2
  · unfold wt
    refine Nat.le_trans (sum_le (n := 21) fun x hx => ?_) ?_
    · obtain ⟨n, en⟩ := hs x hx
      have : x.su.length ≤ ps.length := by rw [en]; unfold sus; rw [List.length_map]; exact List.length_filter_le ..
      simp; omega
    · have : σ.rows.length = z := by have := congrArg List.length hn; simpa [nms] using this
      omega
  · have : σ.rows.length = z := by have := congrArg List.length hn; simpa [nms] using this
    omega
def mk3 : List (Addr × List (Int × Int)) → List Srt → List Addr → List Pl
  | q :: qs, σ :: σs, a :: as => ⟨q.1, q.2, σ, a, []⟩ :: mk3 qs σs as
  | _, _, _ => []
theorem mk3_is : ∀ {qs : List (Addr × List (Int × Int))} {σs : List Srt} {as : List Addr}, σs.length = qs.length → as.length = qs.length →
    (mk3 qs σs as).map (fun p => (p.la, p.ps)) = qs ∧ (mk3 qs σs as).map (fun p => V.ref p.σ.x) = σs.map (fun σ => .ref σ.x) ∧ (mk3 qs σs as).map (fun p => V.ref p.wa) = as.map .ref ∧ (lays (mk3 qs σs as)).Perm (σs.flatMap Srt.lay ++ as.map fun a => (a, .list [])) ∧
    ∀ i (h : i < (mk3 qs σs as).length) (h1 : i < qs.length) (h2 : i < σs.length), (mk3 qs σs as)[i].W = [] ∧ (mk3 qs σs as)[i].ps = qs[i].2 ∧ (mk3 qs σs as)[i].σ = σs[i]
  | [], [], [], _, _ => ⟨rfl, rfl, rfl, .refl _, fun _ h => by simp [mk3] at h⟩
  | q :: qs, σ :: σs, a :: as, h1, h2 => by
    obtain ⟨i1, i2, i3, i4, i5⟩ := mk3_is (qs := qs) (σs := σs) (as := as) (by simpa using h1) (by simpa using h2)
    refine ⟨by simp [mk3, i1], by simp [mk3, i2], by simp [mk3, i3], ?_, fun i h h1 h2 => ?_⟩
    · unfold mk3
      rw [lays_cons, List.flatMap_cons, List.map_cons]
      refine (i4.append_left _).trans ?_
      unfold plLay
      rw [List.append_assoc, List.append_assoc]
      refine List.Perm.append_left _ ?_
      show ((a, O.list []) :: (σs.flatMap Srt.lay ++ as.map fun a => (a, O.list []))).Perm _
      exact List.perm_middle.symm
    · cases i with
      | zero => exact ⟨rfl, rfl, rfl⟩
      | succ i => exact i5 i (by simpa [mk3] using h) (by simpa using h1) (by simpa using h2)
  | [], _ :: _, _, h, _ => by simp at h
  | [], [], _ :: _, _, h => by simp at h
  | _ :: _, [], _, h, _ => by simp at h
  | _ :: _, _ :: _, [], _, h => by simp at h
theorem Inv.fits {z : Nat} {ps : List (Int × Int)} {e : Int → Bool} {W R : List Int} {P : PS} (I : Inv z ps e W R P) (hz : z ≤ 5) (hps : ps.length ≤ 20) : P.fits 500 := by
  rw [I.eq]
  unfold stP PS.fits
  refine ⟨by simp [nms_len]; omega, fun r hr => ?_⟩
  obtain ⟨i, _, rfl⟩ := List.mem_map.mp hr
  have : (sus ps i).length ≤ ps.length := by unfold sus; rw [List.length_map]; exact List.length_filter_le ..
  show (sus ps i).length ≤ 500
  omega
theorem perm4 {α : Type} (a w b : α) (Y C : List α) : (a :: w :: (Y ++ b :: C)).Perm (b :: w :: (Y ++ a :: C)) := by
  have h1 : (a :: w :: (Y ++ b :: C)).Perm (a :: w :: b :: (Y ++ C)) := (List.perm_middle.cons _).cons _
  have h2 : (b :: w :: (Y ++ a :: C)).Perm (b :: w :: a :: (Y ++ C)) := (List.perm_middle.cons _).cons _
  refine h1.trans (List.Perm.trans ?_ h2.symm)
  have h3 : ([a, w, b] ++ (Y ++ C)).Perm ([b, w, a] ++ (Y ++ C)) := (List.reverse_perm [b, w, a]).append_right _
  exact h3
section
variable {qs : List (Addr × List (Int × Int))} {sl wl : Addr} {B : List (Addr × O)} {pls : List Pl} {C : List (Addr × O)} {H : AH}
theorem Tg.swap (x : Tg qs sl wl B pls C H) {i : Nat} (hi : i < pls.length) {na : Addr} {W' : List Int} (hn : H na = none) :
    Tg qs sl wl B (pls.set i { pls[i] with wa := na, W := W' }) ((pls[i].wa, .list (nums pls[i].W)) :: C) (Mine.put (Mine.put H na (.list (nums W'))) wl (.list ((pls.map fun p => V.ref p.wa).set i (.ref na)))) := by
  have y := (x.alloc (o := .list (nums W')) hn).foc hi
  have y2 := Sat.mid (A := pls[i].σ.lay ++ [(pls[i].wa, .list (nums pls[i].W))]) (a := wl) (o := .list (pls.map fun p => .ref p.wa)) (C := lays (pls.eraseIdx i) ++ (na, .list (nums W')) :: C) (by simpa using y) (.list ((pls.map fun p => V.ref p.wa).set i (.ref na)))
  have y3 : Sat (Mine.put (Mine.put H na (.list (nums W'))) wl (.list ((pls.map fun p => V.ref p.wa).set i (.ref na)))) (pls[i].σ.lay ++ ((pls[i].wa, .list (nums pls[i].W)) :: (wl, .list ((pls.map fun p => V.ref p.wa).set i (.ref na))) :: (lays (pls.eraseIdx i) ++ (na, .list (nums W')) :: C))) := by simpa using y2
  have y4 := y3.perm ((perm4 _ _ _ _ _).append_left _)
  refine ⟨?_, let ⟨Z, e⟩ := x.sub; ⟨_ :: Z, by rw [e]; rfl⟩, ?_, ?_⟩
  · rw [List.map_set]
    exact y4.perm (Mine.foc (p := { pls[i] with wa := na, W := W' }) (lays_set hi)).symm
  · rw [map_set_same (fun p : Pl => V.ref p.σ.x) (p := { pls[i] with wa := na, W := W' }) hi rfl]; exact List.mem_cons_of_mem _ x.srt
  · rw [map_set_same (fun p : Pl => (p.la, p.ps)) (p := { pls[i] with wa := na, W := W' }) hi rfl]; exact x.qs
end
end Mine
end
section
open PySem PySem.W PySem.Calls PyProof.Rows PySem.SeqAt
set_option linter.unusedVariables false
set_option maxRecDepth 100000
namespace Mine
def ord2 (c : Int) : Int × Int := if !((c.fdiv 16).fmod 4 == 3) then (min (c.fmod 4) ((c.fdiv 4).fmod 4), max (c.fmod 4) ((c.fdiv 4).fmod 4)) else (c.fmod 4, (c.fdiv 4).fmod 4)
def step2 (c : Int) : List (Int × Int) := if !((ord2 c).1 == (ord2 c).2) || (c.fdiv 16).fmod 4 == 3 then [ord2 c] else []
def steps2 (cs : List Int) : List (Int × Int) := cs.flatMap step2
theorem step2_len (c : Int) : (step2 c).length ≤ 1 := by unfold step2; split <;> simp
theorem steps2_len : ∀ cs : List Int, (steps2 cs).length ≤ cs.length
  | [] => Nat.le_refl _
  | c :: cs => by
    unfold steps2
    rw [List.flatMap_cons, List.length_append, List.length_cons, Nat.add_comm]
    exact Nat.add_le_add (steps2_len cs) (step2_len c)
theorem steps2_take {cs : List Int} {i : Nat} (h : i < cs.length) : steps2 (cs.take (i + 1)) = steps2 (cs.take i) ++ step2 cs[i] := by
  unfold steps2
  rw [List.take_add_one, List.getElem?_eq_getElem h, List.flatMap_append]
  simp
theorem dat_int (n : Int) : dat (.int n) = true := by unfold dat; rfl
theorem prs_app (a b : List (Int × Int)) : prs (a ++ b) = prs a ++ prs b := by unfold prs; exact List.map_append
section
variable {g : G} {F : Fm} {m : Loc} {H : AH} {X : Value → List V → Loc → AH → Prop} {Q : V → Loc → AH → Prop} {B : List (Addr × O)}
theorem t_or2 {x y : Expr} {pos : Pos} {whole : Sem Value} {Q : Bool → Loc → AH → Prop} (t1 t2 : Bool) (h1 : WB g F (isTrue x F.env (eval x F.env)) m H (fun b m' H' => b = t1 ∧ m' = m ∧ H' = H) X) (h2 : WB g F (isTrue y F.env (eval y F.env)) m H (fun b m' H' => b = t2 ∧ m' = m ∧ H' = H) X) (h : Q (t1 || t2) m H) : WB g F (isTrue (.BoolOp .Or [x, y] pos) F.env whole) m H Q X := by
  refine t_bool (t_or (Wt.post h1 fun b m' H' ⟨e1, e2, e3⟩ => ?_))
  subst e1 e2 e3
  cases b
  · rw [if_neg (by decide)]
    refine t_or (Wt.post h2 fun b m' H' ⟨e1, e2, e3⟩ => ?_)
    subst e1 e2 e3
    cases b
    · exact t_or_nil h
    · exact h
  · exact h
theorem t_and2 {x y : Expr} {pos : Pos} {whole : Sem Value} {Q : Bool → Loc → AH → Prop} (t1 t2 : Bool) (h1 : WB g F (isTrue x F.env (eval x F.env)) m H (fun b m' H' => b = t1 ∧ m' = m ∧ H' = H) X) (h2 : WB g F (isTrue y F.env (eval y F.env)) m H (fun b m' H' => b = t2 ∧ m' = m ∧ H' = H) X) (h : Q (t1 && t2) m H) : WB g F (isTrue (.BoolOp .And [x, y] pos) F.env whole) m H Q X := by
  refine t_bool (t_and (Wt.post h1 fun b m' H' ⟨e1, e2, e3⟩ => ?_))
  subst e1 e2 e3
  cases b
  · rw [if_neg (by decide)]; exact h
  · rw [if_pos rfl]
    refine t_and (Wt.post h2 fun b m' H' ⟨e1, e2, e3⟩ => ?_)
    subst e1 e2 e3
    cases b
    · rw [if_neg (by decide)]; exact h
    · rw [if_pos rfl]; exact t_and_nil h
theorem it_nums {l : Addr} {ns : List Int} : Iterable g (.ref l) ns.length (fun i => (nums ns).getD i .none) (fun H => H l = some (.list (nums ns))) := by
  have := it_list (g := g) (l := l) (xs := nums ns)
  rwa [ints_length] at this
theorem law_steps_spec (D : Gd g) (hl : F.lvl < 90) (hh : F.A.handled = none) {l : Addr} {cs : List Int} (hz : cs.length ≤ 20) (hm : (l, O.list (nums cs)) ∈ B) (s : Sat H B)
    (h : ∀ r H', Sat H' ((r, .list (prs (steps2 cs))) :: B) → Q (.ref r) m H') : WCode g F (.ref 148) [.ref l] m H Q X := by
  refine d_code (D.lk rfl) (D.cd rfl) rfl rfl rfl rfl rfl rfl rfl (lv100 hl rfl) (binds_peek (fun vs => [("cells", vs.getD 0 .none)]) (fun vs S hv => ?_) (fun h vs r => ?_)) (bs := [("cells", .ref l)]) rfl fun F' hF => ?_
  · match vs, hv with | [v], _ => rw [D.K]; rfl
  · obtain ⟨v, r', rfl, rv, rr⟩ := r.uncons; exact ⟨v, [], rfl, rv, rfl⟩
  have st2 : ∀ n ∈ (["first", "second"] : List Str), Stores F' n := by intro n hn; simp at hn; rcases hn with rfl | rfl <;> exact hF.loc rfl
  refine s_cons (s_assign (hF.loc rfl) rfl (e_list (l_nil ⟨by decide, fun r hr => ?_⟩)))
  refine s_cons (s_for (fun _ => rfl) (e_name rfl (for_any (it_nums (l := l) (ns := cs)) (fun i m' H' => m' "steps" = some (.ref r) ∧ Sat H' ((r, .list (prs (steps2 (cs.take i)))) :: B))
    (hF.hh hh) hF.st (fun _ _ _ x => x.2.get (List.mem_cons_of_mem _ hm)) ⟨rfl, s.new hr⟩ (fun i m' H' hi ⟨m1, s1⟩ => ?_) (fun m' H' ⟨m1, s1⟩ => ?_))))
  · rw [nums_get hi]
    have hlen : (steps2 (cs.take i)).length ≤ 1000 := Nat.le_trans (steps2_len _) (Nat.le_trans (List.length_take_le' _ _) (Nat.le_trans hz (by decide)))
    refine a_name (hF.loc rfl) (s_cons (s_swap (names := ["first", "second"]) (hF.hh hh) rfl (swapped_by hF.scope rfl) st2 (e_tup <| l_cons <| e_bin <| e_name rfl <| e_int <| o_mod (by decide) <| l_cons <| e_bin <| e_bin <| e_name rfl <| e_int <| o_div (by decide) (by decide) <| e_int <| o_mod (by decide) <| l_nil ⟨by simp [sizeLine_eq], _, rfl, rfl, ?_⟩)))
    refine s_cons (Wt.mono (Q := fun f m2 H2 => f = .next ∧ H2 = H' ∧ m2 "first" = some (.int (ord2 cs[i]).1) ∧ m2 "second" = some (.int (ord2 cs[i]).2) ∧ m2 "cell" = some (.int cs[i]) ∧ m2 "steps" = some (.ref r)) (s_if <| t_cmp rfl <| e_bin <| e_bin <| e_name rfl <| e_int <| o_div (by decide) (by decide) <| e_int <| o_mod (by decide) <| e_int <| o_nei <| tr_bool ?_) (fun f m2 H2 ⟨ef, eH, ma, mb, mc, ms⟩ => ?_) (fun _ _ _ _ x => x))
    · by_cases q : (!((cs[i].fdiv 16).fmod 4 == 3)) = true
      · rw [if_pos q]
        refine s_cons (s_swap (names := ["first", "second"]) (hF.hh hh) rfl (swapped_by hF.scope rfl) st2 (e_tup <| l_cons <| e_call <| e_blt (hF.glo rfl) (D.nb rfl) D.min ⟨_, rfl, cw_plain (.blt _) <| l_cons <| e_name rfl <| l_cons <| e_name rfl <| l_nil <| c_min2 (hF.hh hh) ?_⟩))
        refine l_cons <| e_call <| e_blt (hF.glo rfl) (D.nb rfl) D.max ⟨_, rfl, cw_plain (.blt _) <| l_cons <| e_name rfl <| l_cons <| e_name rfl <| l_nil <| c_max2 (hF.hh hh) <| l_nil ⟨by simp [sizeLine_eq], _, rfl, rfl, s_nil ⟨rfl, rfl, ?_, ?_, rfl, by exact m1⟩⟩⟩
        · unfold ord2; rw [if_pos q]; rfl
        · unfold ord2; rw [if_pos q]; rfl
      · rw [if_neg q]
        exact s_nil ⟨rfl, rfl, by unfold ord2; rw [if_neg q]; rfl, by unfold ord2; rw [if_neg q]; rfl, rfl, by exact m1⟩
    subst ef eH
    refine s_cons (s_if <| t_or2 (!((ord2 cs[i]).1 == (ord2 cs[i]).2)) ((cs[i].fdiv 16).fmod 4 == 3) (t_cmp rfl <| e_name (by exact ma) <| e_name (by exact mb) <| o_nei <| tr_bool ⟨rfl, rfl, rfl⟩) (t_cmp rfl <| e_bin <| e_bin <| e_name (by exact mc) <| e_int <| o_div (by decide) (by decide) <| e_int <| o_mod (by decide) <| e_int <| o_eqi <| tr_bool ⟨rfl, rfl, rfl⟩) ?_)
    by_cases q : (!((ord2 cs[i]).1 == (ord2 cs[i]).2) || (cs[i].fdiv 16).fmod 4 == 3) = true
    · rw [if_pos q]
      refine s_cons (s_expr <| e_meth <| e_name (by exact ms) ⟨_, meth_list (.own s1.at0) PySem.F.slot_list_append PySem.F.type_list_append, cw_plain (.blt _) <| l_cons <| e_tup <| l_cons <| e_name (by exact ma) <| l_cons <| e_name (by exact mb) <| l_nil ⟨by simp [sizeLine_eq], l_nil <| c_append s1.at0 (by rw [prs_len]; exact Nat.le_trans hlen (by decide)) ?_⟩⟩)
      refine s_nil (s_nil ⟨by exact ms, ?_⟩)
      have e : step2 cs[i] = [ord2 cs[i]] := by unfold step2; rw [if_pos q]
      rw [steps2_take hi, e, prs_app]
      exact s1.set _
    · rw [if_neg q]
      have e : step2 cs[i] = [] := by unfold step2; rw [if_neg q]
      refine s_nil (s_nil ⟨by exact ms, ?_⟩)
      rw [steps2_take hi, e, List.append_nil]
      exact s1
  · refine s_nil (s_cons (s_ret (e_name (by exact m1) (h r H' ?_))))
    rw [List.take_of_length_le (Nat.le_refl _)] at s1
    exact s1
end
end Mine
end
section
set_option linter.unusedVariables false
namespace Mine
def eN (ps : List (Int × Int)) : Nat → Int → Bool
  | 0 => allE
  | c + 1 => fun n => ps.any fun q => q.2 == n && (endsOf 4 (eN ps c)).contains q.1
def hgt (ps : List (Int × Int)) : Nat → Int → Int
  | 0 => fun _ => 0
  | c + 1 => fun n => if eN ps (c + 1) n then ((c + 1 : Nat) : Int) else hgt ps c n
def hts (ps : List (Int × Int)) (c : Nat) : List Int := (nms 4).map (hgt ps c)
theorem set_nms {z : Nat} {f : Int → Int} {n v : Int} (hn : n ∈ nms z) : ((nms z).map f).set n.toNat v = (nms z).map fun j => if j = n then v else f j := by
  obtain ⟨h0, h1⟩ := mem_nms.mp hn
  apply List.ext_getElem
  · simp
  · intro i h2 h3
    rw [List.getElem_set]
    simp only [List.length_set, List.length_map, nms_len] at h2
    simp only [List.getElem_map]
    have e : (nms z)[i]'(by rw [nms_len]; exact h2) = (i : Int) := by unfold nms; simp
    rw [e]
    by_cases q : n.toNat = i
    · rw [if_pos q, if_pos (by omega)]
    · rw [if_neg q, if_neg (by omega)]
theorem hts_zero (ps : List (Int × Int)) : hts ps 0 = List.replicate 4 0 := rfl
theorem hts_len (ps : List (Int × Int)) (c : Nat) : (hts ps c).length = 4 := by unfold hts; rw [List.length_map, nms_len]
def htsW (ps : List (Int × Int)) (c k : Nat) : List Int := (nms 4).map fun n => if ((endsOf 4 (eN ps (c + 1))).take k).contains n then ((c + 1 : Nat) : Int) else hgt ps c n
theorem htsW_zero (ps : List (Int × Int)) (c : Nat) : htsW ps c 0 = hts ps c := by unfold htsW hts; simp
theorem htsW_succ {ps : List (Int × Int)} {c k : Nat} (h : k < (endsOf 4 (eN ps (c + 1))).length) : (htsW ps c k).set ((endsOf 4 (eN ps (c + 1)))[k]).toNat ((c + 1 : Nat) : Int) = htsW ps c (k + 1) := by
  have hm := (mem_ends.mp (List.getElem_mem h)).1
  unfold htsW
  rw [set_nms hm]
  refine List.map_congr_left fun n hn => ?_
  have e : (endsOf 4 (eN ps (c + 1))).take (k + 1) = (endsOf 4 (eN ps (c + 1))).take k ++ [(endsOf 4 (eN ps (c + 1)))[k]] := by rw [List.take_add_one, List.getElem?_eq_getElem h]; rfl
  rw [e, List.contains_eq_mem, List.contains_eq_mem]
  by_cases q : n = (endsOf 4 (eN ps (c + 1)))[k]
  · rw [if_pos q, if_pos (by rw [decide_eq_true_iff, q]; exact List.mem_append_right _ (.head _))]
  · rw [if_neg q]
    have : decide (n ∈ List.take k (endsOf 4 (eN ps (c + 1))) ++ [(endsOf 4 (eN ps (c + 1)))[k]]) = decide (n ∈ List.take k (endsOf 4 (eN ps (c + 1)))) := by
      rw [decide_eq_decide, List.mem_append, List.mem_singleton]
      exact ⟨fun x => x.resolve_right q, .inl⟩
    rw [this]
theorem htsW_all (ps : List (Int × Int)) (c : Nat) : htsW ps c (endsOf 4 (eN ps (c + 1))).length = hts ps (c + 1) := by
  unfold htsW hts
  rw [List.take_of_length_le (Nat.le_refl _)]
  refine List.map_congr_left fun n hn => ?_
  show _ = if eN ps (c + 1) n then ((c + 1 : Nat) : Int) else hgt ps c n
  have : (endsOf 4 (eN ps (c + 1))).contains n = eN ps (c + 1) n := by
    rw [Bool.eq_iff_iff, List.contains_iff_mem, mem_ends]; simp [hn]
  rw [this]
def pre2 (ps : List (Int × Int)) (c : Nat) (n : Int) : List Int := ps.filterMap fun q => if q.2 == n && (endsOf 4 (eN ps c)).contains q.1 then some q.1 else none
theorem pre2_some (ps : List (Int × Int)) (c : Nat) (n : Int) : (!(pre2 ps c n).isEmpty) = eN ps (c + 1) n := by
  unfold pre2
  show _ = ps.any fun q => q.2 == n && (endsOf 4 (eN ps c)).contains q.1
  generalize endsOf 4 (eN ps c) = L
  induction ps with
  | nil => rfl
  | cons q l ih =>
    rw [List.filterMap_cons, List.any_cons]
    by_cases z : (q.2 == n && L.contains q.1) = true
    · rw [if_pos z, z]; rfl
    · rw [if_neg z, eq_false_of_ne_true z, Bool.false_or]; exact ih
end Mine
end
section
open PySem PySem.W PySem.Calls PyProof.Rows PySem.SeqAt
set_option linter.unusedVariables false
set_option maxRecDepth 100000
namespace Mine
theorem nums_filterMap {α : Type} (f : α → Option Int) (xs : List α) : xs.filterMap (fun x => (f x).map V.int) = nums (xs.filterMap f) := by
  unfold nums; rw [List.map_filterMap]
theorem nms_get {z i : Nat} (h : i < (nms z).length) : (nms z)[i] = (i : Int) := by
  have e : (nms z)[i]? = some (nms z)[i] := List.getElem?_eq_getElem h
  rw [nms_len] at h
  unfold nms at e
  rw [List.getElem?_map, List.getElem?_range h] at e
  exact (Option.some.inj e).symm
theorem nms4_get {z i : Nat} (h : i < (nms z).length) : (V.int (0 + (i : Int))) = .int (nms z)[i] := by rw [nms_get h, Int.zero_add]
theorem filterMap_if (t : Int → Bool) (xs : List Int) : xs.filterMap (fun n => if t n then some n else none) = xs.filter t := by
  induction xs with
  | nil => rfl
  | cons x xs ih => rw [List.filterMap_cons, List.filter_cons]; cases t x <;> simp [ih]
theorem setI {ns : List Int} {k : Nat} {v : Int} : (nums ns).set k (.int v) = nums (ns.set k v) := by unfold nums; rw [List.map_set]
section
variable {g : G} {F : Fm} {m : Loc} {H : AH} {X : Value → List V → Loc → AH → Prop} {Q : V → Loc → AH → Prop} {B : List (Addr × O)}
structure HtJ (l ha ea : Addr) (ps : List (Int × Int)) (B : List (Addr × O)) (i : Nat) (m' : Loc) (H' : AH) : Prop where
  m1 : m' "steps" = some (.ref l)
  m2 : m' "heights" = some (.ref ha)
  m3 : m' "ends" = some (.ref ea)
  s : Sat H' ((ea, .list (nums (endsOf 4 (eN ps i)))) :: (ha, .list (nums (hts ps i))) :: B)
theorem law_heights_spec (D : Gd g) (hl : F.lvl < 80) (hh : F.A.handled = none) {l : Addr} {ps : List (Int × Int)} (hz : ps.length ≤ 20) (hm : (l, O.list (prs ps)) ∈ B) (s : Sat H B)
    (h : ∀ r H', Sat H' ((r, .list (nums (hts ps 4))) :: B) → Q (.ref r) m H') : WCode g F (.ref 153) [.ref l] m H Q X := by
  refine d_code (D.lk rfl) (D.cd rfl) rfl rfl rfl rfl rfl rfl rfl (lv100 hl rfl) (binds_peek (fun vs => [("steps", vs.getD 0 .none)]) (fun vs S hv => ?_) (fun h vs r => ?_)) (bs := [("steps", .ref l)]) rfl fun F' hF => ?_
  · match vs, hv with | [v], _ => rw [D.K]; rfl
  · obtain ⟨v, r', rfl, rv, rr⟩ := r.uncons; exact ⟨v, [], rfl, rv, rfl⟩
  refine s_cons (s_assign (hF.loc rfl) rfl (e_bin <| e_list <| l_cons <| e_int <| l_nil ⟨by decide, fun a0 ha0 => e_int <| o_mulL (n := 4) (x := .int 0) (put_self ..) (by decide) fun ha hha => ?_⟩))
  have s1 : Sat (put (put H a0 (.list [.int 0])) ha (.list (List.replicate 4 (.int 0)))) ((ha, .list (nums (hts ps 0))) :: B) := (s.new ha0).tail (A := [_]) |>.new hha
  refine s_cons (s_assign (hF.cel rfl) (swaps_by hF.scope rfl) (e_call <| e_blt (hF.glo rfl) (D.nb rfl) D.list ⟨_, rfl, cw_plain (.type _) <| l_cons <| e_call <| e_blt (hF.glo rfl) (D.nb rfl) D.range ⟨_, rfl, cw_plain (.type _) <| l_cons <| e_int <| l_nil <| c_range1 <| l_nil <| c_listrangeN (n := 4) (hF.hh hh) (by decide) fun ea hea => ?_⟩⟩))
  have s2 := s1.new (o := .list (nums (endsOf 4 (eN ps 0)))) hea
  refine s_cons (s_for (fun _ => rfl) (e_call <| e_blt (hF.glo rfl) (D.nb rfl) D.range ⟨_, rfl, cw_plain (.type _) <| l_cons <| e_int <| l_cons <| e_int <| l_nil <| c_range2 <| for_any (it_range (n := 4) (by decide) (by decide) (by decide)) (fun i m' H' => ∃ ea, HtJ l ha ea ps B i m' H')
    (hF.hh hh) hF.st (fun _ _ _ _ => trivial) ⟨ea, rfl, rfl, rfl, s2⟩ (fun i m' H' hi ⟨ea, j⟩ => ?_) (fun m' H' ⟨ea, j⟩ => ?_)⟩))
  · refine a_name (hF.loc rfl) (s_cons (s_setcomp (by first | exact .inl (swaps_by hF.scope rfl) | exact .inr (swaps_by hF.scope rfl)) (hF.cel rfl) (CompHead.of hF rfl rfl) (fun _ => rfl) (hF.hh hh) hF.st (fun Fc acc it => turn_one ..)
      (e_call <| e_blt (hF.glo rfl) (D.nb rfl) D.range ⟨_, rfl, cw_plain (.type _) <| l_cons <| e_int <| l_nil <| c_range1 ?_⟩)))
    refine w0_gen (xs := nms 4) (fun n => .int n) (fun n => (if eN ps (i + 1) n then some n else none).map V.int) (fun H' => Sat H' ((ea, .list (nums (endsOf 4 (eN ps i)))) :: (ha, .list (nums (hts ps i))) :: B)) (it_rangeN (n := 4) rfl (by decide)) (fun i h => nms4_get h) (fun _ _ => trivial) j.s (fun Fc acc hC n hn ys hy m2 H2 sees s3 J hJ => ?_) fun H2 s3 eb heb => ?_
    · refine a_name (hC.loc rfl) (tests_one <| t_cmp rfl <| e_comp (CompHead.inn hC rfl rfl) (fun _ => rfl) (hC.hh (hF.hh hh)) (hC.st hF.st) (fun Fc acc it => turn_one ..) <| e_name ((sees _ rfl).trans j.m1) ?_)
      refine w0_gen (xs := ps) pr (fun q => (if q.2 == n && (endsOf 4 (eN ps i)).contains q.1 then some q.1 else none).map V.int) (fun H' => Sat H' ((ea, .list (nums (endsOf 4 (eN ps i)))) :: (ha, .list (nums (hts ps i))) :: B)) (by have := it_list (g := g) (l := l) (xs := prs ps); rwa [prs_len] at this) (fun i h => prs_get h) (fun _ x => x.get (.tail _ (.tail _ hm))) s3 (fun Fd acc2 hD q hq zs hzs m3 H3 sees2 s4 J2 hJ2 => ?_) fun H3 s4 b hb => ?_
      · refine a_tuple (hD.hh (hC.hh (hF.hh hh))) rfl (a_name (hD.loc rfl) (a_name (hD.loc rfl) (tests_one ?_)))
        have sees3 := (sees2.set (x := "a") (v := .int q.1) rfl).set (x := "b") (v := .int q.2) rfl
        refine t_and2 (q.2 == n) ((endsOf 4 (eN ps i)).contains q.1) (t_cmp rfl <| e_name rfl <| e_name ((sees3 _ rfl).trans rfl) <| o_eqi <| tr_bool ⟨rfl, rfl, rfl⟩) (t_cmp rfl <| e_name rfl <| e_name ((sees3 _ rfl).trans ((sees _ rfl).trans j.m3)) <| o_in (.own s4.at0) (dat_int _) (dats_ints _) (deps_le _) <| tr_bool ⟨any_ints _ _, rfl, rfl⟩) ?_
        have hJ3 := hJ2 _ _ s4 sees3
        by_cases z : (q.2 == n && (endsOf 4 (eN ps i)).contains q.1) = true
        · rw [if_pos z] at hJ3 ⊢
          exact acc_emit (len_fit (Nat.le_trans hzs (Nat.le_trans hz (by decide)))) (e_name rfl hJ3)
        · rw [if_neg z] at hJ3 ⊢
          rw [show ((none : Option Int).map V.int).toList = [] from rfl, List.append_nil] at hJ3
          exact hJ3
      · rw [nums_filterMap]
        have s5 := s4.new (o := .list (nums (pre2 ps i n))) hb
        refine e_list <| l_nil ⟨by decide, fun a1 ha1 => ?_⟩
        have s6 := s5.new (o := .list []) ha1
        refine o_neE (.own s6.at1) (.own s6.at0) (tr_bool ?_)
        have hJ3 := hJ (setL m2 "name" (.int n)) _ (s6.tail (A := [_, _])) (sees.set rfl)
        have e : (!(nums (pre2 ps i n)).isEmpty) = eN ps (i + 1) n := by rw [← pre2_some]; cases pre2 ps i n <;> rfl
        rw [e]
        by_cases z : eN ps (i + 1) n = true
        · rw [if_pos z] at hJ3 ⊢
          exact acc_emit (len_fit (Nat.le_trans hy (by decide))) (e_name rfl hJ3)
        · rw [if_neg z] at hJ3 ⊢
          rw [show ((none : Option Int).map V.int).toList = [] from rfl, List.append_nil] at hJ3
          exact hJ3
    · rw [nums_filterMap, filterMap_if] at *
      have s4 : Sat (put H2 eb (.list (nums (endsOf 4 (eN ps (i + 1)))))) ((eb, .list (nums (endsOf 4 (eN ps (i + 1))))) :: (ha, .list (nums (htsW ps i 0))) :: B) := by
        rw [htsW_zero]; exact (s3.tail (A := [_])).new heb
      refine s_cons (s_for (fun _ => rfl) (e_name rfl (for_any (it_nums (l := eb) (ns := endsOf 4 (eN ps (i + 1)))) (fun k m3 H3 => m3 "steps" = some (.ref l) ∧ m3 "heights" = some (.ref ha) ∧ m3 "ends" = some (.ref eb) ∧ m3 "count" = some (.int (1 + (i : Int))) ∧ Sat H3 ((eb, .list (nums (endsOf 4 (eN ps (i + 1))))) :: (ha, .list (nums (htsW ps i k))) :: B))
        (hF.hh hh) hF.st (fun _ _ _ x => x.2.2.2.2.at0) ⟨by exact j.m1, by exact j.m2, rfl, rfl, s4⟩ (fun k m3 H3 hk ⟨m1, m2, m3', m4, s5⟩ => ?_) (fun m3 H3 ⟨m1, m2, m3', m4, s5⟩ => ?_))))
      · rw [nums_get hk]
        have hn := (mem_nms.mp (mem_ends.mp (List.getElem_mem hk)).1)
        have hlen : (nums (htsW ps i k)).length = 4 := by rw [ints_length]; unfold htsW; rw [List.length_map, nms_len]
        refine a_name (hF.loc rfl) (s_cons (s_assign1 rfl rfl rfl (e_name (by exact m4) <| a_sub <| e_name (by exact m2) <| e_name rfl <| o_setitem s5.at1 hn.1 (by rw [hlen]; exact hn.2) (by rw [hlen]; decide) <| s_nil ⟨by exact m1, by exact m2, by exact m3', by exact m4, ?_⟩)))
        have s6 := s5.set1 (.list ((nums (htsW ps i k)).set ((endsOf 4 (eN ps (i + 1)))[k]).toNat (.int (1 + (i : Int)))))
        rw [setI, show (1 + (i : Int)) = ((i + 1 : Nat) : Int) by omega, htsW_succ hk] at s6
        rw [setI, show (1 + (i : Int)) = ((i + 1 : Nat) : Int) by omega, htsW_succ hk]
        exact s6
      · rw [htsW_all] at s5
        exact s_nil (s_nil ⟨eb, m1, m2, m3', s5⟩)
  · exact s_nil (s_cons (s_ret (e_name j.m2 (h ha H' (j.s.tail (A := [_]))))))
end
end Mine
end
section
open PySem PySem.W PySem.Calls PyProof.Rows PySem.SeqAt
set_option linter.unusedVariables false
set_option maxRecDepth 100000
namespace Mine
section
variable {g : G} {F : Fm} {m : Loc} {H : AH} {X : Value → List V → Loc → AH → Prop} {Q : V → Loc → AH → Prop} {σ : Srt} {B : List (Addr × O)}
theorem WCode.post {f : Value} {xs : List V} {Q Q' : V → Loc → AH → Prop} (h : WCode g F f xs m H Q X) (hq : ∀ b m' H', Q b m' H' → Q' b m' H') : WCode g F f xs m H Q' X := fun s vs S r => codeAny_mono (h s vs S r) fun r' s' q => by
  rcases r' with e | (v | _ | _ | _)
  · exact q
  all_goals first
    | exact q.elim
    | (obtain ⟨bb, mm, HH, r1, S1, K1, z⟩ := q
       exact ⟨bb, mm, HH, r1, S1, K1, hq _ _ _ z⟩)
theorem law_told2_spec (D : Gd g) (hl : F.lvl < 60) (hh : F.A.handled = none) {l : Addr} {ps : List (Int × Int)} (hps : ps.length ≤ 20) (hm : (l, O.list (prs ps)) ∈ B) (s : Sat H B)
    (h : ∀ (σ : Srt) (H' : AH), σ.abs = told 4 ps → Sat H' (σ.lay ++ B) → Q (.ref σ.x) m H') : WCode g F (.ref 160) [.ref l] m H Q X := by
  have M := m_add g.w.params
  rw [← D.K] at M
  refine d_code (D.lk rfl) (D.cd rfl) rfl rfl rfl rfl rfl rfl rfl (lv100 hl rfl) (binds_peek (fun vs => [("steps", vs.getD 0 .none)]) (fun vs S hv => ?_) (fun h vs r => ?_)) (bs := [("steps", .ref l)]) rfl fun F' hF => ?_
  · match vs, hv with | [v], _ => rw [D.K]; rfl
  · obtain ⟨v, r', rfl, rv, rr⟩ := r.uncons; exact ⟨v, [], rfl, rv, rfl⟩
  refine s_cons (s_assign (hF.loc rfl) rfl (e_call <| e_glob (hF.glo rfl) (D.nb rfl) (fun _ => .cst' _) ⟨_, rfl, cw_plain (D.kp rfl) <| l_nil <| WCode.call <| new_srt_spec D (hF.lv hl rfl) s fun σ0 H0 e0 s0 => ?_⟩))
  refine s_cons (s_for (fun _ => rfl) (e_call <| e_blt (hF.glo rfl) (D.nb rfl) D.range ⟨_, rfl, cw_plain (.type _) <| l_cons <| e_int <| l_nil <| c_range1 <| for_any (it_rangeN (n := 4) rfl (by decide)) (fun i m' H' => ∃ σi : Srt, σi.abs = told0 i ∧ Sat H' (σi.lay ++ B) ∧ m' "sorter" = some (.ref σi.x) ∧ m' "steps" = some (.ref l))
    (hF.hh hh) hF.st (fun _ _ _ _ => trivial) ⟨σ0, e0, s0, rfl, rfl⟩ (fun i m' H' hi ⟨σi, ei, si, m1, m2⟩ => ?_) (fun m' H' ⟨σi, ei, si, m1, m2⟩ => ?_)⟩))
  · obtain ⟨k1, k2, k3⟩ := told0_ok i
    rw [← ei] at k1 k2 k3
    have i5 : i ≤ 500 := Nat.le_trans (Nat.le_of_lt hi) (by decide)
    refine a_name (hF.loc rfl) (s_cons (s_expr <| e_meth <| e_name (by exact m1) ⟨_, meth_inst M (Srt.inst si) (Srt.ns si) rfl, cw_plain (D.kp rfl) <| l_cons <| e_name rfl <| l_nil <| WCode.call ?_⟩))
    refine add_spec (ps := []) D (hF.lv hl rfl) (hF.hh hh) (Nat.zero_le _) si k1 ⟨Nat.le_trans k2.1 i5, fun r hr => Nat.le_trans (k2.2 r hr) i5⟩ ?_
    rw [Srt.rd_none k3]
    exact fun σ' H'' ex ea s' => s_nil ⟨σ', by rw [ea, told0_succ, ei, Int.zero_add], s', by rw [ex]; exact m1, by exact m2⟩
  · have hC : ∀ {σj : Srt} {H'' : AH}, Sat H'' (σj.lay ++ B) → H'' l = some (.list (prs ps)) := fun sj => sj.get (List.mem_append_right _ hm)
    refine s_nil (s_cons (s_for (fun _ => rfl) (e_name (by exact m2) (for_any (it_list (l := l) (xs := prs ps)) (fun i m' H' => ∃ σi : Srt, σi.abs = told 4 (ps.take i) ∧ Sat H' (σi.lay ++ B) ∧ m' "sorter" = some (.ref σi.x))
      (hF.hh hh) hF.st (fun _ _ _ ⟨σi, _, si, _⟩ => hC si) ⟨σi, ei, si, m1⟩ (fun i m' H' hi ⟨σi, ei, si, m1⟩ => ?_) (fun m' H' ⟨σi, ei, si, m1⟩ => ?_)))))
    · rw [prs_len] at hi
      rw [prs_get hi]
      obtain ⟨k1, k2, k3⟩ := told_ok 4 (ps.take i)
      rw [← ei] at k1 k2 k3
      have hle : 4 + 3 * (ps.take i).length ≤ 500 := Nat.le_trans (Nat.add_le_add_left (Nat.mul_le_mul_left 3 (Nat.le_trans (List.length_take_le' _ _) hps)) 4) (by decide)
      refine a_tuple (hF.hh hh) rfl (a_name (hF.loc rfl) (a_name (hF.loc rfl) ?_))
      refine s_cons (s_expr <| e_meth <| e_name (by exact m1) ⟨_, meth_inst M (Srt.inst si) (Srt.ns si) rfl, cw_plain (D.kp rfl) <| l_cons <| e_name rfl <| l_cons <| e_name rfl <| l_nil <| WCode.call <| add_spec (ps := [ps[i].1]) D (hF.lv hl rfl) (hF.hh hh) (Nat.le_of_ble_eq_true rfl) si k1 ⟨Nat.le_trans k2.1 hle, fun r hr => Nat.le_trans (k2.2 r hr) hle⟩ ?_⟩)
      rw [Srt.rd_none k3]
      intro σ' H'' ex ea s'
      refine s_nil ⟨σ', ?_, s', by rw [ex]; exact m1⟩
      rw [ea, ei]
      unfold told
      rw [List.take_add_one, List.getElem?_eq_getElem hi, List.foldl_append]; rfl
    · refine s_nil (s_cons (s_ret (e_name (by exact m1) (h σi H' ?_ si))))
      rw [ei, prs_len, List.take_of_length_le (Nat.le_refl _)]
theorem m_prep (p : Params) : MethD (Mine.kx.heap_1 p) 137 "prepare" 92 := ⟨rfl, rfl, rfl⟩
theorem prep2_spec (D : Gd g) (hl : F.lvl < 60) (hh : F.A.handled = none) (s : Sat H (σ.lay ++ B)) (hk : σ.abs.names.Nodup) (hc : CloseR σ.rows) (hw : wt σ.rows (fun _ => false) ≤ 3000) (hrd : σ.rd = none) (hz : σ.rows.length ≤ 1000)
    (h : ∀ (σ' : Srt) (H' : AH), σ'.x = σ.x → σ'.abs = { σ.abs with rd := some (readyOf σ.rows) } → Sat H' (σ'.lay ++ B) → Q .none m H') : WCode g F (.ref 167) [.ref σ.x] m H Q X := by
  have M := m_prep g.w.params
  rw [← D.K] at M
  refine d_code (D.lk rfl) (D.cd rfl) rfl rfl rfl rfl rfl rfl rfl (lv100 hl rfl) (binds_peek (fun vs => [("sorter", vs.getD 0 .none)]) (fun vs S hv => ?_) (fun h vs r => ?_)) (bs := [("sorter", .ref σ.x)]) rfl fun F' hF => ?_
  · match vs, hv with | [v], _ => rw [D.K]; rfl
  · obtain ⟨v, r', rfl, rv, rr⟩ := r.uncons; exact ⟨v, [], rfl, rv, rfl⟩
  refine s_cons (s_try hF.st (s_cons (s_expr <| e_meth <| e_name rfl ⟨_, meth_inst M (Srt.inst s) (Srt.ns s) rfl, cw_plain (D.kp rfl) <| l_nil <| WCode.call <| prepare_spec D (hF.lv hl rfl) (hF.hh hh) s hk hc hw hrd hz fun σ' H' ex ea s' => ⟨?_, fun as => ?_⟩⟩)))
  · exact s_nil (s_nil (s_nil (h σ' H' ex ea s')))
  · exact h_take (spec_glob (hF.glo rfl) (D.nb rfl)) (cyc_cyc D) fun e => s_cons (s_pass (s_nil (s_nil (h σ' H' ex ea s'))))
def actB (σ : Srt) : Bool := decide (σ.nf < σ.po) || !((σ.rd.map (·.2)).getD []).isEmpty
def Act (σ : Srt) (m : Loc) (H : AH) (Q : V → Loc → AH → Prop) (X : Value → List V → Loc → AH → Prop) : Prop :=
  (σ.rd = none → X (.type "ValueError") [.str "prepare() must be called first"] m H) ∧ ∀ a ns, σ.rd = some (a, ns) → ns.length < 1000 ∧ Q (.bool (actB σ)) m H
theorem Act.is (h : Act σ m H Q X) : match σ.rd with | none => X (.type "ValueError") [.str "prepare() must be called first"] m H | some (a, ns) => ns.length < 1000 ∧ Q (.bool (decide (σ.nf < σ.po) || !ns.isEmpty)) m H := by
  obtain ⟨h1, h2⟩ := h
  unfold actB at h2
  cases q : σ.rd with
  | none => exact h1 q
  | some p => obtain ⟨a, ns⟩ := p; have := h2 a ns q; rw [q] at this; exact this
theorem bool_spec (D : Gd g) (hl : F.lvl < 80) (hh : F.A.handled = none) (s : Sat H (σ.lay ++ B)) (h : Act σ m H Q X) : WCode g F (.ref 113) [.ref σ.x] m H Q X := by
  have M := m_act g.w.params
  rw [← D.K] at M
  refine d_code (D.lk rfl) (D.cd rfl) rfl rfl rfl rfl rfl rfl rfl (lv100 hl rfl) (binds_peek (fun vs => [("self", vs.getD 0 .none)]) (fun vs S hv => ?_) (fun h vs r => ?_)) (bs := [("self", .ref σ.x)]) rfl fun F' hF => ?_
  · match vs, hv with | [v], _ => rw [D.K]; rfl
  · obtain ⟨v, r', rfl, rv, rr⟩ := r.uncons; exact ⟨v, [], rfl, rv, rfl⟩
  exact s_cons (s_ret <| e_meth <| e_name rfl ⟨_, meth_inst M (Srt.inst s) (Srt.ns s) rfl, cw_plain (D.kp rfl) <| l_nil <| WCode.call <| is_active_spec D (hF.lv hl rfl) (hF.hh hh) s (Act.is h)⟩)
theorem true_spec (D : Gd g) (hl : F.lvl < 60) (hh : F.A.handled = none) (s : Sat H (σ.lay ++ B)) {w : Int} (h : ∀ H', Sat H' (σ.lay ++ B) → Act σ m H' Q X) : WCode g F (.ref 172) [.ref σ.x, .int w] m H Q X := by
  have b1 : findIn g.K (.ref 137) "__bool__" = some (some (.ref 113)) := by rw [D.K]; rfl
  have b2 : isFn g.K (.ref 113) = true := by rw [D.K]; rfl
  refine d_code (D.lk rfl) (D.cd rfl) rfl rfl rfl rfl rfl rfl rfl (lv100 hl rfl) (binds_peek (fun vs => [("sorter", vs.getD 0 .none), ("way", vs.getD 1 .none)]) (fun vs S hv => ?_) (fun h vs r => ?_)) (bs := [("sorter", .ref σ.x), ("way", .int w)]) rfl fun F' hF => ?_
  · match vs, hv with | [v, u], _ => rw [D.K]; rfl
  · obtain ⟨v, r', rfl, rv, rr⟩ := r.uncons; obtain ⟨u, r', rfl, ru, rr⟩ := rr.uncons; exact ⟨v, _, rfl, rv, u, [], rfl, ru, rfl⟩
  have h0 := h H s
  refine s_cons (s_if <| t_cmp rfl <| e_name rfl <| e_int <| o_eqi <| tr_bool ?_)
  by_cases q : (w == 0) = true
  · rw [if_pos q]
    refine s_cons (s_ret <| e_call <| e_blt (hF.glo rfl) (D.nb rfl) D.bool ⟨_, rfl, cw_plain (.type _) <| l_cons <| e_name rfl <| l_nil <| c_boolI (hF.lv hl rfl) b1 b2 (Srt.inst s) (Srt.ns s) fun A hA => bool_spec D ?_ (hA.trans (hF.hh hh)) s ⟨fun z => h0.1 z, fun a ns z => ⟨(h0.2 a ns z).1, _, rfl, (h0.2 a ns z).2⟩⟩⟩)
    show F'.lvl + 1 < 80
    exact Nat.lt_of_lt_of_le (Nat.succ_lt_succ (hF.lv hl (b := 61) rfl)) (by decide)
  rw [if_neg q]
  refine s_nil (s_cons (s_if <| t_cmp rfl <| e_name rfl <| e_int <| o_eqi <| tr_bool ?_))
  by_cases q : (w == 1) = true
  · rw [if_pos q]
    exact s_cons (s_ret <| e_un <| e_un <| e_name rfl <| o_not <| tr_inst b1 b2 (Srt.inst s) (Srt.ns s) <| bool_spec D (hF.lv hl rfl) (hF.hh hh) s ⟨fun z => h0.1 z, fun a ns z => ⟨(h0.2 a ns z).1, _, rfl, o_not <| tr_bool (by rw [Bool.not_not]; exact (h0.2 a ns z).2)⟩⟩)
  rw [if_neg q]
  refine s_nil (s_cons (s_ret <| e_cmp rfl <| e_comp (CompHead.of hF rfl rfl) (fun _ => rfl) (hF.hh hh) hF.st (fun Fc acc it => turn_one ..) <| e_list <| l_cons <| e_name rfl <| l_nil ⟨by simp [sizeLine_eq], fun a0 ha0 => ?_⟩))
  refine ⟨1, _, _, fun i ys m' H' => Sat H' ((a0, .list [.ref σ.x]) :: (σ.lay ++ B)) ∧ (i = 0 → ys = []) ∧ (0 < i → σ.rd ≠ none ∧ ys = if actB σ then [.ref σ.x] else []), it_list, fun i ys m' H' x => x.1.at0, ⟨s.new ha0, fun _ => rfl, fun z => absurd z (Nat.lt_irrefl _)⟩, fun Fc acc hC i ys m2 H2 hi ⟨s2, e0, _⟩ => ?_, fun ys m2 H2 ⟨s2, _, e1⟩ b hb => ?_⟩
  · obtain rfl : i = 0 := Nat.lt_one_iff.mp hi
    obtain rfl := e0 rfl
    have s3 : Sat H2 (σ.lay ++ B) := s2.tail (A := [_])
    have h2 := h H2 s3
    refine a_name (hC.loc rfl) (tests_one <| t_val <| e_name rfl <| tr_inst b1 b2 (Srt.inst s3) (Srt.ns s3) <| bool_spec D (hC.lv (hF.lv hl rfl)) (hC.hh (hF.hh hh)) s3 ⟨fun z => h2.1 z, fun a ns z => ⟨(h2.2 a ns z).1, _, rfl, ?_⟩⟩)
    have ne : σ.rd ≠ none := by rw [z]; exact nofun
    by_cases q : actB σ = true
    · rw [if_pos q]
      exact acc_emit (by decide) (e_name rfl ⟨s2, nofun, fun _ => ⟨ne, by rw [if_pos q]; rfl⟩⟩)
    · rw [if_neg q]
      exact ⟨s2, nofun, fun _ => ⟨ne, by rw [if_neg q]⟩⟩
  · obtain ⟨ne, rfl⟩ := e1 Nat.one_pos
    obtain ⟨⟨a, ns⟩, hrd⟩ := Option.ne_none_iff_exists'.mp ne
    refine e_list <| l_nil ⟨by decide, fun a1 ha1 => ?_⟩
    have s4 := (s2.new (o := .list (if actB σ then [.ref σ.x] else [])) hb).new (o := .list []) ha1
    have h4 := ((h _ (s4.tail (A := [_, _, _]))).2 a ns hrd).2
    refine o_neE (.own s4.at1) (.own s4.at0) ?_
    have e : (!(if actB σ then [V.ref σ.x] else []).isEmpty) = actB σ := by cases actB σ <;> rfl
    rw [e]
    exact h4
end
end Mine
end
section
set_option linter.unusedVariables false
namespace Mine
section
variable {ps : List (Int × Int)}
theorem eN_succ (hps : ∀ q ∈ ps, q.1 ∈ nms 4 ∧ q.2 ∈ nms 4) (c : Nat) (n : Int) : eN ps (c + 1) n = true ↔ ∃ q ∈ ps, q.2 = n ∧ eN ps c q.1 = true := by
  show (ps.any fun q => q.2 == n && (endsOf 4 (eN ps c)).contains q.1) = true ↔ _
  rw [List.any_eq_true]
  constructor
  · rintro ⟨q, hq, h⟩
    rw [Bool.and_eq_true, beq_iff_eq, List.contains_iff_mem, mem_ends] at h
    exact ⟨q, hq, h.1, h.2.2⟩
  · rintro ⟨q, hq, h1, h2⟩
    refine ⟨q, hq, ?_⟩
    rw [Bool.and_eq_true, beq_iff_eq, List.contains_iff_mem, mem_ends]
    exact ⟨h1, (hps q hq).1, h2⟩
theorem eN_dec (hps : ∀ q ∈ ps, q.1 ∈ nms 4 ∧ q.2 ∈ nms 4) : ∀ (c : Nat) (n : Int), eN ps (c + 1) n = true → eN ps c n = true
  | 0, _, _ => rfl
  | c + 1, n, h => by
    obtain ⟨q, hq, h1, h2⟩ := (eN_succ hps (c + 1) n).mp h
    exact (eN_succ hps c n).mpr ⟨q, hq, h1, eN_dec hps c _ h2⟩
theorem eN_closed (hps : ∀ q ∈ ps, q.1 ∈ nms 4 ∧ q.2 ∈ nms 4) (c : Nat) : closedE (eN ps c) ps := fun q hq h => eN_dec hps c _ ((eN_succ hps c _).mpr ⟨q, hq, rfl, h⟩)
theorem free_eN (hps : ∀ q ∈ ps, q.1 ∈ nms 4 ∧ q.2 ∈ nms 4) (c : Nat) : free 4 (eN ps c) ps = (nms 4).filter fun n => eN ps c n && !eN ps (c + 1) n := by
  unfold free
  refine List.filter_congr fun n hn => ?_
  congr 1
  rw [Bool.eq_iff_iff, beq_iff_eq, cntE_zero, secs_mem, Bool.not_eq_true', ← Bool.not_eq_true, eN_succ hps]
  exact not_congr ⟨fun ⟨q, a, b, d⟩ => ⟨q, a, d, b⟩, fun ⟨q, a, b, d⟩ => ⟨q, a, d, b⟩⟩
def grp (ps : List (Int × Int)) (h : Int) : List Int := (nms 4).filter fun n => hgt ps 4 n == h
def hB (b1 b2 b3 b4 : Bool) : Int := if b4 then 4 else if b3 then 3 else if b2 then 2 else if b1 then 1 else 0
theorem hB_is : ∀ b1 b2 b3 b4 : Bool, (b2 = true → b1 = true) → (b3 = true → b2 = true) → (b4 = true → b3 = true) →
    (hB b1 b2 b3 b4 == 0) = !b1 ∧ (hB b1 b2 b3 b4 == 1) = (b1 && !b2) ∧ (hB b1 b2 b3 b4 == 2) = (b2 && !b3) ∧ (hB b1 b2 b3 b4 == 3) = (b3 && !b4) := by decide
theorem hB_fin : ∀ b1 b2 b3 b4 : Bool, ∃ k : Fin 5, hB b1 b2 b3 b4 = (k.val : Int) := by decide
theorem hgt_B (n : Int) : hgt ps 4 n = hB (eN ps 1 n) (eN ps 2 n) (eN ps 3 n) (eN ps 4 n) := rfl
theorem hgt4 (hps : ∀ q ∈ ps, q.1 ∈ nms 4 ∧ q.2 ∈ nms 4) (n : Int) {c : Nat} (hc : c < 4) : (hgt ps 4 n == (c : Int)) = (eN ps c n && !eN ps (c + 1) n) := by
  obtain ⟨h0, h1, h2, h3⟩ := hB_is _ _ _ _ (eN_dec hps 1 n) (eN_dec hps 2 n) (eN_dec hps 3 n)
  rw [hgt_B]
  match c, hc with
  | 0, _ => exact h0
  | 1, _ => exact h1
  | 2, _ => exact h2
  | 3, _ => exact h3
theorem grp_free (hps : ∀ q ∈ ps, q.1 ∈ nms 4 ∧ q.2 ∈ nms 4) {c : Nat} (hc : c < 4) : grp ps c = free 4 (eN ps c) ps := by
  rw [free_eN hps]
  exact List.filter_congr fun n _ => hgt4 hps n hc
def Still (ps : List (Int × Int)) (c : Nat) : Prop := ∀ n ∈ nms 4, eN ps (c + 1) n = eN ps c n
theorem Still.next (hps : ∀ q ∈ ps, q.1 ∈ nms 4 ∧ q.2 ∈ nms 4) {c : Nat} (h : Still ps c) : Still ps (c + 1) := fun n hn => by
  rw [Bool.eq_iff_iff, eN_succ hps, eN_succ hps]
  exact ⟨fun ⟨q, a, b, d⟩ => ⟨q, a, b, by rw [← h _ (hps q a).1]; exact d⟩, fun ⟨q, a, b, d⟩ => ⟨q, a, b, by rw [h _ (hps q a).1]; exact d⟩⟩
theorem Still.on (hps : ∀ q ∈ ps, q.1 ∈ nms 4 ∧ q.2 ∈ nms 4) {c : Nat} (h : Still ps c) : ∀ k, Still ps (c + k)
  | 0 => h
  | k + 1 => (Still.on hps h k).next hps
theorem still_free (hps : ∀ q ∈ ps, q.1 ∈ nms 4 ∧ q.2 ∈ nms 4) {c : Nat} : free 4 (eN ps c) ps = [] ↔ Still ps c := by
  rw [free_eN hps, List.filter_eq_nil_iff]
  constructor
  · intro h n hn
    have := h n hn
    cases q : eN ps c n with
    | false =>
      cases r : eN ps (c + 1) n with
      | false => rfl
      | true => rw [eN_dec hps c n r] at q; cases q
    | true => rw [q] at this; simpa using this
  · intro h n hn
    rw [h n hn]
    simp
theorem ends_next2 (hps : ∀ q ∈ ps, q.1 ∈ nms 4 ∧ q.2 ∈ nms 4) (c : Nat) : endsOf 4 (eN ps (c + 1)) = (endsOf 4 (eN ps c)).filter (eN ps (c + 1)) := by
  unfold endsOf
  rw [List.filter_filter]
  refine List.filter_congr fun n _ => ?_
  cases q : eN ps (c + 1) n with
  | false => rfl
  | true => rw [eN_dec hps c n q]; rfl
theorem falls (hps : ∀ q ∈ ps, q.1 ∈ nms 4 ∧ q.2 ∈ nms 4) : ∀ c, (endsOf 4 (eN ps c)).length + c ≤ 4 ∨ Still ps c
  | 0 => .inl (ends_len 4 _)
  | c + 1 => by
    rcases falls hps c with h | h
    · have sub : (endsOf 4 (eN ps (c + 1))).Sublist (endsOf 4 (eN ps c)) := by rw [ends_next2 hps]; exact List.filter_sublist
      by_cases q : (endsOf 4 (eN ps (c + 1))).length = (endsOf 4 (eN ps c)).length
      · refine .inr (Still.next hps fun n hn => ?_)
        have e := sub.eq_of_length q
        have m1 : n ∈ endsOf 4 (eN ps (c + 1)) ↔ n ∈ endsOf 4 (eN ps c) := by rw [e]
        rw [mem_ends, mem_ends] at m1
        rw [Bool.eq_iff_iff]
        exact ⟨fun x => (m1.mp ⟨hn, x⟩).2, fun x => (m1.mpr ⟨hn, x⟩).2⟩
      · have := sub.length_le
        exact .inl (by omega)
    · exact .inr (h.next hps)
theorem still4 (hps : ∀ q ∈ ps, q.1 ∈ nms 4 ∧ q.2 ∈ nms 4) : Still ps 4 := by
  rcases falls hps 4 with h | h
  · intro n hn
    have e : endsOf 4 (eN ps 4) = [] := List.eq_nil_of_length_eq_zero (by omega)
    have : ¬ eN ps 4 n = true := fun q => by have := mem_ends.mpr ⟨hn, q⟩; rw [e] at this; cases this
    cases r : eN ps 5 n with
    | false => exact (Bool.eq_false_iff.mpr this).symm
    | true => exact absurd (eN_dec hps 4 n r) this
  · exact h
def gv (ps : List (Int × Int)) (h : Nat) : Nat := (grp ps h).length + (if (grp ps h).isEmpty then 0 else 1)
def tv (ps : List (Int × Int)) : Nat → Nat
  | 0 => gv ps 0 + (gv ps 1 + (gv ps 2 + gv ps 3))
  | 1 => gv ps 1 + (gv ps 2 + gv ps 3)
  | 2 => gv ps 2 + gv ps 3
  | 3 => gv ps 3
  | _ => 0
theorem tv_step {c : Nat} (hc : c < 4) : tv ps c = gv ps c + tv ps (c + 1) := by
  match c, hc with
  | 0, _ => rfl
  | 1, _ => rfl
  | 2, _ => rfl
  | 3, _ => rfl
theorem gv_nil {h : Nat} (e : grp ps h = []) : gv ps h = 0 := by unfold gv; rw [e]; rfl
theorem tv_nil (hps : ∀ q ∈ ps, q.1 ∈ nms 4 ∧ q.2 ∈ nms 4) {c : Nat} (hc : c ≤ 4) (h : Still ps c) : tv ps c = 0 := by
  have g : ∀ k, c + k < 4 → gv ps (c + k) = 0 := fun k hk => gv_nil (by rw [grp_free hps hk]; exact (still_free hps).mpr (h.on hps k))
  match c, hc with
  | 0, _ => rw [tv, g 0 (by omega), g 1 (by omega), g 2 (by omega), g 3 (by omega)]
  | 1, _ => rw [tv, g 0 (by omega), g 1 (by omega), g 2 (by omega)]
  | 2, _ => rw [tv, g 0 (by omega), g 1 (by omega)]
  | 3, _ => rw [tv, g 0 (by omega)]
  | 4, _ => rfl
def visD (l : List Int) : Nat := (([0, 1, 2, 3] : List Int).filter fun h => l.contains h).length + (l.filter fun h => decide (h < 4)).length + 1
def gvD (l : List Int) (h : Int) : Nat := (l.filter fun x => x == h).length + (if (l.filter fun x => x == h).isEmpty then 0 else 1)
theorem vis_dec : ∀ a b c d : Fin 5, visD [(a.val : Int), (b.val : Int), (c.val : Int), (d.val : Int)] = 1 + (gvD [(a.val : Int), (b.val : Int), (c.val : Int), (d.val : Int)] 0 + (gvD [(a.val : Int), (b.val : Int), (c.val : Int), (d.val : Int)] 1 + (gvD [(a.val : Int), (b.val : Int), (c.val : Int), (d.val : Int)] 2 + gvD [(a.val : Int), (b.val : Int), (c.val : Int), (d.val : Int)] 3))) ∧ visD [(a.val : Int), (b.val : Int), (c.val : Int), (d.val : Int)] ≤ 9 := by decide +kernel
theorem gvD_is (h : Nat) : gvD (hts ps 4) (h : Int) = gv ps h := by
  unfold gvD gv grp hts
  rw [List.filter_map, List.length_map]
  have : (List.map (hgt ps 4) (List.filter ((fun x => x == (h : Int)) ∘ hgt ps 4) (nms 4))).isEmpty = (List.filter (fun n => hgt ps 4 n == (h : Int)) (nms 4)).isEmpty := by rw [List.isEmpty_map]; rfl
  rw [this]; rfl
theorem vis_is (ps : List (Int × Int)) : visD (hts ps 4) = 1 + tv ps 0 ∧ visD (hts ps 4) ≤ 9 := by
  have f : ∀ n, ∃ k : Fin 5, hgt ps 4 n = (k.val : Int) := fun n => hB_fin ..
  obtain ⟨a, ha⟩ := f 0
  obtain ⟨b, hb⟩ := f 1
  obtain ⟨c, hc⟩ := f 2
  obtain ⟨d, hd⟩ := f 3
  have e : hts ps 4 = [(a.val : Int), (b.val : Int), (c.val : Int), (d.val : Int)] := by
    show [hgt ps 4 0, hgt ps 4 1, hgt ps 4 2, hgt ps 4 3] = _
    rw [ha, hb, hc, hd]
  obtain ⟨h1, h2⟩ := vis_dec a b c d
  rw [← e] at h1 h2
  refine ⟨h1.trans ?_, h2⟩
  show _ = 1 + (gv ps 0 + (gv ps 1 + (gv ps 2 + gv ps 3)))
  rw [← gvD_is 0, ← gvD_is 1, ← gvD_is 2, ← gvD_is 3]; rfl
end
end Mine
end
section
set_option linter.unusedVariables false
namespace Mine
theorem Inv.rd {z : Nat} {ps : List (Int × Int)} {e : Int → Bool} {W R : List Int} {P : PS} (I : Inv z ps e W R P) : P.rd = some R := by rw [I.eq]; rfl
theorem Inv.len {z : Nat} {ps : List (Int × Int)} {e : Int → Bool} {W R : List Int} {P : PS} (I : Inv z ps e W R P) : W.length + R.length ≤ z := by
  have h1 := I.perm.length_eq
  rw [List.length_append] at h1
  rw [h1]
  exact free_len z e ps
theorem Inv.names {z : Nat} {ps : List (Int × Int)} {e : Int → Bool} {W R : List Int} {P : PS} (I : Inv z ps e W R P) : P.names = nms z := by rw [I.eq, stP_names]
theorem Inv.inR {z : Nat} {ps : List (Int × Int)} {e : Int → Bool} {W R : List Int} {P : PS} (I : Inv z ps e W R P) : ∀ n ∈ R, n ∈ P.names := fun n hn => by
  rw [I.names]
  exact (mem_free.mp (I.perm.mem_iff.mp (List.mem_append_right _ hn))).1
theorem free_congr {z : Nat} {ps : List (Int × Int)} {e e' : Int → Bool} (hps : ∀ q ∈ ps, q.1 ∈ nms z ∧ q.2 ∈ nms z) (h : ∀ n ∈ nms z, e n = e' n) : free z e ps = free z e' ps := by
  unfold free
  refine List.filter_congr fun n hn => ?_
  have : cntE e ps n = cntE e' ps n := by
    unfold cntE
    rw [List.filter_congr fun q hq => by rw [h _ (hps q hq).1]]
  rw [h n hn, this]
structure StgI (ps : List (Int × Int)) (γ : Nat) (W R : List Int) (e : Int → Bool) (P : PS) : Prop where
  I : Inv 4 ps e W R P
  c : closedE e ps
  is : ∀ n ∈ nms 4, e n = (eN ps γ n || W.contains n)
structure Stg (ps : List (Int × Int)) (γ : Nat) (W : List Int) (P : PS) : Prop where
  hγ : γ ≤ 4
  nd : W.Nodup
  wE : ∀ n ∈ W, eN ps γ n = false
  ex : ∃ e R, StgI ps γ W R e P
section
variable {ps : List (Int × Int)} {γ : Nat} {W R : List Int} {P : PS}
theorem stg_start {rows : List Row} (h : ∀ q ∈ ps, q.1 ∈ nms 4 ∧ q.2 ∈ nms 4) (hr : rows.map Row.abs = (told 4 ps).rows) : Stg ps 0 [] { told 4 ps with rd := some (readyOf rows) } :=
  ⟨by omega, List.nodup_nil, fun _ h => (nomatch h), allE, _, start_inv h hr, closed_all ps, fun n _ => rfl⟩
theorem stg_free (hps : ∀ q ∈ ps, q.1 ∈ nms 4 ∧ q.2 ∈ nms 4) {e : Int → Bool} (x : StgI ps γ [] R e P) : free 4 e ps = free 4 (eN ps γ) ps := free_congr hps fun n hn => by rw [x.is n hn]; simp
theorem stg_off (hps : ∀ q ∈ ps, q.1 ∈ nms 4 ∧ q.2 ∈ nms 4) (S : Stg ps γ W P) {e : Int → Bool} (x : StgI ps γ W R e P) (h : (!(free 4 e ps).isEmpty) = false) : W = [] ∧ tv ps γ = 0 := by
  have hf : free 4 e ps = [] := by cases q : free 4 e ps with | nil => rfl | cons a l => rw [q] at h; cases h
  have hW : W = [] := by
    have := x.I.perm.length_eq
    rw [hf, List.length_append] at this
    exact List.eq_nil_of_length_eq_zero (Nat.eq_zero_of_add_eq_zero_right this)
  subst hW
  rw [stg_free hps x] at hf
  exact ⟨rfl, tv_nil hps S.hγ ((still_free hps).mp hf)⟩
theorem stg_get (hps : ∀ q ∈ ps, q.1 ∈ nms 4 ∧ q.2 ∈ nms 4) (S : Stg ps γ [] P) {e : Int → Bool} (x : StgI ps γ [] R e P) (h : (!(free 4 e ps).isEmpty) = true) :
    Stg ps (γ + 1) R { P.out R with rd := some [], po := P.po + R.length } ∧ R.Perm (grp ps γ) ∧ tv ps γ = R.length + 1 + tv ps (γ + 1) := by
  have hp : R.Perm (free 4 (eN ps γ) ps) := by have := x.I.perm; rw [stg_free hps x] at this; exact this
  rw [stg_free hps x] at h
  have h4 : γ < 4 := by
    rcases Nat.lt_or_eq_of_le S.hγ with q | q
    · exact q
    · subst q; rw [(still_free hps).mpr (still4 hps)] at h; cases h
  have hg := grp_free hps h4
  rw [← hg] at hp h
  have mem : ∀ n, n ∈ R ↔ n ∈ nms 4 ∧ eN ps γ n = true ∧ eN ps (γ + 1) n = false := fun n => by
    rw [hp.mem_iff, hg, free_eN hps, List.mem_filter, Bool.and_eq_true, Bool.not_eq_true']
  refine ⟨⟨h4, hp.nodup_iff.mpr ((nms_nodup 4).filter _), fun n hn => ((mem n).mp hn).2.2, e, [], by have := out_inv x.I; rwa [List.nil_append] at this, x.c, fun n hn => ?_⟩, hp, ?_⟩
  · rw [x.is n hn, show ([] : List Int).contains n = false from rfl, Bool.or_false]
    cases q : eN ps (γ + 1) n with
    | true => exact eN_dec hps γ n q
    | false =>
      rw [Bool.false_or, Bool.eq_iff_iff, List.contains_iff_mem, mem]
      exact ⟨fun z => ⟨hn, z, q⟩, fun z => z.2.1⟩
  · rw [tv_step h4]
    unfold gv
    rw [hp.length_eq]
    have : (grp ps (γ : Int)).isEmpty = false := by cases z : (grp ps (γ : Int)).isEmpty with | false => rfl | true => rw [z] at h; cases h
    rw [if_neg (by rw [this]; decide)]
theorem stg_done {n : Int} (hps : ∀ q ∈ ps, q.1 ∈ nms 4 ∧ q.2 ∈ nms 4) (S : Stg ps γ (n :: W) P) : P.doneOk [n] ∧ Stg ps γ W (P.done1 n) := by
  obtain ⟨e, R, x⟩ := S.ex
  obtain ⟨h1, h2, R', h3⟩ := done1_inv hps x.I (.head _) x.c
  obtain ⟨n1, n2⟩ := List.nodup_cons.mp S.nd
  have ef : (n :: W).filter (fun k => !([n] : List Int).contains k) = W := by
    rw [List.filter_cons]
    simp only [List.contains_cons, beq_self_eq_true, Bool.true_or, Bool.not_true, Bool.false_eq_true, if_false]
    rw [List.filter_eq_self]
    intro k hk
    have : k ≠ n := fun q => n1 (q ▸ hk)
    simp [this]
  rw [ef] at h3
  refine ⟨⟨h1, trivial⟩, S.hγ, n2, fun k hk => S.wE k (.tail _ hk), wo e [n], R', h3, h2, fun k hk => ?_⟩
  unfold wo
  rw [x.is k hk]
  by_cases q : k = n
  · subst q
    have := S.wE k (.head _)
    rw [this]
    simp [n1]
  · simp [q]
end
end Mine
end
section
set_option linter.unusedVariables false
namespace Mine
def bump (n : Nat → Nat) (k : Nat) : Nat → Nat := fun j => if j = k then n k + 1 else n j
def tot (z : Nat) (n : Nat → Nat) : Nat := ((List.range z).map n).sum
def due (z : Nat) (v : Nat → Nat) (k : Nat) : Nat := tot z fun j => min (v j) (v k - if k < j then 1 else 0)
theorem tot_succ (z : Nat) (n : Nat → Nat) : tot (z + 1) n = tot z n + n z := by unfold tot; rw [List.range_succ, List.map_append, List.sum_append]; simp
theorem tot_congr {n n' : Nat → Nat} : ∀ {z : Nat}, (∀ j, j < z → n j = n' j) → tot z n = tot z n'
  | 0, _ => rfl
  | z + 1, h => by rw [tot_succ, tot_succ, tot_congr fun j hj => h j (Nat.lt_succ_of_lt hj), h z (Nat.lt_succ_self z)]
theorem tot_le {n n' : Nat → Nat} : ∀ {z : Nat}, (∀ j, j < z → n j ≤ n' j) → tot z n ≤ tot z n'
  | 0, _ => Nat.le_refl _
  | z + 1, h => by rw [tot_succ, tot_succ]; exact Nat.add_le_add (tot_le fun j hj => h j (Nat.lt_succ_of_lt hj)) (h z (Nat.lt_succ_self z))
theorem tot_const (c : Nat) : ∀ z : Nat, tot z (fun _ => c) = z * c
  | 0 => by rw [Nat.zero_mul]; rfl
  | z + 1 => by rw [tot_succ, tot_const c z, Nat.succ_mul]
theorem tot_bump {n : Nat → Nat} {k : Nat} : ∀ {z : Nat}, k < z → tot z (bump n k) = tot z n + 1
  | z + 1, h => by
    rw [tot_succ, tot_succ]
    by_cases q : k = z
    · subst q
      rw [tot_congr (n := bump n k) (n' := n) fun j hj => if_neg (Nat.ne_of_lt hj)]
      show tot k n + (if k = k then n k + 1 else n k) = _
      rw [if_pos rfl]; omega
    · rw [tot_bump (Nat.lt_of_le_of_ne (Nat.le_of_lt_succ h) q)]
      show tot z n + 1 + (if z = k then n k + 1 else n z) = _
      rw [if_neg (Ne.symm q)]; omega
structure Sch (z : Nat) (v n : Nat → Nat) (line : List Nat) : Prop where
  B : ∀ j, j < z → n j ≤ v j
  M : ∀ j, j ∈ line ↔ j < z ∧ n j < v j
  O : line.Pairwise fun i j => n i < n j ∨ (n i = n j ∧ i < j)
  U : ∀ i ∈ line, ∀ j, j < z → n j ≤ n i + 1 ∧ (n j = n i + 1 → j < i)
section
variable {z : Nat} {v n : Nat → Nat} {k : Nat} {rest : List Nat}
theorem Sch.start (h : ∀ j, j < z → 1 ≤ v j) : Sch z v (fun _ => 0) (List.range z) :=
  ⟨fun _ _ => Nat.zero_le _, fun j => by rw [List.mem_range]; exact ⟨fun x => ⟨x, h j x⟩, fun x => x.1⟩, List.pairwise_lt_range.imp fun h => .inr ⟨rfl, h⟩, fun i _ j _ => ⟨by omega, fun e => by omega⟩⟩
theorem Sch.fin (S : Sch z v n []) {j : Nat} (hj : j < z) : n j = v j := by
  have := mt (fun x => (S.M j).mpr ⟨hj, x⟩) (by simp)
  have := S.B j hj
  omega
theorem Sch.pop (S : Sch z v n (k :: rest)) : k < z ∧ n k < v k ∧ Sch z v (bump n k) (rest ++ if n k + 1 < v k then [k] else []) ∧ tot z (bump n k) = tot z n + 1 ∧ (n k + 1 = v k → due z v k = tot z n + 1) := by
  obtain ⟨hk, hn⟩ := (S.M k).mp (.head _)
  obtain ⟨o1, o2⟩ := List.pairwise_cons.mp S.O
  have ub := S.U k (.head _)
  have nk : ∀ i ∈ rest, i ≠ k := fun i hi q => by subst q; have := o1 i hi; omega
  have bk : bump n k k = n k + 1 := if_pos rfl
  have bo : ∀ i, i ≠ k → bump n k i = n i := fun i q => if_neg q
  refine ⟨hk, hn, ⟨fun j hj => ?_, fun j => ?_, ?_, fun i hi j hj => ?_⟩, tot_bump hk, fun e => ?_⟩
  · by_cases q : j = k
    · subst q; rw [bk]; exact hn
    · rw [bo j q]; exact S.B j hj
  · have m := S.M j
    rw [List.mem_cons] at m
    rw [List.mem_append]
    by_cases q : j = k
    · subst q
      rw [bk]
      have : j ∉ rest := fun x => nk j x rfl
      by_cases w : n j + 1 < v j
      · rw [if_pos w]; exact ⟨fun _ => ⟨hk, w⟩, fun _ => .inr (.head _)⟩
      · rw [if_neg w]; exact ⟨fun x => x.elim (fun y => absurd y this) (fun y => (nomatch y)), fun x => absurd x.2 w⟩
    · rw [bo j q]
      have e2 : j ∈ (if n k + 1 < v k then [k] else []) ↔ False := by split <;> simp [q]
      rw [e2, or_false, ← m]
      exact ⟨.inr, fun x => x.resolve_left q⟩
  · refine List.pairwise_append.mpr ⟨?_, by split <;> simp, fun i hi j hj => ?_⟩
    · refine o2.imp_of_mem fun hi hj x => ?_
      rw [bo _ (nk _ hi), bo _ (nk _ hj)]; exact x
    · have : j = k := by split at hj; exact List.mem_singleton.mp hj; cases hj
      subst this
      rw [bo i (nk i hi), bk]
      have := ub i (((S.M i).mp (.tail _ hi)).1)
      omega
  · have hi' : i ∈ rest ∨ i = k := by
      rcases List.mem_append.mp hi with x | x
      · exact .inl x
      · split at x
        · exact .inr (List.mem_singleton.mp x)
        · cases x
    by_cases q : i = k
    · subst q
      rw [bk]
      by_cases w : j = i
      · subst w; rw [bk]; omega
      · rw [bo j w]; have := ub j hj; omega
    · have hr := hi'.resolve_right q
      rw [bo i q]
      by_cases w : j = k
      · subst w; rw [bk]; have := o1 i hr; omega
      · rw [bo j w]; exact S.U i (.tail _ hr) j hj
  · rw [← tot_bump hk]
    refine tot_congr fun j hj => ?_
    by_cases q : j = k
    · subst q; rw [bk, if_neg (Nat.lt_irrefl _)]; omega
    · rw [bo j q]
      have u := ub j hj
      have b := S.B j hj
      by_cases w : j ∈ rest
      · have o := o1 j w
        have m := ((S.M j).mp (.tail _ w)).2
        split <;> omega
      · have : ¬ n j < v j := fun x => by
          rcases List.mem_cons.mp ((S.M j).mpr ⟨hj, x⟩) with y | y
          · exact q y
          · exact w y
        split <;> omega
def lefts (z : Nat) (v n : Nat → Nat) : List Int := (List.range z).map fun j => if n j = v j then (due z v j : Int) else 0
theorem lefts_len : (lefts z v n).length = z := by unfold lefts; simp
theorem lefts_get (h : k < z) : (lefts z v n)[k]? = some (if n k = v k then (due z v k : Int) else 0) := by unfold lefts; rw [List.getElem?_map, List.getElem?_range h]; rfl
theorem lefts_stay (h : n k + 1 < v k) : lefts z v (bump n k) = lefts z v n := by
  unfold lefts
  refine List.map_congr_left fun j _ => ?_
  unfold bump
  by_cases q : j = k
  · subst q; rw [if_pos rfl, if_neg (by omega), if_neg (by omega)]
  · rw [if_neg q]
theorem lefts_go (h : n k + 1 = v k) (hk : k < z) : (lefts z v n).set k (due z v k : Int) = lefts z v (bump n k) := by
  apply List.ext_getElem?
  intro i
  rw [List.getElem?_set, lefts_len]
  by_cases q : k = i
  · subst q
    rw [if_pos rfl, if_pos hk, lefts_get hk]
    unfold bump
    rw [if_pos rfl, if_pos h]
  · rw [if_neg q]
    by_cases w : i < z
    · rw [lefts_get w, lefts_get w]
      unfold bump
      rw [if_neg (Ne.symm q)]
    · rw [List.getElem?_eq_none (by rw [lefts_len]; exact Nat.le_of_not_lt w), List.getElem?_eq_none (by rw [lefts_len]; exact Nat.le_of_not_lt w)]
theorem lefts_end (S : Sch z v n []) : lefts z v n = (List.range z).map fun j => (due z v j : Int) := List.map_congr_left fun j hj => if_pos (S.fin (List.mem_range.mp hj))
theorem lefts_zero (h : ∀ j, j < z → 1 ≤ v j) : lefts z v (fun _ => 0) = List.replicate z 0 := by
  rw [List.eq_replicate_iff]
  refine ⟨lefts_len, fun b hb => ?_⟩
  unfold lefts at hb
  obtain ⟨j, hj, rfl⟩ := List.mem_map.mp hb
  have := h j (List.mem_range.mp hj)
  exact if_neg (show ¬ 0 = v j by omega)
end
end Mine
end
section
open PySem PySem.W PySem.Calls PyProof.Rows PySem.SeqAt
set_option linter.unusedVariables false
set_option maxRecDepth 100000
set_option maxHeartbeats 4000000
namespace Mine
theorem it_rng {g : G} {z : Nat} (hz : z ≤ 5) : Iterable g (.rng 0 (z : Int) 1) (nms z).length (fun i => .int (0 + (i : Int))) (fun _ => True) := by
  rw [nms_len]
  exact it_rangeN rfl (Nat.le_trans hz (by decide))
theorem ref_at {α : Type} (f : α → Addr) {xs : List α} {k : Nat} (h : k < xs.length) : (xs.map fun x => V.ref (f x))[k]? = some (.ref (f xs[k])) := by
  rw [List.getElem?_map, List.getElem?_eq_getElem h]; rfl
def GoodQ (ps : List (Int × Int)) : Prop := ps.length ≤ 20 ∧ ∀ p ∈ ps, p.1 ∈ nms 4 ∧ p.2 ∈ nms 4
theorem ord2_in (c : Int) : (ord2 c).1 ∈ nms 4 ∧ (ord2 c).2 ∈ nms 4 := by
  have h1 : c.fmod 4 ∈ nms 4 := mem_nms.mpr ⟨Int.fmod_nonneg_of_pos _ (by decide), Int.fmod_lt_of_pos _ (by decide)⟩
  have h2 : (c.fdiv 4).fmod 4 ∈ nms 4 := mem_nms.mpr ⟨Int.fmod_nonneg_of_pos _ (by decide), Int.fmod_lt_of_pos _ (by decide)⟩
  unfold ord2
  generalize c.fmod 4 = a at h1
  generalize (c.fdiv 4).fmod 4 = b at h2
  have hmin : min a b ∈ nms 4 := by rcases Int.le_total a b with h | h; rw [Int.min_eq_left h]; exact h1; rw [Int.min_eq_right h]; exact h2
  have hmax : max a b ∈ nms 4 := by rcases Int.le_total a b with h | h; rw [Int.max_eq_right h]; exact h2; rw [Int.max_eq_left h]; exact h1
  split
  · exact ⟨hmin, hmax⟩
  · exact ⟨h1, h2⟩
theorem steps2_good {cs : List Int} (h : cs.length ≤ 20) : GoodQ (steps2 cs) := by
  refine ⟨Nat.le_trans (steps2_len cs) h, fun p hp => ?_⟩
  unfold steps2 at hp
  obtain ⟨c, _, hc⟩ := List.mem_flatMap.mp hp
  unfold step2 at hc
  split at hc
  · rw [List.mem_singleton] at hc; subst hc; exact ord2_in c
  · cases hc
theorem slice_small : ∀ z : Fin 6, ∀ k : Fin 6, 3 ≤ z.val → (sliceRange (sliceBounds (some (k.val : Int)) none (some (z.val : Int)) 12).1 (sliceBounds (some (k.val : Int)) none (some (z.val : Int)) 12).2.1 (sliceBounds (some (k.val : Int)) none (some (z.val : Int)) 12).2.2).length ≤ 20 := by decide +kernel
theorem cut_nums {cs : List Int} {z k : Nat} (hc : cs.length = 12) (hz : 3 ≤ z ∧ z ≤ 5) (hk : k < z) : ∃ ds : List Int, cut (nums cs) (some (k : Int)) none (some (z : Int)) = nums ds ∧ ds.length ≤ 20 := by
  have hl : (nums cs).length = 12 := by rw [ints_length, hc]
  have h := slice_small ⟨z, by omega⟩ ⟨k, by omega⟩ hz.1
  unfold cut
  rw [hl]
  refine ⟨(sliceRange (sliceBounds (some (k : Int)) none (some (z : Int)) 12).1 (sliceBounds (some (k : Int)) none (some (z : Int)) 12).2.1 (sliceBounds (some (k : Int)) none (some (z : Int)) 12).2.2).filterMap (cs[·]?), ?_, Nat.le_trans (List.length_filterMap_le _ _) h⟩
  unfold nums
  rw [List.map_filterMap]
  refine congrArg (fun f => List.filterMap f _) (funext fun i => ?_)
  rw [List.getElem?_map]
def qLay (q : Addr × List (Int × Int)) : Addr × O := (q.1, .list (prs q.2))
def hLay (p : Addr × List (Int × Int)) : Addr × O := (p.1, .list (nums (hts p.2 4)))
def codeIn1 : Option Obj → List Stmt
  | some ⟨_, _, .func fd, _⟩ => (match fd.body with | .stmts b => b | _ => [])
  | _ => []
def scopeIn1 : Option Obj → Scope
  | some ⟨_, _, .func fd, _⟩ => fd.scope
  | _ => default
abbrev lit {α : Type} {x : α} (_ : x = x) : α := x
noncomputable def lawB (P : Params) : List Stmt := by
  refine lit (x := ?x) ?h
  case h =>
    have e : codeIn1 ((kx.heap_1 P).lookup 177) = ?x := by
      conv => lhs; whnf
    exact rfl
noncomputable def lawS (P : Params) : Scope := by
  refine lit (x := ?x) ?h
  case h =>
    have e : scopeIn1 ((kx.heap_1 P).lookup 177) = ?x := by
      conv => lhs; whnf
    exact rfl
def bodyOf : Stmt → List Stmt
  | .For _ _ b _ _ => b
  | .If _ b _ _ => b
  | _ => []
def elseOf : Stmt → List Stmt
  | .If _ _ o _ => o
  | _ => []
section
variable {g : G} {F F' : Fm} {m : Loc} {H : AH} {X : Value → List V → Loc → AH → Prop} {Q : Fl → Loc → AH → Prop} {B : List (Addr × O)}
theorem l_int {pos p : Pos} {i : Int} {k : Nat} {rest : List Expr} {Q : List V → Loc → AH → Prop} (h : kL g F pos rest Q X (.int i) m H) : WL g F (spliced (backTo pos (starEach (.Constant (.int i) k p :: rest) F.env))) m H Q X := l_cons (e_int h)
structure KA (sa ca : Addr) (cs : List Int) (m' : Loc) (H' : AH) : Prop where
  hc : cs.length = 12
  s : Sat H' [(ca, .list (nums cs))]
  m1 : m' "script" = some (.ref sa)
  m2 : m' "cells" = some (.ref ca)
structure KL (z : Nat) (ca : Addr) (C : List (Addr × O)) (i : Nat) (ys : List V) (qs : List (Addr × List (Int × Int))) (m' : Loc) (H' : AH) : Prop where
  q1 : qs.length = i
  e : ys = qs.map fun q => .ref q.1
  q2 : ∀ q ∈ qs, GoodQ q.2
  s : Sat H' (qs.map qLay ++ C)
  m1 : m' "cells" = some (.ref ca)
  m2 : m' "many" = some (.int z)
structure P5 (z : Nat) (qs : List (Addr × List (Int × Int))) (ql lt : Addr) (lates : List Int) (m : Loc) (H : AH) : Prop where
  hz : 3 ≤ z ∧ z ≤ 5
  q1 : qs.length = z
  q2 : ∀ q ∈ qs, GoodQ q.2
  lat : ∃ t, lates = (nms z).filter t
  sat : Sat H ((ql, .list (qs.map fun q => .ref q.1)) :: (lt, .list (nums lates)) :: qs.map qLay)
  m1 : m "many" = some (.int z)
  m2 : m "late" = some (.ref lt)
  m3 : m "lists" = some (.ref ql)
theorem law_a (D : Gd g) (hF : FrameOf F' F (lawS g.w.params)) (lv : F'.lvl < 40) (hh : F.A.handled = none) {sa : Addr} {ns : List Int} (LS : LB g sa ns) (hn : ns.length ≤ 63) (hm : m "script" = some (.ref sa))
    (h : ∀ z qs ql lt lates m H, P5 z qs ql lt lates m H → WS g F' (execs ((lawB g.w.params).drop 5) F'.env) m H Q X) : WS g F' (execs (lawB g.w.params) F'.env) m (fun _ => none) Q X := by
  have n9 : ns.length ≤ 1000 := Nat.le_trans hn (Nat.le_of_ble_eq_true rfl)
  have stc : Stores F' "cells" := hF.cel rfl
  refine s_cons ?_
  refine (fun h => s_assign stc (by rfl) h) ?_
  refine e_list ?_
  iterate 12 refine l_int ?_
  refine l_nil ⟨by simp [sizeLine_eq], fun ca hca => ?_⟩
  have s1 : Sat (put (fun _ => none) ca (.list (nums [4, 4, 63, 0, 48, 9, 8, 4, 5, 6, 14, 13]))) [(ca, .list (nums [4, 4, 63, 0, 48, 9, 8, 4, 5, 6, 14, 13]))] := (Sat.nil _).new rfl
  refine s_cons (s_for (fun _ => rfl) (e_call <| e_blt (hF.glo rfl) (D.nb rfl) D.range ⟨_, rfl, cw_plain (.type _) <| l_cons <| e_call <| e_blt (hF.glo rfl) (D.nb rfl) D.len ⟨_, rfl, cw_plain (.blt _) <| l_cons <| e_name (by exact hm) <| l_nil <| c_lenB LS (lt60 n9) <| l_nil <| c_range1 <| for_any (it_rangeN (n := ns.length) rfl n9)
      (fun k m' H' => ∃ cs : List Int, KA sa ca cs m' H')
      (hF.hh hh) hF.st (fun _ _ _ _ => trivial) ⟨_, rfl, s1, by exact hm, rfl⟩ (fun k m' H' hk ⟨cs, hc, s', m1, m2⟩ => ?_) (fun m' H' ⟨cs, hc, s', m1, m2⟩ => ?_)⟩⟩))
  · have k9 : k < 1000 := Nat.lt_of_lt_of_le hk n9
    refine a_name (hF.loc rfl) (s_cons (s_augsub <| e_name (by exact m2) <| e_bin <| e_name rfl <| e_int <| o_modN (by decide) fun n hn => ?_))
    have hn12 : n < 12 := Int.ofNat_lt.mp hn
    have hn9 : n < cs.length := by rw [hc]; exact hn12
    refine o_itemK (.own s'.at0) (Nat.lt_trans hn12 (by decide)) (ints_get (List.getElem?_eq_getElem hn9)) <| e_sub <| e_name (by exact m1) <| e_name rfl <| gi_atB LS k9 (List.getElem?_eq_getElem hk) <| o_iadd <| o_setK s'.at0 (by rw [ints_length]; exact hn9) (by rw [ints_length, hc]; decide) ?_
    rw [setI]
    exact s_nil ⟨_, by rw [List.length_set]; exact hc, s'.set _, by exact m1, by exact m2⟩
  refine s_nil (s_cons (s_assign (hF.cel rfl) rfl (e_bin <| e_int <| e_bin <| e_bin <| e_call <| e_blt (hF.glo rfl) (D.nb rfl) D.sum ⟨_, rfl, cw_plain (.blt _) <| l_cons <| e_name (by exact m1) <| l_nil <| c_sumB (hF.hh hh) LS <| e_int <| o_add <| e_int <| o_mod (by decide) <| o_add ?_⟩)))
  obtain ⟨z, hz, hz3⟩ : ∃ z : Nat, 3 + (ns.sum + 2).fmod 3 = (z : Int) ∧ 3 ≤ z ∧ z ≤ 5 := by
    have h1 := Int.fmod_nonneg_of_pos (ns.sum + 2) (show (0 : Int) < 3 by decide)
    have h2 := Int.fmod_lt_of_pos (ns.sum + 2) (show (0 : Int) < 3 by decide)
    exact ⟨(3 + (ns.sum + 2).fmod 3).toNat, by omega, by omega⟩
  rw [hz]
  refine s_cons (s_setcomp (by first | exact .inl (swaps_by hF.scope rfl) | exact .inr (swaps_by hF.scope rfl)) (hF.cel rfl) (CompHead.of hF rfl rfl) (fun _ => rfl) (hF.hh hh) hF.st (fun Fc acc it => turn_one ..)
      (e_call <| e_blt (hF.glo rfl) (D.nb rfl) D.range ⟨_, rfl, cw_plain (.type _) <| l_cons <| e_name rfl <| l_nil <| c_range1 ?_⟩))
  refine w0_filter (fun k => Builtin.bitAnd (shr (ns.sum + 21) k) 1 != 0) (it_rng hz3.2) (fun i h => nms4_get h) trivial (by rw [nms_len]; exact Nat.le_trans hz3.2 (by decide)) rfl (by decide) (fun Fc hC n hn m2' sees hx => t_val <| e_bin <| e_bin <| e_bin <| e_call <| e_blt (hC.glo rfl) (D.nb rfl) D.sum ⟨_, rfl, cw_plain (.blt _) <| l_cons <| e_name ((sees _ rfl).trans m1) <| l_nil <| c_sumB (hC.hh (hF.hh hh)) LS <| e_int <| o_add <| e_name hx <| o_shr (mem_nms.mp hn).1 <| e_int <| o_band <| tr_int ⟨rfl, rfl, rfl⟩⟩) fun lt hlt => ?_
  generalize hL : (nms z).filter (fun k => Builtin.bitAnd (shr (ns.sum + 21) k) 1 != 0) = lates
  have s2 := s'.new (o := .list (nums lates)) hlt
  refine s_cons (s_setcomp (by first | exact .inl (swaps_by hF.scope rfl) | exact .inr (swaps_by hF.scope rfl)) (hF.loc rfl) (CompHead.of hF rfl rfl) (fun _ => rfl) (hF.hh hh) hF.st (fun Fc acc it => turn_one ..)
      (e_call <| e_blt (hF.glo rfl) (D.nb rfl) D.range ⟨_, rfl, cw_plain (.type _) <| l_cons <| e_name rfl <| l_nil <| c_range1 ?_⟩))
  have hca : (ca, O.list (nums cs)) ∈ [(lt, O.list (nums lates)), (ca, O.list (nums cs))] := .tail _ (.head _)
  refine ⟨z, _, fun _ => True, fun i ys m' H' => ∃ qs, KL z ca [(lt, .list (nums lates)), (ca, .list (nums cs))] i ys qs m' H', it_rangeN rfl (Nat.le_trans hz3.2 (by decide)), fun _ _ _ _ _ => trivial, ⟨[], rfl, rfl, fun _ h => (nomatch h), s2, (Sees.start _ _ _ rfl).trans m2, (Sees.start _ _ _ rfl).trans rfl⟩, fun Fc acc hC i ys m3 H3 hi ⟨qs, q1, e, q2, s3, n1, n2⟩ => ?_, fun ys m3 H3 ⟨qs, q1, e, q2, s3, n1, n2⟩ ql hql => ?_⟩
  · refine a_name (hC.loc rfl) (tests_nil ?_)
    rw [if_pos rfl]
    obtain ⟨ds, ed, hd⟩ := cut_nums (k := i) hc hz3 hi
    refine acc_emit (by rw [e]; exact len_fit (by rw [List.length_map, q1]; exact Nat.le_trans (Nat.le_of_lt hi) (Nat.le_trans hz3.2 (by decide)))) (e_call <| e_glob (hC.glo rfl) (D.nb rfl) (fun _ => .cst' _) ⟨_, rfl, cw_plain (D.kp rfl) <| l_cons <| e_slice <| e_name (by exact n1) <| p_some <| e_name rfl <| p_none <| p_some <| e_name (by exact n2) ⟨ca, nums cs, some (0 + (i : Int)), none, some (z : Int), rfl, .own (s3.get (List.mem_append_right _ hca)), by rw [ints_length, hc]; decide, .int _, .none, .int _, by simp; omega, fun c hc' => ?_⟩⟩)
    rw [Int.zero_add, ed]
    have s4 := s3.new (o := .list (nums ds)) hc'
    refine l_nil <| WCode.call <| law_steps_spec D (hC.lv (Nat.lt_trans lv (by decide))) (hC.hh (hF.hh hh)) hd (.head _) s4 fun r H4 s5 => ?_
    · refine ⟨qs ++ [(r, steps2 ds)], by rw [List.length_append, q1]; rfl, by rw [e, List.map_append]; rfl, fun q hq => ?_, ?_, by exact n1, by exact n2⟩
      · rcases List.mem_append.mp hq with x | x
        · exact q2 q x
        · rw [List.mem_singleton] at x; subst x; exact steps2_good hd
      · rw [List.map_append, List.append_assoc]
        refine (s5.perm (List.Perm.swap ..)).tail (A := [_]) |>.perm ?_
        exact List.perm_middle.symm
  · subst e
    refine h z qs ql lt lates _ _ ⟨hz3, q1, q2, ⟨_, hL.symm⟩, ?_, rfl, rfl, rfl⟩
    have s4 := s3.new (o := .list (qs.map fun q => .ref q.1)) hql
    exact (s4.perm (List.perm_append_comm.cons _)).sublist (.cons_cons _ (.cons_cons _ (.cons _ (.refl _))))
end
end Mine
end
section
open PySem PySem.W PySem.Calls PyProof.Rows PySem.SeqAt
set_option linter.unusedVariables false
set_option maxRecDepth 100000
set_option maxHeartbeats 4000000
namespace Mine
def vN (pss : List (List (Int × Int))) (lates : List Int) (k : Nat) : Nat := visD (hts (pss.getD k []) 4) + lates.count (k : Int)
theorem vN_pos (pss : List (List (Int × Int))) (lates : List Int) (k : Nat) : 1 ≤ vN pss lates k := by unfold vN visD; omega
theorem sum_cast (z : Nat) (f : Nat → Nat) : ((List.range z).map fun j => (f j : Int)).sum = (tot z f : Int) := by
  induction z with
  | zero => rfl
  | succ z ih => rw [List.range_succ, List.map_append, List.sum_append, ih, tot_succ]; simp
theorem filterMap_some {α : Type} (f : α → Int) (xs : List α) : xs.filterMap (fun x => some (V.int (f x))) = nums (xs.map f) := by
  unfold nums; rw [List.filterMap_eq_map', List.map_map]; rfl
theorem min_cast {a b c : Nat} (h : c ≤ b) : min (a : Int) ((b : Int) - (c : Int)) = ((min a (b - c) : Nat) : Int) := by
  omega
theorem range_get {i z : Nat} (h : i < (List.range z).length) : (V.int (0 + (i : Int))) = (fun k : Nat => V.int (0 + (k : Int))) (List.range z)[i] := by rw [List.getElem_range]
section
variable {g : G} {F F' : Fm} {m : Loc} {H : AH} {X : Value → List V → Loc → AH → Prop} {Q : Fl → Loc → AH → Prop} {B : List (Addr × O)}
structure P8 (z : Nat) (pss : List (List (Int × Int))) (σs : List Srt) (hs : List (Addr × List (Int × Int))) (sl hl lt da : Addr) (lates : List Int) (m : Loc) (H : AH) : Prop where
  hz : 3 ≤ z ∧ z ≤ 5
  p1 : pss.length = z
  p2 : ∀ ps ∈ pss, GoodQ ps
  lat : ∃ t, lates = (nms z).filter t
  s1 : σs.map Srt.abs = pss.map (told 4)
  h1 : hs.map (·.2) = pss
  sat : Sat H ((da, .list (nums ((List.range z).map fun k => (due z (vN pss lates) k : Int)))) :: (sl, .list (σs.map fun σ => .ref σ.x)) :: (hl, .list (hs.map fun p => .ref p.1)) :: (lt, .list (nums lates)) :: (hs.map hLay ++ σs.flatMap Srt.lay))
  m1 : m "many" = some (.int z)
  m2 : m "late" = some (.ref lt)
  m3 : m "sorters" = some (.ref sl)
  m4 : m "heights" = some (.ref hl)
  m5 : m "due" = some (.ref da)
structure KS (qs : List (Addr × List (Int × Int))) (C : List (Addr × O)) (i : Nat) (ys : List V) (σs : List Srt) (H' : AH) : Prop where
  e1 : σs.map Srt.abs = (qs.take i).map fun q => told 4 q.2
  e2 : ys = σs.map fun σ => .ref σ.x
  s : Sat H' (σs.flatMap Srt.lay ++ C)
structure KH (qs : List (Addr × List (Int × Int))) (C : List (Addr × O)) (i : Nat) (ys : List V) (hs : List (Addr × List (Int × Int))) (H' : AH) : Prop where
  e1 : hs.map (·.2) = (qs.take i).map (·.2)
  e2 : ys = hs.map fun p => .ref p.1
  s : Sat H' (hs.map hLay ++ C)
theorem law_b (D : Gd g) (hF : FrameOf F' F (lawS g.w.params)) (lv : F'.lvl < 40) (hh : F.A.handled = none) {z : Nat} {qs : List (Addr × List (Int × Int))} {ql lt : Addr} {lates : List Int} (x : P5 z qs ql lt lates m H)
    (h : ∀ (sl hl : Addr) (hs : List (Addr × List (Int × Int))) (σs : List Srt) (m : Loc) (H : AH), hs.map (·.2) = qs.map (·.2) → σs.map Srt.abs = (qs.map (·.2)).map (told 4) → Sat H ((sl, .list (σs.map fun σ => .ref σ.x)) :: (hl, .list (hs.map fun p => .ref p.1)) :: (lt, .list (nums lates)) :: (hs.map hLay ++ σs.flatMap Srt.lay)) →
      m "many" = some (.int z) → m "late" = some (.ref lt) → m "sorters" = some (.ref sl) → m "heights" = some (.ref hl) → WS g F' (execs ((lawB g.w.params).drop 6) F'.env) m H Q X) : WS g F' (execs ((lawB g.w.params).drop 5) F'.env) m H Q X := by
  obtain ⟨hz, q1, q2, lat, sat, m1, m2, mL⟩ := x
  have q9 : qs.length ≤ 1000 := by rw [q1]; exact Nat.le_trans hz.2 (by decide)
  have hq : ∀ q ∈ qs, qLay q ∈ ((ql, O.list (qs.map fun q => .ref q.1)) :: (lt, O.list (nums lates)) :: qs.map qLay) := fun q hq => .tail _ (.tail _ (List.mem_map_of_mem hq))
  refine s_cons (s_assign1 (by first | rfl | exact swapsole_by hF.scope rfl) (by first | rfl | exact swapped_by hF.scope rfl) rfl (e_tup <| l_cons <| e_comp (CompHead.of hF rfl rfl) (fun _ => rfl) (hF.hh hh) hF.st (fun Fc acc it => turn_one ..) <| e_name (by exact mL) ?_))
  refine ⟨(qs.map fun q => V.ref q.1).length, _, _, fun i ys m' H' => ∃ σs, KS qs ((ql, .list (qs.map fun q => .ref q.1)) :: (lt, .list (nums lates)) :: qs.map qLay) i ys σs H', it_list, fun i ys m' H' ⟨σs, k⟩ => k.s.get (List.mem_append_right _ (.head _)), ⟨[], rfl, rfl, sat⟩, fun Fc acc hC i ys m3 H3 hi ⟨σs, e1, e2, s3⟩ => ?_, fun ys m3 H3 ⟨σs, e1, e2, s3⟩ sl hsl => ?_⟩
  · rw [List.length_map] at hi
    have ev : (qs.map fun q => V.ref q.1).getD i .none = .ref qs[i].1 := by rw [List.getD_eq_getElem?_getD, ref_at _ hi]; rfl
    rw [ev]
    have el : σs.length = (qs.take i).length := by have := congrArg List.length e1; simpa using this
    refine a_name (hC.loc rfl) (tests_nil ?_)
    rw [if_pos rfl]
    refine acc_emit (by rw [e2]; exact len_fit (by rw [List.length_map, el]; exact Nat.le_trans (List.length_take_le' _ _) q9)) (e_call <| e_glob (hC.glo rfl) (D.nb rfl) (fun _ => .cst' _) ⟨_, rfl, cw_plain (D.kp rfl) <| l_cons <| e_name rfl <| l_nil <| WCode.call <| law_told2_spec D (hC.lv (Nat.lt_trans lv (by decide))) (hC.hh (hF.hh hh)) (q2 _ (List.getElem_mem hi)).1 (List.mem_append_right _ (hq _ (List.getElem_mem hi))) s3 fun σ H4 ea s4 => ?_⟩)
    refine ⟨σs ++ [σ], ?_, ?_, s4.perm ?_⟩
    · rw [List.map_append, e1, List.take_add_one, List.getElem?_eq_getElem hi, List.map_append]
      show _ ++ [σ.abs] = _
      rw [ea]; rfl
    · rw [e2, List.map_append]; rfl
    · rw [List.flatMap_append, List.append_assoc, List.flatMap_cons, List.flatMap_nil, List.append_nil]; exact perm_rot ..
  rw [List.length_map, List.take_of_length_le (Nat.le_refl _)] at e1
  subst e2
  have s4 := s3.new (o := .list (σs.map fun σ => .ref σ.x)) hsl
  refine l_cons <| e_comp (CompHead.of hF rfl rfl) (fun _ => rfl) (hF.hh hh) hF.st (fun Fc acc it => turn_one ..) <| e_name (by exact mL) ?_
  have hq' : ∀ p ∈ ((ql, O.list (qs.map fun q => .ref q.1)) :: (lt, O.list (nums lates)) :: qs.map qLay), p ∈ ((sl, O.list (σs.map fun σ => .ref σ.x)) :: (σs.flatMap Srt.lay ++ ((ql, O.list (qs.map fun q => .ref q.1)) :: (lt, O.list (nums lates)) :: qs.map qLay))) := fun p hp => .tail _ (List.mem_append_right _ hp)
  refine ⟨(qs.map fun q => V.ref q.1).length, _, _, fun i ys m' H' => ∃ hs, KH qs ((sl, .list (σs.map fun σ => .ref σ.x)) :: (σs.flatMap Srt.lay ++ ((ql, .list (qs.map fun q => .ref q.1)) :: (lt, .list (nums lates)) :: qs.map qLay))) i ys hs H', it_list, fun i ys m' H' ⟨hs, k⟩ => k.s.get (List.mem_append_right _ (hq' _ (.head _))), ⟨[], rfl, rfl, s4⟩, fun Fc acc hC i ys m3 H3 hi ⟨hs, f1, f2, s5⟩ => ?_, fun ys m3 H3 ⟨hs, f1, f2, s5⟩ hl hhl => ?_⟩
  · rw [List.length_map] at hi
    have ev : (qs.map fun q => V.ref q.1).getD i .none = .ref qs[i].1 := by rw [List.getD_eq_getElem?_getD, ref_at _ hi]; rfl
    rw [ev]
    have el : hs.length = (qs.take i).length := by have := congrArg List.length f1; simpa using this
    refine a_name (hC.loc rfl) (tests_nil ?_)
    rw [if_pos rfl]
    refine acc_emit (by rw [f2]; exact len_fit (by rw [List.length_map, el]; exact Nat.le_trans (List.length_take_le' _ _) q9)) (e_call <| e_glob (hC.glo rfl) (D.nb rfl) (fun _ => .cst' _) ⟨_, rfl, cw_plain (D.kp rfl) <| l_cons <| e_name rfl <| l_nil <| WCode.call <| law_heights_spec D (hC.lv (Nat.lt_trans lv (by decide))) (hC.hh (hF.hh hh)) (q2 _ (List.getElem_mem hi)).1 (List.mem_append_right _ (hq' _ (hq _ (List.getElem_mem hi)))) s5 fun r H4 s6 => ?_⟩)
    refine ⟨hs ++ [(r, qs[i].2)], ?_, ?_, ?_⟩
    · rw [List.map_append, f1, List.take_add_one, List.getElem?_eq_getElem hi, List.map_append]; rfl
    · rw [f2, List.map_append]; rfl
    · rw [List.map_append, List.append_assoc]; exact s6.perm List.perm_middle.symm
  rw [List.length_map, List.take_of_length_le (Nat.le_refl _)] at f1
  subst f2
  have s6 := s5.new (o := .list (hs.map fun p => .ref p.1)) hhl
  refine l_nil ⟨by simp [sizeLine_eq], a_tuple (hF.hh hh) rfl (a_name (hF.loc rfl) (a_name (hF.cel rfl) ?_))⟩
  refine h sl hl hs σs _ _ f1 (by rw [e1, List.map_map]; rfl) ?_ (by exact m1) (by exact m2) rfl rfl
  have p1 : ((hl, O.list (hs.map fun p => .ref p.1)) :: (hs.map hLay ++ ((sl, O.list (σs.map fun σ => .ref σ.x)) :: (σs.flatMap Srt.lay ++ ((ql, O.list (qs.map fun q => .ref q.1)) :: (lt, O.list (nums lates)) :: qs.map qLay))))).Perm ((sl, O.list (σs.map fun σ => .ref σ.x)) :: (hl, O.list (hs.map fun p => .ref p.1)) :: (lt, O.list (nums lates)) :: (hs.map hLay ++ σs.flatMap Srt.lay) ++ ((ql, O.list (qs.map fun q => .ref q.1)) :: qs.map qLay)) := by
    refine (List.perm_middle.cons _).trans ((List.Perm.swap ..).trans (List.Perm.cons _ (List.Perm.cons _ ?_)))
    rw [← List.append_assoc]
    refine (((List.Perm.swap ..).append_left _).trans List.perm_middle)
  exact (s6.perm p1).sublist (List.sublist_append_left ..)
end
end Mine
end
section
open PySem PySem.W PySem.Calls PyProof.Rows PySem.SeqAt
set_option linter.unusedVariables false
set_option maxRecDepth 100000
set_option maxHeartbeats 4000000
namespace Mine
section
variable {g : G} {F F' : Fm} {m : Loc} {H : AH} {X : Value → List V → Loc → AH → Prop} {Q : Fl → Loc → AH → Prop} {B : List (Addr × O)}
theorem law_c (D : Gd g) (hF : FrameOf F' F (lawS g.w.params)) (lv : F'.lvl < 40) (hh : F.A.handled = none) {z : Nat} {pss : List (List (Int × Int))} {lt sl hl : Addr} {lates : List Int} {hs : List (Addr × List (Int × Int))} {σs : List Srt}
    (hz : 3 ≤ z ∧ z ≤ 5) (p1 : pss.length = z) (p2 : ∀ ps ∈ pss, GoodQ ps) (lat : ∃ t, lates = (nms z).filter t) (f1 : hs.map (·.2) = pss) (e1 : σs.map Srt.abs = pss.map (told 4))
    (sat : Sat H ((sl, .list (σs.map fun σ => .ref σ.x)) :: (hl, .list (hs.map fun p => .ref p.1)) :: (lt, .list (nums lates)) :: (hs.map hLay ++ σs.flatMap Srt.lay)))
    (m1 : m "many" = some (.int z)) (m2 : m "late" = some (.ref lt)) (m3 : m "sorters" = some (.ref sl)) (m4 : m "heights" = some (.ref hl))
    (h : ∀ (da : Addr) (m : Loc) (H : AH), P8 z pss σs hs sl hl lt da lates m H → WS g F' (execs ((lawB g.w.params).drop 8) F'.env) m H Q X) : WS g F' (execs ((lawB g.w.params).drop 6) F'.env) m H Q X := by
  have z9 : z ≤ 1000 := Nat.le_trans hz.2 (by decide)
  have r9 : (List.range z).length ≤ 1000 := by rw [List.length_range]; exact z9
  have hsl : hs.length = z := by rw [← p1, ← f1, List.length_map]
  have lcnt : lates.length ≤ 1000 := by obtain ⟨t, rfl⟩ := lat; exact Nat.le_trans (List.length_filter_le ..) (by rw [nms_len]; exact z9)
  have lenZ : ∀ f : Nat → Int, ((List.range z).map f).length = z := fun f => by rw [List.length_map, List.length_range]
  refine s_cons (s_setcomp (by first | exact .inl (swaps_by hF.scope rfl) | exact .inr (swaps_by hF.scope rfl)) (hF.cel rfl) (CompHead.of hF rfl rfl) (fun _ => rfl) (hF.hh hh) hF.st (fun Fc acc it => turn_one ..)
      (e_call <| e_blt (hF.glo rfl) (D.nb rfl) D.range ⟨_, rfl, cw_plain (.type _) <| l_cons <| e_name (by exact m1) <| l_nil <| c_range1 ?_⟩))
  refine w0_gen (xs := List.range z) (fun k => .int (0 + (k : Int))) (fun k => some (.int (vN pss lates k : Int))) (fun H' => Sat H' ((sl, .list (σs.map fun σ => .ref σ.x)) :: (hl, .list (hs.map fun p => .ref p.1)) :: (lt, .list (nums lates)) :: (hs.map hLay ++ σs.flatMap Srt.lay))) (by rw [List.length_range]; exact it_rangeN rfl z9) (fun i h => range_get h) (fun _ _ => trivial) sat (fun Fc acc hC k hk ys hy m' H' sees s1 J hJ => ?_) fun H' s1 va hva => ?_
  · have hk' := List.mem_range.mp hk
    have hkh : k < hs.length := by rw [hsl]; exact hk'
    have k9 : k < 1000 := Nat.lt_of_lt_of_le hk' z9
    have hpk : hs[k].2 = pss.getD k [] := by
      have : (hs.map (·.2))[k]? = pss[k]? := by rw [f1]
      rw [List.getElem?_map, List.getElem?_eq_getElem hkh] at this
      rw [List.getD_eq_getElem?_getD, ← this]; rfl
    have hobj : ∀ {H2 : AH}, Sat H2 ((sl, .list (σs.map fun σ => .ref σ.x)) :: (hl, .list (hs.map fun p => .ref p.1)) :: (lt, .list (nums lates)) :: (hs.map hLay ++ σs.flatMap Srt.lay)) → H2 hs[k].1 = some (.list (nums (hts (pss.getD k []) 4))) := fun s2 => by
      rw [← hpk]; exact s2.get (.tail _ (.tail _ (.tail _ (List.mem_append_left _ (List.mem_map_of_mem (List.getElem_mem hkh))))))
    generalize hE : hts (pss.getD k []) 4 = hk4 at hobj
    have hl4 : hk4.length ≤ 1000 := by rw [← hE, hts_len]; decide
    refine a_name (hC.loc rfl) (tests_nil ?_)
    rw [if_pos rfl]
    refine acc_emit (len_fit (Nat.le_trans hy r9)) (e_bin <| e_bin <| e_bin <| e_call <| e_blt (hC.glo rfl) (D.nb rfl) D.len ⟨_, rfl, cw_plain (.blt _) <| l_cons <| e_comp (CompHead.inn hC rfl rfl) (fun _ => rfl) (hC.hh (hF.hh hh)) (hC.st hF.st) (fun Fc acc it => turn_one ..) <| e_call <| e_blt (hC.glo rfl) (D.nb rfl) D.range ⟨_, rfl, cw_plain (.type _) <| l_cons <| e_int <| l_nil <| c_range1 ?_⟩⟩)
    refine w0_filter (fun n => hk4.contains n) (it_rng (z := 4) (by decide)) (fun i h => nms4_get h) trivial (by decide) rfl (by decide) (fun Fd hD n hn m'' hs' hx => t_cmp rfl <| e_name hx <| e_sub <| e_name ((hs' _ rfl).trans ((sees _ rfl).trans m4)) <| e_name ((hs' _ rfl).trans rfl) <| gi_at (.own s1.at1) k9 (ref_at (·.1) hkh) <| o_in (.own (hobj s1)) (dat_int _) (dats_ints _) (deps_le _) <| tr_bool ⟨any_ints _ _, rfl, rfl⟩) fun b1 hb1 => ?_
    have s2 := s1.new (o := .list (nums ((nms 4).filter fun n => hk4.contains n))) hb1
    have c1 : ((nms 4).filter fun n => hk4.contains n).length ≤ 1000 := Nat.le_trans (List.length_filter_le ..) (by decide)
    refine l_nil <| c_len (.own s2.at0) (nums_60 c1) <| e_call <| e_blt (hC.glo rfl) (D.nb rfl) D.len ⟨_, rfl, cw_plain (.blt _) <| l_cons <| e_comp (CompHead.inn hC rfl rfl) (fun _ => rfl) (hC.hh (hF.hh hh)) (hC.st hF.st) (fun Fc acc it => turn_one ..) <| e_sub <| e_name ((sees.set rfl _ rfl).trans m4) <| e_name rfl <| gi_at (.own s2.at2) k9 (ref_at (·.1) hkh) ?_⟩
    refine w0_filter (fun n => decide (n < 4)) it_nums (fun i h => nums_get h) (hobj (s2.tail (A := [_]))) hl4 rfl (by decide) (fun Fd hD n hn m'' hs' hx => t_cmp rfl <| e_name hx <| e_int <| o_lt <| tr_bool ⟨rfl, rfl, rfl⟩) fun b2 hb2 => ?_
    have s3 := s2.new (o := .list (nums (hk4.filter fun n => decide (n < 4)))) hb2
    have c2 : (hk4.filter fun n => decide (n < 4)).length ≤ 1000 := Nat.le_trans (List.length_filter_le ..) hl4
    refine l_nil <| c_len (.own s3.at0) (nums_60 c2) <| o_add <| e_int <| o_add <| e_meth <| e_name ((sees.set rfl _ rfl).trans m2) ⟨_, meth_list (.own s3.at4) PySem.F.slot_list_count PySem.F.type_list_count, cw_plain (.blt _) <| l_cons <| e_name rfl <| l_nil <| c_count s3.at4 <| o_add ?_⟩
    have := hJ (setL m' "k" (.int (0 + (k : Int)))) _ (s3.tail (A := [_, _])) (sees.set rfl)
    have ev : ((nums ((nms 4).filter fun n => hk4.contains n)).length : Int) + ((nums (hk4.filter fun n => decide (n < 4))).length : Int) + 1 + ((lates.count (0 + (k : Int)) : Nat) : Int) = (vN pss lates k : Int) := by
      rw [ints_length, ints_length, Int.zero_add]
      unfold vN visD
      rw [hE]
      show _ = (((([0, 1, 2, 3] : List Int).filter fun h => hk4.contains h).length + _ + 1 + _ : Nat) : Int)
      rfl
    rw [ev]
    exact this
  rw [filterMap_some]
  generalize hV : vN pss lates = v
  have vpos : ∀ k, 1 ≤ v k := fun k => by rw [← hV]; exact vN_pos ..
  have s2 := s1.new (o := .list (nums ((List.range z).map fun k => (v k : Int)))) hva
  refine s_cons (s_setcomp (by first | exact .inl (swaps_by hF.scope rfl) | exact .inr (swaps_by hF.scope rfl)) (hF.loc rfl) (CompHead.of hF rfl rfl) (fun _ => rfl) (hF.hh hh) hF.st (fun Fc acc it => turn_one ..)
      (e_call <| e_blt (hF.glo rfl) (D.nb rfl) D.range ⟨_, rfl, cw_plain (.type _) <| l_cons <| e_name (by exact m1) <| l_nil <| c_range1 ?_⟩))
  have vat : ∀ {k : Nat}, k < z → (nums ((List.range z).map fun k => (v k : Int)))[k]? = some (.int (v k : Int)) := fun hk => ints_get (by rw [List.getElem?_map, List.getElem?_range hk]; rfl)
  refine w0_gen (xs := List.range z) (fun k => .int (0 + (k : Int))) (fun k => some (.int (due z v k : Int))) (fun H' => Sat H' ((va, .list (nums ((List.range z).map fun k => (v k : Int)))) :: (sl, .list (σs.map fun σ => .ref σ.x)) :: (hl, .list (hs.map fun p => .ref p.1)) :: (lt, .list (nums lates)) :: (hs.map hLay ++ σs.flatMap Srt.lay))) (by rw [List.length_range]; exact it_rangeN rfl z9) (fun i h => range_get h) (fun _ _ => trivial) s2 (fun Fc acc hC k hk ys hy m' H' sees s3 J hJ => ?_) fun H' s3 da hda => ?_
  · have hk' := List.mem_range.mp hk
    have k9 : k < 1000 := Nat.lt_of_lt_of_le hk' z9
    refine a_name (hC.loc rfl) (tests_nil ?_)
    rw [if_pos rfl]
    refine acc_emit (len_fit (Nat.le_trans hy r9)) (e_call <| e_blt (hC.glo rfl) (D.nb rfl) D.sum ⟨_, rfl, cw_plain (.blt _) <| l_cons <| e_comp (CompHead.inn hC rfl rfl) (fun _ => rfl) (hC.hh (hF.hh hh)) (hC.st hF.st) (fun Fc acc it => turn_one ..) <| e_call <| e_blt (hC.glo rfl) (D.nb rfl) D.range ⟨_, rfl, cw_plain (.type _) <| l_cons <| e_name ((sees.set rfl _ rfl).trans m1) <| l_nil <| c_range1 ?_⟩⟩)
    refine w0_gen (xs := List.range z) (fun j => .int (0 + (j : Int))) (fun j => some (.int ((min (v j) (v k - if k < j then 1 else 0) : Nat) : Int))) (fun H' => Sat H' ((va, .list (nums ((List.range z).map fun k => (v k : Int)))) :: (sl, .list (σs.map fun σ => .ref σ.x)) :: (hl, .list (hs.map fun p => .ref p.1)) :: (lt, .list (nums lates)) :: (hs.map hLay ++ σs.flatMap Srt.lay))) (by rw [List.length_range]; exact it_rangeN rfl z9) (fun i h => range_get h) (fun _ _ => trivial) s3 (fun Fd acc2 hD j hj ys2 hy2 m2' H2 sees2 s4 J2 hJ2 => ?_) fun H2 s4 b hb => ?_
    · have hj' := List.mem_range.mp hj
      have j9 : j < 1000 := Nat.lt_of_lt_of_le hj' z9
      have sees3 := sees2.set (x := "j") (v := .int (0 + (j : Int))) rfl
      have hJ3 := hJ2 _ _ s4 sees3
      refine a_name (hD.loc rfl) (tests_nil ?_)
      rw [if_pos rfl]
      refine acc_emit (len_fit (Nat.le_trans hy2 r9)) (e_call <| e_blt (hD.glo rfl) (D.nb rfl) D.min ⟨_, rfl, cw_plain (.blt _) <| l_cons <| e_sub <| e_name ((sees3 _ rfl).trans ((sees _ rfl).trans rfl)) <| e_name rfl <| gi_at (.own s4.at0) j9 (vat hj') <| l_cons <| e_bin <| e_sub <| e_name ((sees3 _ rfl).trans ((sees _ rfl).trans rfl)) <| e_name ((sees3 _ rfl).trans rfl) <| gi_at (.own s4.at0) k9 (vat hk') <| e_if <| t_cmp rfl <| e_name rfl <| e_name ((sees3 _ rfl).trans rfl) <| o_gt <| tr_bool ?_⟩)
      by_cases q : k < j
      · rw [if_pos (by simpa using q)]
        refine e_int <| o_sub <| l_nil <| c_min2 (hD.hh (hC.hh (hF.hh hh))) ?_
        rw [if_pos q] at hJ3
        rw [show min (v j : Int) ((v k : Int) - 1) = ((min (v j) (v k - 1) : Nat) : Int) from min_cast (c := 1) (vpos k)]
        exact hJ3
      · rw [if_neg (by simpa using q)]
        refine e_int <| o_sub <| l_nil <| c_min2 (hD.hh (hC.hh (hF.hh hh))) ?_
        rw [if_neg q] at hJ3
        rw [show min (v j : Int) ((v k : Int) - 0) = ((min (v j) (v k - 0) : Nat) : Int) from min_cast (c := 0) (Nat.zero_le _)]
        exact hJ3
    rw [filterMap_some]
    have s5 := s4.new (o := .list (nums ((List.range z).map fun j => ((min (v j) (v k - if k < j then 1 else 0) : Nat) : Int)))) hb
    refine l_nil <| c_sum (hC.hh (hF.hh hh)) (.own s5.at0) ?_
    rw [sum_cast z fun j => min (v j) (v k - if k < j then 1 else 0)]
    exact hJ (setL m' "k" (.int (0 + (k : Int)))) _ (s5.tail (A := [_])) (sees.set rfl)
  rw [filterMap_some]
  have s4 := s3.new (o := .list (nums ((List.range z).map fun k => (due z v k : Int)))) hda
  rw [← hV] at s4 ⊢
  exact h da _ _ ⟨hz, p1, p2, lat, e1, f1, s4.sublist (.cons_cons _ (.cons _ (.refl _))), by exact m1, by exact m2, by exact m3, by exact m4, rfl⟩
end
end Mine
end
section
open PySem PySem.W PySem.Calls PyProof.Rows PySem.SeqAt
set_option linter.unusedVariables false
set_option maxRecDepth 100000
set_option maxHeartbeats 4000000
namespace Mine
def SKp (v n : Nat) (late : Prop) (ps : List (Int × Int)) (γ : Nat) (W : List Int) (P : PS) : Prop :=
  (late ∧ P = told 4 ps ∧ W = [] ∧ γ = 0 ∧ v = n + 2 + tv ps 0) ∨ (¬ late ∧ n = v) ∨ (¬ late ∧ Stg ps γ W P ∧ v = n + 1 + W.length + tv ps γ)
theorem ofNat_range (z : Nat) : ((List.range z).map fun (i : Nat) => 0 + (i : Int)) = (List.range z).map Int.ofNat := List.map_congr_left fun i _ => Int.zero_add _
section
variable {qs : List (Addr × List (Int × Int))} {sl wl : Addr} {pls : List Pl} {C Z : List (Addr × O)} {H : AH}
theorem Tg.drop (x : Tg qs sl wl [] pls (Z ++ C) H) (hs : (sl, O.list (pls.map fun p => .ref p.σ.x)) ∈ C) : Tg qs sl wl [] pls C H :=
  ⟨x.sat.sublist ((List.Sublist.refl _).append (List.sublist_append_right ..)), ⟨C, (List.append_nil C).symm⟩, hs, x.qs⟩
theorem Tg.cset {Z1 Z2 : List (Addr × O)} {a : Addr} {o : O} (x : Tg qs sl wl [] pls (Z1 ++ (a, o) :: Z2) H) (o' : O) (hs : (sl, O.list (pls.map fun p => .ref p.σ.x)) ∈ Z2) : Tg qs sl wl [] pls (Z1 ++ (a, o') :: Z2) (Mine.put H a o') := by
  refine ⟨?_, ⟨_, (List.append_nil _).symm⟩, List.mem_append_right _ (.tail _ hs), x.qs⟩
  have := x.sat
  rw [← List.append_assoc] at this ⊢
  exact this.mid o'
end
structure NmB (sl hl lt da li le wl gr : Addr) (m : Loc) : Prop where
  sorters : m "sorters" = some (.ref sl)
  heights : m "heights" = some (.ref hl)
  late : m "late" = some (.ref lt)
  due : m "due" = some (.ref da)
  line : m "line" = some (.ref li)
  left : m "left" = some (.ref le)
  waits : m "waits" = some (.ref wl)
  groups : m "groups" = some (.ref gr)
structure Lp (z : Nat) (v : Nat → Nat) (pss : List (List (Int × Int))) (sl wl lt li le gr : Addr) (C0 : List (Addr × O)) (pls : List Pl) (lates : List Int) (line : List Nat) (n : Nat → Nat) (γs : List Nat) (H : AH) : Prop where
  T : Tg (pss.map fun ps => (0, ps)) sl wl [] pls ((lt, .list (nums lates)) :: (li, .list (nums (line.map Int.ofNat))) :: (le, .list (nums (lefts z v n))) :: (gr, .list (nums (γs.map Int.ofNat))) :: C0) H
  sr : (sl, O.list (pls.map fun p => .ref p.σ.x)) ∈ C0
  gl : γs.length = z
  ln : lates.Nodup ∧ lates.length ≤ 5
  ll : line.length ≤ 5
  st : ∀ k (hk : k < pls.length) (hg : k < γs.length), SKp (v k) (n k) ((k : Int) ∈ lates) pls[k].ps γs[k] pls[k].W pls[k].σ.abs
structure Lc (z : Nat) (v : Nat → Nat) (pss : List (List (Int × Int))) (hs : List (Addr × List (Int × Int))) (hl da : Addr) (C0 : List (Addr × O)) : Prop where
  hz : 3 ≤ z ∧ z ≤ 5
  p1 : pss.length = z
  p2 : ∀ ps ∈ pss, GoodQ ps
  h1 : hs.map (·.2) = pss
  hH : (hl, O.list (hs.map fun p => .ref p.1)) ∈ C0
  hK : ∀ p ∈ hs, hLay p ∈ C0
  hD : (da, O.list (nums ((List.range z).map fun k => (due z v k : Int)))) ∈ C0
  v1 : ∀ k, 1 ≤ v k
  v2 : tot z v ≤ 60
section
variable {g : G} {F F' : Fm} {m : Loc} {H : AH} {X : Value → List V → Loc → AH → Prop} {Q : Fl → Loc → AH → Prop} {B : List (Addr × O)}
structure P9 (z : Nat) (pss : List (List (Int × Int))) (σs : List Srt) (hs : List (Addr × List (Int × Int))) (sl hl lt da : Addr) (lates : List Int) (m : Loc) (H : AH) : Prop where
  f1 : σs.length = z
  f3 : ∀ j (h1 : j < σs.length) (h2 : j < pss.length), if (j : Int) ∉ lates then Stg pss[j] 0 [] σs[j].abs else σs[j].abs = told 4 pss[j]
  sat : Sat H ((da, .list (nums ((List.range z).map fun k => (due z (vN pss lates) k : Int)))) :: (sl, .list (σs.map fun σ => .ref σ.x)) :: (hl, .list (hs.map fun p => .ref p.1)) :: (lt, .list (nums lates)) :: (hs.map hLay ++ σs.flatMap Srt.lay))
  m1 : m "many" = some (.int z)
  m2 : m "late" = some (.ref lt)
  m3 : m "sorters" = some (.ref sl)
  m4 : m "heights" = some (.ref hl)
  m5 : m "due" = some (.ref da)
structure JP (z : Nat) (pss : List (List (Int × Int))) (xs : List V) (lates : List Int) (A : List (Addr × O)) (i : Nat) (σs' : List Srt) (m0 m' : Loc) (H' : AH) : Prop where
  f1 : σs'.length = z
  f2 : σs'.map (fun σ => V.ref σ.x) = xs
  f3 : ∀ j (h1 : j < σs'.length) (h2 : j < pss.length), if j < i ∧ (j : Int) ∉ lates then Stg pss[j] 0 [] σs'[j].abs else σs'[j].abs = told 4 pss[j]
  s : Sat H' (A ++ σs'.flatMap Srt.lay)
  mm : ∀ x, (x == ("k" : Str)) = false → m' x = m0 x
theorem law_d (D : Gd g) (hF : FrameOf F' F (lawS g.w.params)) (lv : F'.lvl < 40) (hh : F.A.handled = none) {z : Nat} {pss : List (List (Int × Int))} {lt sl hl da : Addr} {lates : List Int} {hs : List (Addr × List (Int × Int))} {σs : List Srt} (x : P8 z pss σs hs sl hl lt da lates m H)
    (h : ∀ (σs : List Srt) (m : Loc) (H : AH), P9 z pss σs hs sl hl lt da lates m H → WS g F' (execs ((lawB g.w.params).drop 9) F'.env) m H Q X) : WS g F' (execs ((lawB g.w.params).drop 8) F'.env) m H Q X := by
  obtain ⟨hz, p1, p2, lat, s1, h1, sat, m1, m2, m3, m4, m5⟩ := x
  have z9 : z ≤ 1000 := Nat.le_trans hz.2 (by decide)
  have el : σs.length = z := by have := congrArg List.length s1; rw [List.length_map, List.length_map] at this; rw [this, p1]
  have sat' : Sat H (((da, .list (nums ((List.range z).map fun k => (due z (vN pss lates) k : Int)))) :: (sl, .list (σs.map fun σ => .ref σ.x)) :: (hl, .list (hs.map fun p => .ref p.1)) :: (lt, .list (nums lates)) :: hs.map hLay) ++ σs.flatMap Srt.lay) := sat
  generalize hA : (da, O.list (nums ((List.range z).map fun k => (due z (vN pss lates) k : Int)))) :: (sl, O.list (σs.map fun σ => .ref σ.x)) :: (hl, O.list (hs.map fun p => .ref p.1)) :: (lt, O.list (nums lates)) :: hs.map hLay = A at sat'
  have aS : (sl, O.list (σs.map fun σ => .ref σ.x)) ∈ A := by rw [← hA]; exact .tail _ (.head _)
  have aL : (lt, O.list (nums lates)) ∈ A := by rw [← hA]; exact .tail _ (.tail _ (.tail _ (.head _)))
  refine s_cons (s_for (fun _ => rfl) (e_call <| e_blt (hF.glo rfl) (D.nb rfl) D.range ⟨_, rfl, cw_plain (.type _) <| l_cons <| e_name (by exact m1) <| l_nil <| c_range1 <| for_any (it_rangeN (n := z) rfl z9) (fun i m' H' => ∃ σs', JP z pss (σs.map fun σ => .ref σ.x) lates A i σs' m m' H')
    (hF.hh hh) hF.st (fun _ _ _ _ => trivial) ⟨σs, el, rfl, fun j h1 h2 => ?_, sat', fun _ _ => rfl⟩ (fun i m' H' hi ⟨σs', f1, f2, f3, s', mm⟩ => ?_) (fun m' H' ⟨σs', f1, f2, f3, s', mm⟩ => ?_)⟩))
  · rw [if_neg (fun q => absurd q.1 (Nat.not_lt_zero _))]
    have := congrArg (fun l => l[j]?) s1
    rw [List.getElem?_map, List.getElem?_map, List.getElem?_eq_getElem h1, List.getElem?_eq_getElem h2] at this
    exact Option.some.inj this
  · have hi' : i < σs'.length := by rw [f1]; exact hi
    have hi2 : i < pss.length := by rw [p1]; exact hi
    have i9 : i < 1000 := Nat.lt_of_lt_of_le hi z9
    have hps := p2 _ (List.getElem_mem hi2)
    have fi := f3 i hi' hi2
    rw [if_neg (fun q => absurd q.1 (Nat.lt_irrefl _))] at fi
    refine a_name (hF.cel rfl) (s_cons (s_if <| t_cmp rfl <| e_name rfl <| e_name ((mm _ (by decide)).trans m2) <| o_nin (.own (s'.get (List.mem_append_left _ aL))) (dat_int _) (dats_ints _) (deps_le _) <| tr_bool ?_))
    rw [any_ints, show lates.contains (0 + (i : Int)) = lates.contains (i : Int) from by rw [Int.zero_add]]
    have mm' : ∀ x, (x == ("k" : Str)) = false → setL m' "k" (.int (0 + (i : Int))) x = m x := fun x hx => (setL_ne _ _ (beq_eq_false_iff_ne.mp hx)).trans (mm x hx)
    by_cases q : (!lates.contains (i : Int)) = true
    · rw [if_pos q]
      have q' : (i : Int) ∉ lates := by simpa using q
      obtain ⟨t1, t2, t3, t4⟩ := told_srt (by decide) hps.1 hps.2 fi
      have trd : σs'[i].rd = none := Srt.rd_none (by rw [fi]; exact (told_ok 4 pss[i]).2.2)
      have s2 : Sat H' (σs'[i].lay ++ (A ++ (σs'.eraseIdx i).flatMap Srt.lay)) := s'.perm (((fm_at (f := Srt.lay) hi').append_left A).trans (perm_rot ..))
      refine s_cons (s_expr <| e_call <| e_glob (hF.glo rfl) (D.nb rfl) (fun _ => .cst' _) ⟨_, rfl, cw_plain (D.kp rfl) <| l_cons <| e_sub <| e_name ((mm _ (by decide)).trans m3) <| e_name rfl <| gi_at (.own (s'.get (List.mem_append_left _ aS))) i9 (by rw [← f2]; exact ref_at (·.x) hi') <| l_nil <| WCode.call <| prep2_spec D (Nat.lt_trans lv (by decide)) (hF.hh hh) s2 t4 t1 t2 trd t3 fun σ' H2 ex ea s3 => s_nil (s_nil ?_)⟩)
      refine ⟨σs'.set i σ', by rw [List.length_set]; exact f1, by rw [map_set_same _ hi' (by rw [ex]), f2], fun j h1 h2 => ?_, ?_, mm'⟩
      · rw [List.getElem_set]
        by_cases w : i = j
        · subst w
          rw [if_pos rfl, if_pos ⟨Nat.lt_succ_self _, q'⟩, ea, fi]
          exact stg_start hps.2 (by rw [← fi]; rfl)
        · rw [if_neg w]
          have := f3 j (by rw [List.length_set] at h1; exact h1) h2
          have e : (j < i + 1 ∧ (j : Int) ∉ lates) = (j < i ∧ (j : Int) ∉ lates) := by
            refine propext ⟨fun a => ⟨Nat.lt_of_le_of_ne (Nat.le_of_lt_succ a.1) (Ne.symm w), a.2⟩, fun a => ⟨Nat.lt_succ_of_lt a.1, a.2⟩⟩
          simp only [e]
          exact this
      · exact s3.perm ((perm_rot ..).trans ((fm_set (f := Srt.lay) hi').symm.append_left A))
    · rw [if_neg q]
      have q' : (i : Int) ∈ lates := by simpa using q
      refine s_nil (s_nil ⟨σs', f1, f2, fun j h1 h2 => ?_, s', mm'⟩)
      by_cases w : i = j
      · subst w; rw [if_neg fun a => a.2 q']; exact fi
      · have := f3 j h1 h2
        have e : (j < i + 1 ∧ (j : Int) ∉ lates) = (j < i ∧ (j : Int) ∉ lates) := by
          refine propext ⟨fun a => ⟨Nat.lt_of_le_of_ne (Nat.le_of_lt_succ a.1) (Ne.symm w), a.2⟩, fun a => ⟨Nat.lt_succ_of_lt a.1, a.2⟩⟩
        simp only [e]
        exact this
  · refine s_nil (h σs' m' H' ⟨f1, fun j h1 h2 => ?_, ?_, (mm _ (by decide)).trans m1, (mm _ (by decide)).trans m2, (mm _ (by decide)).trans m3, (mm _ (by decide)).trans m4, (mm _ (by decide)).trans m5⟩)
    · have := f3 j h1 h2
      have e : (j < z ∧ (j : Int) ∉ lates) = ((j : Int) ∉ lates) := propext ⟨fun a => a.2, fun a => ⟨by rw [← p1]; exact h2, a⟩⟩
      simp only [e] at this
      exact this
    · rw [f2]
      rw [← hA] at s'
      exact s'
end
end Mine
end
section
open PySem PySem.W PySem.Calls PyProof.Rows PySem.SeqAt
set_option linter.unusedVariables false
set_option maxRecDepth 100000
set_option maxHeartbeats 4000000
namespace Mine
theorem perm_cnt {α : Type} {l l' : List α} (h : ∀ [DecidableEq α] (a : α), l.count a = l'.count a) : l.Perm l' := by
  classical
  exact List.perm_iff_count.mpr fun a => h a
theorem perm8 {α : Type} {gr wl le li da sl hl lt : α} {U V W Y : List α} (h : Y.Perm (V ++ U)) : (gr :: wl :: (U ++ (le :: li :: da :: sl :: hl :: lt :: (W ++ V)))).Perm ((wl :: Y) ++ (lt :: li :: le :: gr :: da :: sl :: hl :: W)) := by
  refine List.Perm.trans ?_ ((h.symm.cons wl).append_right _)
  exact perm_cnt fun a => by simp only [List.count_cons, List.count_append]; omega
theorem vN_le {z : Nat} {pss : List (List (Int × Int))} {lates : List Int} (hz : z ≤ 5) (hn : lates.Nodup) : tot z (vN pss lates) ≤ 60 := by
  refine Nat.le_trans (tot_le (n' := fun _ => 10) fun j _ => ?_) ?_
  · have h1 := (vis_is (pss.getD j [])).2
    have h2 := List.nodup_iff_count.mp hn (j : Int)
    unfold vN; omega
  · rw [tot_const]; omega
section
variable {g : G} {F F' : Fm} {m : Loc} {H : AH} {X : Value → List V → Loc → AH → Prop} {Q : Fl → Loc → AH → Prop} {B : List (Addr × O)}
theorem law_e (D : Gd g) (hF : FrameOf F' F (lawS g.w.params)) (lv : F'.lvl < 40) (hh : F.A.handled = none) {z : Nat} {pss : List (List (Int × Int))} {lt sl hl da : Addr} {lates : List Int} {hs : List (Addr × List (Int × Int))} {σs : List Srt} (hz : 3 ≤ z ∧ z ≤ 5) (p1 : pss.length = z) (p2 : ∀ ps ∈ pss, GoodQ ps) (lat : ∃ t, lates = (nms z).filter t) (h1 : hs.map (·.2) = pss)
    (x : P9 z pss σs hs sl hl lt da lates m H)
    (h : ∀ (wl li le gr : Addr) (C0 : List (Addr × O)) (pls : List Pl) (m : Loc) (H : AH), Lc z (vN pss lates) pss hs hl da C0 → NmB sl hl lt da li le wl gr m → Lp z (vN pss lates) pss sl wl lt li le gr C0 pls lates (List.range z) (fun _ => 0) (List.replicate z 0) H → WS g F' (execs ((lawB g.w.params).drop 10) F'.env) m H Q X) : WS g F' (execs ((lawB g.w.params).drop 9) F'.env) m H Q X := by
  obtain ⟨f1, f3, sat, m1, m2, m3, m4, m5⟩ := x
  have z9 : z ≤ 1000 := Nat.le_trans hz.2 (by decide)
  have ln : lates.Nodup ∧ lates.length ≤ 5 := by
    obtain ⟨t, rfl⟩ := lat
    exact ⟨(nms_nodup z).filter _, Nat.le_trans (List.length_filter_le ..) (by rw [nms_len]; exact hz.2)⟩
  refine s_cons (s_assign1 (by first | rfl | exact swapsole_by hF.scope rfl) (by first | rfl | exact swapped_by hF.scope rfl) rfl (e_tup <| l_cons <| e_call <| e_blt (hF.glo rfl) (D.nb rfl) D.list ⟨_, rfl, cw_plain (.type _) <| l_cons <| e_call <| e_blt (hF.glo rfl) (D.nb rfl) D.range ⟨_, rfl, cw_plain (.type _) <| l_cons <| e_name (by exact m1) <| l_nil <| c_range1 <| l_nil <| c_listrangeN (n := z) (hF.hh hh) z9 fun li hli => ?_⟩⟩))
  have s1 := sat.new (o := .list (nums ((List.range z).map fun (i : Nat) => 0 + (i : Int)))) hli
  refine l_cons <| e_bin <| e_list <| l_cons <| e_int <| l_nil ⟨by decide, fun a0 ha0 => e_name (by exact m1) <| o_mulL (n := z) (x := .int 0) (put_self ..) z9 fun le hle => ?_⟩
  have s2 := ((s1.new (o := .list [.int 0]) ha0).new (o := .list (List.replicate z (.int 0))) hle).sublist (.cons_cons _ (.cons _ (.refl _)))
  refine l_cons <| e_comp (CompHead.of hF rfl rfl) (fun _ => rfl) (hF.hh hh) hF.st (fun Fc acc it => turn_one ..) <| e_call <| e_blt (hF.glo rfl) (D.nb rfl) D.range ⟨_, rfl, cw_plain (.type _) <| l_cons <| e_name (by exact m1) <| l_nil <| c_range1 ?_⟩
  generalize hC : ((le, O.list (List.replicate z (.int 0))) :: (li, O.list (nums ((List.range z).map fun (i : Nat) => 0 + (i : Int)))) :: _) = C at s2
  refine ⟨z, _, fun _ => True, fun i ys m' H' => ∃ was : List Addr, was.length = i ∧ ys = was.map .ref ∧ Sat H' (was.map (fun a => (a, O.list [])) ++ C), it_rangeN rfl z9, fun _ _ _ _ _ => trivial, ⟨[], rfl, rfl, s2⟩, fun Fc acc hC i ys m' H' hi ⟨was, e1, e2, s'⟩ => ?_, fun ys mc H' ⟨was, e1, e2, s'⟩ wl hwl => ?_⟩
  · refine a_name (hC.loc rfl) (tests_nil ?_)
    rw [if_pos rfl]
    refine acc_emit (by rw [e2]; exact len_fit (by rw [List.length_map, e1]; exact Nat.le_trans (Nat.le_of_lt hi) z9)) (e_list (l_nil ⟨by decide, fun a ha => ?_⟩))
    refine ⟨was ++ [a], by rw [List.length_append, e1]; rfl, by rw [e2, List.map_append]; rfl, ?_⟩
    rw [List.map_append, List.append_assoc]
    exact (s'.new (o := .list []) ha).perm List.perm_middle.symm
  subst e2
  have s3 := s'.new (o := .list (was.map V.ref)) hwl
  refine l_cons <| e_bin <| e_list <| l_cons <| e_int <| l_nil ⟨by decide, fun a1 ha1 => e_name (by exact m1) <| o_mulL (n := z) (x := .int 0) (put_self ..) z9 fun gr hgr => ?_⟩
  have s4 := ((s3.new (o := .list [.int 0]) ha1).new (o := .list (List.replicate z (.int 0))) hgr).sublist (.cons_cons _ (.cons _ (.refl _)))
  refine l_nil ⟨by simp [sizeLine_eq], a_tuple (hF.hh hh) rfl (a_name (hF.loc rfl) (a_name (hF.loc rfl) (a_name (hF.loc rfl) (a_name (hF.cel rfl) ?_))))⟩
  have lq : (pss.map fun ps => ((0 : Addr), ps)).length = z := by rw [List.length_map, p1]
  obtain ⟨k1, k2, k3, k4, k5⟩ := mk3_is (qs := pss.map fun ps => (0, ps)) (σs := σs) (as := was) (by rw [lq, f1]) (by rw [lq, e1])
  rw [← hC] at s4
  have s5 := s4.perm (perm8 k4)
  have vp := vN_pos pss lates
  have rep : nums (List.replicate z 0) = List.replicate z (V.int 0) := by unfold nums; rw [List.map_replicate]
  have rep' : nums ((List.replicate z 0).map Int.ofNat) = List.replicate z (V.int 0) := by unfold nums; rw [List.map_map, List.map_replicate]; rfl
  refine h wl li le gr ((da, .list (nums ((List.range z).map fun k => (due z (vN pss lates) k : Int)))) :: (sl, .list (σs.map fun σ => .ref σ.x)) :: (hl, .list (hs.map fun p => .ref p.1)) :: hs.map hLay) (mk3 (pss.map fun ps => (0, ps)) σs was) _ _ ⟨hz, p1, p2, h1, .tail _ (.tail _ (.head _)), fun p hp => .tail _ (.tail _ (.tail _ (List.mem_map_of_mem hp))), .head _, vp, vN_le hz.2 ln.1⟩ ⟨by exact m3, by exact m4, by exact m2, by exact m5, rfl, rfl, rfl, rfl⟩ ⟨⟨?_, ⟨_, (List.append_nil _).symm⟩, ?_, k1⟩, ?_, by rw [List.length_replicate], ln, by rw [List.length_range]; exact hz.2, fun k hk hg => ?_⟩
  · rw [k3, lefts_zero (fun j _ => vp j), ← ofNat_range, rep, rep']
    exact s5
  · rw [k2]; exact .tail _ (.tail _ (.tail _ (.tail _ (.tail _ (.head _)))))
  · rw [k2]; exact .tail _ (.head _)
  · have hkz : k < z := by rw [List.length_replicate] at hg; exact hg
    have hkq : k < (pss.map fun ps => ((0 : Addr), ps)).length := by rw [lq]; exact hkz
    have hks : k < σs.length := by rw [f1]; exact hkz
    have hkp : k < pss.length := by rw [p1]; exact hkz
    obtain ⟨w1, w2, w3⟩ := k5 k hk hkq hks
    rw [w1, w2, w3, List.getElem_map, List.getElem_replicate]
    show SKp _ 0 _ pss[k] 0 [] _
    have := f3 k hks hkp
    have hv : vN pss lates k = 1 + tv pss[k] 0 + lates.count (k : Int) := by
      unfold vN
      rw [List.getD_eq_getElem?_getD, List.getElem?_eq_getElem hkp]
      show visD (hts pss[k] 4) + _ = _
      rw [(vis_is pss[k]).1]
    by_cases q : (k : Int) ∈ lates
    · rw [if_neg (fun a => a q)] at this
      have c1 : lates.count (k : Int) = 1 := by
        have := List.nodup_iff_count.mp ln.1 (k : Int)
        have := List.count_pos_iff.mpr q
        omega
      exact .inl ⟨q, this, rfl, rfl, by rw [hv, c1]; omega⟩
    · rw [if_pos q] at this
      exact .inr (.inr ⟨q, this, by rw [hv, List.count_eq_zero_of_not_mem q]; show _ = 0 + 1 + 0 + _; omega⟩)
end
end Mine
end
section
open PySem PySem.W PySem.Calls PyProof.Rows PySem.SeqAt
set_option linter.unusedVariables false
set_option maxRecDepth 100000
set_option maxHeartbeats 4000000
namespace Mine
def st0 : Stmt := .Pass ⟨0, 0, 0, 0⟩
noncomputable def turnB (P : Params) : List Stmt := by
  refine lit (x := ?x) ?h
  case h =>
    have e : bodyOf ((bodyOf ((lawB P).getD 10 st0)).getD 0 st0) = ?x := by
      conv => lhs; whnf
    exact rfl
noncomputable def br1 (P : Params) : List Stmt := by
  refine lit (x := ?x) ?h
  case h =>
    have e : bodyOf ((turnB P).getD 4 st0) = ?x := by
      conv => lhs; whnf
    exact rfl
noncomputable def br2 (P : Params) : List Stmt := by
  refine lit (x := ?x) ?h
  case h =>
    have e : bodyOf ((elseOf ((turnB P).getD 4 st0)).getD 0 st0) = ?x := by
      conv => lhs; whnf
    exact rfl
noncomputable def br3 (P : Params) : List Stmt := by
  refine lit (x := ?x) ?h
  case h =>
    have e : bodyOf ((elseOf ((elseOf ((turnB P).getD 4 st0)).getD 0 st0)).getD 0 st0) = ?x := by
      conv => lhs; whnf
    exact rfl
noncomputable def br4 (P : Params) : List Stmt := by
  refine lit (x := ?x) ?h
  case h =>
    have e : elseOf ((elseOf ((elseOf ((turnB P).getD 4 st0)).getD 0 st0)).getD 0 st0) = ?x := by
      conv => lhs; whnf
    exact rfl
theorem st_upd {v n : Nat → Nat} {pls pls' : List Pl} {lates lates' : List Int} {γs γs' : List Nat} {k : Nat}
    (st : ∀ j (hj : j < pls.length) (hg : j < γs.length), SKp (v j) (n j) ((j : Int) ∈ lates) pls[j].ps γs[j] pls[j].W pls[j].σ.abs)
    (hp : ∀ j, j ≠ k → pls'[j]? = pls[j]?) (hg : ∀ j, j ≠ k → γs'[j]? = γs[j]?) (hl : ∀ j : Nat, j ≠ k → ((j : Int) ∈ lates' ↔ (j : Int) ∈ lates))
    (new : ∀ (hj : k < pls'.length) (hg : k < γs'.length), SKp (v k) (n k + 1) ((k : Int) ∈ lates') pls'[k].ps γs'[k] pls'[k].W pls'[k].σ.abs) :
    ∀ j (hj : j < pls'.length) (hg : j < γs'.length), SKp (v j) (bump n k j) ((j : Int) ∈ lates') pls'[j].ps γs'[j] pls'[j].W pls'[j].σ.abs := fun j hj hg' => by
  by_cases q : j = k
  · subst q
    have : bump n j j = n j + 1 := if_pos rfl
    rw [this]; exact new hj hg'
  · have e1 := hp j q
    have e2 := hg j q
    rw [List.getElem?_eq_getElem hj] at e1
    rw [List.getElem?_eq_getElem hg'] at e2
    obtain ⟨j1, e1⟩ := List.getElem?_eq_some_iff.mp e1.symm
    obtain ⟨j2, e2⟩ := List.getElem?_eq_some_iff.mp e2.symm
    have : bump n k j = n j := if_neg q
    have o := st j j1 j2
    rw [e1, e2] at o
    rw [this, propext (hl j q)]
    exact o
theorem set_other {α : Type} {xs : List α} {k : Nat} {a : α} : ∀ j, j ≠ k → (xs.set k a)[j]? = xs[j]? := fun j q => List.getElem?_set_ne (Ne.symm q)
theorem Srt.rd_some {σ : Srt} {R : List Int} (h : σ.abs.rd = some R) : ∃ a, σ.rd = some (a, R) := by
  unfold Srt.abs at h
  simp only [Option.map_eq_some_iff] at h
  obtain ⟨⟨a, R'⟩, h1, h2⟩ := h
  exact ⟨a, by rw [h1]; simp at h2; rw [h2]⟩
section
variable {g : G} {F F' : Fm} {m : Loc} {H : AH} {X : Value → List V → Loc → AH → Prop} {Q : Fl → Loc → AH → Prop} {B : List (Addr × O)}
  {z : Nat} {v n : Nat → Nat} {pss : List (List (Int × Int))} {hs : List (Addr × List (Int × Int))} {sl hl lt da li le wl gr : Addr} {C0 : List (Addr × O)} {pls : List Pl} {lates : List Int} {rest : List Nat} {γs : List Nat} {k : Nat}
theorem Lp.len (L : Lp z v pss sl wl lt li le gr C0 pls lates rest n γs H) (c : Lc z v pss hs hl da C0) : pls.length = z := by rw [L.T.len, List.length_map, c.p1]
theorem Lp.ps (L : Lp z v pss sl wl lt li le gr C0 pls lates rest n γs H) (c : Lc z v pss hs hl da C0) {k : Nat} (hk : k < pls.length) : GoodQ pls[k].ps := by
  have h := congrArg (fun l => l[k]?) L.T.qs
  simp only [List.getElem?_map] at h
  rw [List.getElem?_eq_getElem hk] at h
  have hk' : k < pss.length := by rw [c.p1, ← L.len c]; exact hk
  rw [List.getElem?_eq_getElem hk'] at h
  have e : pls[k].ps = pss[k] := congrArg Prod.snd (Option.some.inj h)
  rw [e]
  exact c.p2 _ (List.getElem_mem hk')
theorem Lp.srt (L : Lp z v pss sl wl lt li le gr C0 pls lates rest n γs H) : H sl = some (.list (pls.map fun p => .ref p.σ.x)) := L.T.get (.tail _ (.tail _ (.tail _ (.tail _ L.sr))))
theorem way1 (D : Gd g) (hF : FrameOf F' F (lawS g.w.params)) (lv : F'.lvl < 40) (hh : F.A.handled = none) (c : Lc z v pss hs hl da C0) (L : Lp z v pss sl wl lt li le gr C0 pls lates rest n γs H) (N : NmB sl hl lt da li le wl gr m) (hk : k < z) (mk : m "k" = some (.int (k : Int))) (hlt : (k : Int) ∈ lates)
    (h : ∀ pls lates H, Lp z v pss sl wl lt li le gr C0 pls lates rest (bump n k) γs H → n k + 1 < v k → Q .next m H) : WS g F' (execs (br1 g.w.params) F'.env) m H Q X := by
  have hkp : k < pls.length := by rw [L.len c]; exact hk
  have hkg : k < γs.length := by rw [L.gl]; exact hk
  have k9 : k < 1000 := Nat.lt_of_lt_of_le hk (Nat.le_trans c.hz.2 (by decide))
  have hps := L.ps c hkp
  obtain ⟨e1, e2, e3, e4⟩ : pls[k].σ.abs = told 4 pls[k].ps ∧ pls[k].W = [] ∧ γs[k] = 0 ∧ v k = n k + 2 + tv pls[k].ps 0 := by
    rcases L.st k hkp hkg with x | x | x
    · exact x.2
    · exact absurd hlt x.1
    · exact absurd hlt x.1
  obtain ⟨t1, t2, t3, t4⟩ := told_srt (by decide) hps.1 hps.2 e1
  have trd : pls[k].σ.rd = none := Srt.rd_none (by rw [e1]; exact (told_ok 4 pls[k].ps).2.2)
  refine s_cons (s_expr <| e_meth <| e_name N.late ⟨_, meth_list (.own (L.T.get (.head _))) PySem.F.slot_list_remove PySem.F.type_list_remove, cw_plain (.blt _) <| l_cons <| e_name mk <| l_nil <| c_remove (L.T.get (.head _)) (Nat.le_trans L.ln.2 (by decide)) hlt ?_⟩)
  have T1 := Tg.cset (Z1 := []) L.T (.list (nums (lates.erase (k : Int)))) (.tail _ (.tail _ (.tail _ L.sr)))
  refine s_cons (s_expr <| e_call <| e_glob (hF.glo rfl) (D.nb rfl) (fun _ => .cst' _) ⟨_, rfl, cw_plain (D.kp rfl) <| l_cons <| e_sub <| e_name N.sorters <| e_name mk <| gi_itemK (.own (T1.get (.tail _ (.tail _ (.tail _ (.tail _ L.sr)))))) k9 (ref_at (·.σ.x) hkp) <| l_nil <| WCode.call <| prep2_spec D (Nat.lt_trans lv (by decide)) (hF.hh hh) (T1.foc hkp) t4 t1 t2 trd t3 fun σ' H2 ex ea s3 => s_nil ?_⟩)
  have T2 := T1.put hkp (p := { pls[k] with σ := σ' }) rfl rfl ex rfl s3
  have hs2 : n k + 1 < v k := by rw [e4]; omega
  refine h (pls.set k { pls[k] with σ := σ' }) (lates.erase (k : Int)) H2 ⟨?_, ?_, L.gl, ⟨L.ln.1.erase _, Nat.le_trans List.length_erase_le L.ln.2⟩, L.ll, st_upd L.st set_other (fun _ _ => rfl) (fun j hj => List.mem_erase_of_ne (fun q => hj (Int.ofNat.inj q))) fun hj hg => ?_⟩ hs2
  · rw [lefts_stay hs2]; exact T2
  · rw [map_set_same (fun p : Pl => V.ref p.σ.x) (p := { pls[k] with σ := σ' }) hkp (by rw [ex])]; exact L.sr
  · rw [List.getElem_set_self]
    refine .inr (.inr ⟨fun q => (List.Nodup.mem_erase_iff L.ln.1).mp q |>.1 rfl, ?_, ?_⟩)
    · show Stg pls[k].ps γs[k] pls[k].W σ'.abs
      rw [e2, e3, ea, e1]
      exact stg_start hps.2 (by rw [← e1]; rfl)
    · show v k = n k + 1 + 1 + pls[k].W.length + tv pls[k].ps γs[k]
      rw [e2, e3, e4]; show _ = n k + 1 + 1 + 0 + _; omega
end
end Mine
end
section
open PySem PySem.W PySem.Calls PyProof.Rows PySem.SeqAt
set_option linter.unusedVariables false
set_option maxRecDepth 100000
set_option maxHeartbeats 4000000
namespace Mine
theorem m_done (p : Params) : MethD (Mine.kx.heap_1 p) 137 "done" 120 := ⟨rfl, rfl, rfl⟩
theorem m_get (p : Params) : MethD (Mine.kx.heap_1 p) 137 "get_ready" 99 := ⟨rfl, rfl, rfl⟩
theorem grp_sorted {ps : List (Int × Int)} {h : Int} {ms R : List Int} (h1 : ms.Perm R) (h2 : ms.Pairwise (· ≤ ·)) (h3 : R.Perm (grp ps h)) : ms = grp ps h :=
  (h1.trans h3).eq_of_pairwise (fun a b _ _ x y => Int.le_antisymm x y) h2 (((nms_lt 4).filter _).imp fun x => Int.le_of_lt x)
theorem hts_get {ps : List (Int × Int)} {n : Int} (hn : n ∈ nms 4) : (nums (hts ps 4))[n.toNat]? = some (.int (hgt ps 4 n)) := by
  obtain ⟨h0, h1⟩ := mem_nms.mp hn
  refine ints_get ?_
  unfold hts nms
  have : n.toNat < 4 := by omega
  rw [List.getElem?_map, List.getElem?_map, List.getElem?_range this]
  show some (hgt ps 4 (n.toNat : Int)) = _
  rw [Int.toNat_of_nonneg h0]
section
variable {g : G} {F F' : Fm} {m : Loc} {H : AH} {X : Value → List V → Loc → AH → Prop} {Q : Fl → Loc → AH → Prop} {B : List (Addr × O)}
  {z : Nat} {v n : Nat → Nat} {pss : List (List (Int × Int))} {hs : List (Addr × List (Int × Int))} {sl hl lt da li le wl gr : Addr} {C0 : List (Addr × O)} {pls : List Pl} {lates : List Int} {rest : List Nat} {γs : List Nat} {k : Nat}
theorem way4 (D : Gd g) (hF : FrameOf F' F (lawS g.w.params)) (c : Lc z v pss hs hl da C0) (L : Lp z v pss sl wl lt li le gr C0 pls lates rest n γs H) (N : NmB sl hl lt da li le wl gr m) (hk : k < z) (mk : m "k" = some (.int (k : Int))) {i : Nat} (mv : m "visit" = some (.int (1 + (i : Int)))) (hlt : (k : Int) ∉ lates)
    (hv : n k + 1 = v k) (hd : due z v k = i + 1)
    (h : ∀ H, Lp z v pss sl wl lt li le gr C0 pls lates rest (bump n k) γs H → Q .next m H) : WS g F' (execs (br4 g.w.params) F'.env) m H Q X := by
  have z9 : z ≤ 1000 := Nat.le_trans c.hz.2 (by decide)
  have hlen : (nums (lefts z v n)).length = z := by rw [ints_length, lefts_len]
  refine s_cons (s_assign1 rfl rfl rfl (e_name mv <| a_sub <| e_name N.left <| e_name mk <| o_setK (L.T.get (.tail _ (.tail _ (.head _)))) (by rw [hlen]; exact hk) (by rw [hlen]; exact z9) <| s_nil ?_))
  have T1 := Tg.cset (Z1 := [_, _]) L.T (.list ((nums (lefts z v n)).set k (.int (1 + (i : Int))))) (.tail _ L.sr)
  rw [setI, show (1 + (i : Int)) = (due z v k : Int) by rw [hd]; omega, lefts_go hv hk] at T1
  rw [setI, show (1 + (i : Int)) = (due z v k : Int) by rw [hd]; omega, lefts_go hv hk]
  exact h _ ⟨T1, L.sr, L.gl, L.ln, L.ll, st_upd L.st (fun _ _ => rfl) (fun _ _ => rfl) (fun _ _ => Iff.rfl) fun hj hg => .inr (.inl ⟨hlt, hv⟩)⟩
theorem way3 (D : Gd g) (hF : FrameOf F' F (lawS g.w.params)) (lv : F'.lvl < 40) (hh : F.A.handled = none) (c : Lc z v pss hs hl da C0) (L : Lp z v pss sl wl lt li le gr C0 pls lates rest n γs H) (N : NmB sl hl lt da li le wl gr m) (hk : k < z) (mk : m "k" = some (.int (k : Int))) (hlt : (k : Int) ∉ lates) (hkp : k < pls.length) (hkg : k < γs.length)
    {a : Int} {W : List Int} (hW : pls[k].W = a :: W) (S : Stg pls[k].ps γs[k] pls[k].W pls[k].σ.abs) (hv : v k = n k + 1 + pls[k].W.length + tv pls[k].ps γs[k])
    (h : ∀ pls H, Lp z v pss sl wl lt li le gr C0 pls lates rest (bump n k) γs H → n k + 1 < v k → Q .next m H) : WS g F' (execs (br3 g.w.params) F'.env) m H Q X := by
  have k9 : k < 1000 := Nat.lt_of_lt_of_le hk (Nat.le_trans c.hz.2 (by decide))
  have hps := L.ps c hkp
  have M := m_done g.w.params
  rw [← D.K] at M
  rw [hW] at S hv
  obtain ⟨e, R, x⟩ := S.ex
  obtain ⟨ok, S'⟩ := stg_done hps.2 S
  obtain ⟨ra, hra⟩ := Srt.rd_some x.I.rd
  have hl := x.I.len
  have sf := L.T.foc hkp
  have hw : H pls[k].wa = some (.list (nums (a :: W))) := by rw [← hW]; exact L.T.wa hkp
  have sg := Sat.mid (A := pls[k].σ.lay) sf (.list (nums W))
  refine s_cons (s_expr <| e_meth <| e_sub <| e_name N.sorters <| e_name mk <| gi_itemK (.own L.srt) k9 (ref_at (·.σ.x) hkp) ⟨_, meth_inst M (Srt.inst sf) (Srt.ns sf) rfl, cw_plain (D.kp rfl) <| l_cons <| e_meth <| e_sub <| e_name N.waits <| e_name mk <| gi_itemK (.own L.T.wts) k9 (ref_at (·.wa) hkp) ⟨_, meth_list (.own hw) PySem.F.slot_list_pop PySem.F.type_list_pop, cw_plain (.blt _) <| l_cons <| e_int <| l_nil <| c_pop0 (xs := nums W) (x := .int a) hw ?_ <| l_nil <| WCode.call <| done_spec (ns := [a]) D (Nat.lt_trans lv (by decide)) (hF.hh hh) (Nat.le_of_ble_eq_true rfl) sg ?_ (x.I.fits (by decide) hps.1) hra (Nat.le_trans (Nat.le_trans (Nat.le_add_left _ _) hl) (by decide)) ok fun σ' H2 ex ea s3 => s_nil ?_⟩⟩)
  · rw [ints_length]
    have : W.length + 1 + R.length ≤ 4 := hl
    omega
  · rw [x.I.names]; exact nms_nodup 4
  have T2 := L.T.put hkp (p := { pls[k] with σ := σ', W := W }) rfl rfl ex rfl s3
  have hs2 : n k + 1 < v k := by rw [hv, List.length_cons]; omega
  refine h (pls.set k { pls[k] with σ := σ', W := W }) H2 ⟨?_, ?_, L.gl, L.ln, L.ll, st_upd L.st set_other (fun _ _ => rfl) (fun _ _ => Iff.rfl) fun hj hg => ?_⟩ hs2
  · rw [lefts_stay hs2]; exact T2
  · rw [map_set_same (fun p : Pl => V.ref p.σ.x) (p := { pls[k] with σ := σ', W := W }) hkp (by rw [ex])]; exact L.sr
  · rw [List.getElem_set_self]
    refine .inr (.inr ⟨hlt, ?_, ?_⟩)
    · show Stg pls[k].ps γs[k] W σ'.abs
      rw [ea]; exact S'
    · show v k = n k + 1 + 1 + W.length + tv pls[k].ps γs[k]
      rw [hv, List.length_cons]; omega
end
end Mine
end
section
open PySem PySem.W PySem.Calls PyProof.Rows PySem.SeqAt
set_option linter.unusedVariables false
set_option maxRecDepth 100000
set_option maxHeartbeats 4000000
namespace Mine
section
variable {g : G} {F F' : Fm} {m : Loc} {H : AH} {X : Value → List V → Loc → AH → Prop} {Q : Fl → Loc → AH → Prop} {B : List (Addr × O)}
  {z : Nat} {v n : Nat → Nat} {pss : List (List (Int × Int))} {hs : List (Addr × List (Int × Int))} {sl hl lt da li le wl gr : Addr} {C0 : List (Addr × O)} {pls : List Pl} {lates : List Int} {rest : List Nat} {γs : List Nat} {k : Nat}
theorem way2 (D : Gd g) (hF : FrameOf F' F (lawS g.w.params)) (lv : F'.lvl < 40) (hh : F.A.handled = none) (c : Lc z v pss hs hl da C0) (L : Lp z v pss sl wl lt li le gr C0 pls lates rest n γs H) (N : NmB sl hl lt da li le wl gr m) (hk : k < z) (mk : m "k" = some (.int (k : Int))) (hlt : (k : Int) ∉ lates) (hkp : k < pls.length) (hkg : k < γs.length)
    (hW : pls[k].W = []) (S : Stg pls[k].ps γs[k] pls[k].W pls[k].σ.abs) (ha : actB pls[k].σ = true) (hv : v k = n k + 1 + pls[k].W.length + tv pls[k].ps γs[k])
    (h : ∀ pls γs H, Lp z v pss sl wl lt li le gr C0 pls lates rest (bump n k) γs H → n k + 1 < v k → Q .next m H) : WS g F' (execs (br2 g.w.params) F'.env) m H Q X := by
  have z9 : z ≤ 1000 := Nat.le_trans c.hz.2 (by decide)
  have k9 : k < 1000 := Nat.lt_of_lt_of_le hk z9
  have hps := L.ps c hkp
  have M := m_get g.w.params
  rw [← D.K] at M
  rw [hW] at S hv
  obtain ⟨e, R, x⟩ := S.ex
  obtain ⟨ra, hra⟩ := Srt.rd_some x.I.rd
  have act : (!(free 4 e pls[k].ps).isEmpty) = true := by
    rw [← act_inv x.I]
    unfold actB at ha
    rw [hra] at ha
    exact ha
  obtain ⟨S', hp, htv⟩ := stg_get hps.2 S x act
  have hlen := x.I.len
  have hR : R.length ≤ 4 := Nat.le_trans (Nat.le_add_left _ _) hlen
  have hR9 : R.length ≤ 1000 := Nat.le_trans hR (by decide)
  have sf := L.T.foc hkp
  refine s_cons (s_assign1 rfl rfl rfl (e_call <| e_blt (hF.glo rfl) (D.nb rfl) D.list ⟨_, rfl, cw_plain (.type _) <| l_cons <| e_meth <| e_sub <| e_name N.sorters <| e_name mk <| gi_itemK (.own L.srt) k9 (ref_at (·.σ.x) hkp) ⟨_, meth_inst M (Srt.inst sf) (Srt.ns sf) rfl, cw_plain (D.kp rfl) <| l_nil <| WCode.call <| get_ready_spec D (Nat.lt_trans lv (by decide)) (hF.hh hh) sf (by rw [x.I.names]; exact nms_nodup 4) ?_⟩⟩))
  rw [hra]
  refine ⟨Nat.lt_of_le_of_lt hR (by decide), x.I.inR, fun σ' H2 ex ea s3 => ?_⟩
  have T1 := L.T.put hkp (p := { pls[k] with σ := σ' }) rfl rfl ex rfl s3
  have hkp1 : k < (pls.set k { pls[k] with σ := σ' }).length := by rw [List.length_set]; exact hkp
  have em : ((pls.set k { pls[k] with σ := σ' }).map fun p => V.ref p.wa) = pls.map fun p => V.ref p.wa := map_set_same (fun p : Pl => V.ref p.wa) (p := { pls[k] with σ := σ' }) hkp rfl
  refine l_nil <| c_listof ⟨nums_fit hR9, .inl rfl⟩ fun na hna => a_sub <| e_name N.waits <| e_name mk <| o_setK (Sat.get (T1.alloc (o := .list (nums R)) hna).sat (.head _)) (by rw [List.length_map]; exact hkp1) (by rw [List.length_map, List.length_set, L.len c]; exact z9) ?_
  have T2 := T1.swap hkp1 (na := na) (W' := R) hna
  have e1 : (pls.set k { pls[k] with σ := σ' })[k] = { pls[k] with σ := σ' } := List.getElem_set_self ..
  have e2 : ((pls.set k { pls[k] with σ := σ' }).set k { (pls.set k { pls[k] with σ := σ' })[k] with wa := na, W := R }) = pls.set k { pls[k] with σ := σ', wa := na, W := R } := by rw [e1, List.set_set]
  have sr1 : (sl, O.list ((pls.set k { pls[k] with σ := σ', wa := na, W := R }).map fun p => .ref p.σ.x)) ∈ C0 := by
    rw [map_set_same (fun p : Pl => V.ref p.σ.x) (p := { pls[k] with σ := σ', wa := na, W := R }) hkp (by rw [ex])]; exact L.sr
  rw [e2] at T2
  have T3 := T2.drop (Z := [_]) (.tail _ (.tail _ (.tail _ (.tail _ sr1))))
  have hkp3 : k < (pls.set k { pls[k] with σ := σ', wa := na, W := R }).length := by rw [List.length_set]; exact hkp
  have e3 : (pls.set k { pls[k] with σ := σ', wa := na, W := R })[k] = { pls[k] with σ := σ', wa := na, W := R } := List.getElem_set_self ..
  generalize hpl : pls.set k { pls[k] with σ := σ', wa := na, W := R } = pls3 at T3 sr1 hkp3 e3
  generalize put (put H2 na (O.list (nums R))) wl (O.list (((pls.set k { pls[k] with σ := σ' }).map fun p => V.ref p.wa).set k (.ref na))) = H3 at T3 ⊢
  have hkh : k < hs.length := by have := congrArg List.length c.h1; rw [List.length_map] at this; rw [this, c.p1]; exact hk
  have ehs : hs[k].2 = pls[k].ps := by
    have q1 := congrArg (fun l => l[k]?) L.T.qs
    simp only [List.getElem?_map] at q1
    rw [List.getElem?_eq_getElem hkp, ← c.h1, List.getElem?_map, List.getElem?_eq_getElem hkh] at q1
    exact (congrArg Prod.snd (Option.some.inj q1)).symm
  refine s_cons (s_if <| t_cmp rfl <| e_call <| e_blt (hF.glo rfl) (D.nb rfl) D.sorted ⟨_, rfl, cw_plain (.blt _) <| l_cons <| e_sub <| e_name N.waits <| e_name mk <| gi_itemK (.own T3.wts) k9 (ref_at (·.wa) hkp3) <| l_nil <| c_sorted (ns := R) (.own (by rw [T3.wa hkp3, e3])) (Nat.lt_of_le_of_lt hR (by decide)) fun so ms hp1 hp2 hso => ?_⟩)
  obtain rfl : ms = grp pls[k].ps γs[k] := grp_sorted hp1 hp2 hp
  have T4 := T3.alloc (o := .list (nums (grp pls[k].ps γs[k]))) hso
  refine e_comp (CompHead.of hF rfl rfl) (fun _ => rfl) (hF.hh hh) hF.st (fun Fc acc it => turn_one ..) <| e_call <| e_blt (hF.glo rfl) (D.nb rfl) D.range ⟨_, rfl, cw_plain (.type _) <| l_cons <| e_int <| l_nil <| c_range1 ?_⟩
  have hgk : (nums (γs.map Int.ofNat))[k]? = some (.int (γs[k] : Int)) := ints_get (by rw [List.getElem?_map, List.getElem?_eq_getElem hkg]; rfl)
  refine w0_filter (fun n => hgt pls[k].ps 4 n == (γs[k] : Int)) (it_rng (z := 4) (by decide)) (fun i h => nms4_get h) trivial (by decide) rfl (by decide) (fun Fc hC n hn m' sees hx => t_cmp rfl <| e_sub <| e_sub <| e_name ((sees _ rfl).trans N.heights) <| e_name ((sees _ rfl).trans mk) <| gi_itemK (.own (T4.get (.tail _ (.tail _ (.tail _ (.tail _ (.tail _ c.hH))))))) k9 (ref_at (·.1) hkh) <| e_name hx <| gi_list (.own (T4.get (.tail _ (.tail _ (.tail _ (.tail _ (.tail _ (c.hK _ (List.getElem_mem hkh))))))))) <| o_item (.own (T4.get (.tail _ (.tail _ (.tail _ (.tail _ (.tail _ (c.hK _ (List.getElem_mem hkh))))))))) (mem_nms.mp hn).1 (Int.lt_trans (mem_nms.mp hn).2 (by decide)) (by rw [ehs]; exact hts_get hn) <| e_sub <| e_name ((sees _ rfl).trans N.groups) <| e_name ((sees _ rfl).trans mk) <| gi_itemK (.own (T4.get (.tail _ (.tail _ (.tail _ (.tail _ (.head _))))))) k9 hgk <| o_eqi <| tr_bool ⟨rfl, rfl, rfl⟩) fun b hb => ?_
  have T5 := T4.alloc (o := .list (nums (grp pls[k].ps γs[k]))) hb
  refine o_neL (.own (T5.get (.tail _ (.head _)))) (.own (T5.get (.head _))) (dats_ints _) (dats_ints _) (deps_le _) (tr_bool ?_)
  rw [veqs_ints, beq_self_eq_true]
  refine s_nil ?_
  have T6 := T5.drop (Z := [_, _]) (.tail _ (.tail _ (.tail _ (.tail _ sr1))))
  have hgl : (nums (γs.map Int.ofNat)).length = z := by rw [ints_length, List.length_map, L.gl]
  refine s_cons (s_augsub <| e_name N.groups <| e_name mk <| o_itemK (.own (T6.get (.tail _ (.tail _ (.tail _ (.head _)))))) k9 hgk <| e_int <| o_iadd <| o_setK (T6.get (.tail _ (.tail _ (.tail _ (.head _))))) (by rw [hgl]; exact hk) (by rw [hgl]; exact z9) <| s_nil ?_)
  have T7 := Tg.cset (Z1 := [_, _, _]) T6 (.list ((nums (γs.map Int.ofNat)).set k (.int ((γs[k] : Int) + 1)))) sr1
  have eg : (nums (γs.map Int.ofNat)).set k (.int ((γs[k] : Int) + 1)) = nums ((γs.set k (γs[k] + 1)).map Int.ofNat) := by rw [setI, List.map_set]; rfl
  rw [eg] at T7
  rw [eg]
  have hs2 : n k + 1 < v k := by rw [hv, htv]; omega
  refine h pls3 (γs.set k (γs[k] + 1)) _ ⟨?_, sr1, by rw [List.length_set]; exact L.gl, L.ln, L.ll, st_upd L.st (by rw [← hpl]; exact set_other) set_other (fun _ _ => Iff.rfl) fun hj hg => ?_⟩ hs2
  · rw [lefts_stay hs2]; exact T7
  · rw [e3, List.getElem_set_self]
    refine .inr (.inr ⟨hlt, ?_, ?_⟩)
    · show Stg pls[k].ps (γs[k] + 1) R σ'.abs
      rw [ea]; exact S'
    · show v k = n k + 1 + 1 + R.length + tv pls[k].ps (γs[k] + 1)
      rw [hv, htv]; show n k + 1 + 0 + _ = _; omega
end
end Mine
end
section
open PySem PySem.W PySem.Calls PyProof.Rows PySem.SeqAt
set_option linter.unusedVariables false
set_option maxRecDepth 100000
set_option maxHeartbeats 4000000
namespace Mine
theorem veqs_nil (ns : List Int) : veqs (nums ns) [] = ns.isEmpty := by
  have := veqs_ints ns []
  unfold nums at this ⊢
  rw [List.map_nil] at this
  rw [this]
  cases ns <;> rfl
section
variable {g : G} {F F' : Fm} {m : Loc} {H : AH} {X : Value → List V → Loc → AH → Prop} {Q : Fl → Loc → AH → Prop} {B : List (Addr × O)}
  {z : Nat} {v n : Nat → Nat} {pss : List (List (Int × Int))} {hs : List (Addr × List (Int × Int))} {sl hl lt da li le wl gr : Addr} {C0 : List (Addr × O)} {pls : List Pl} {lates : List Int} {rest : List Nat} {γs : List Nat} {k : Nat}
theorem tail5 (D : Gd g) (hF : FrameOf F' F (lawS g.w.params)) (c : Lc z v pss hs hl da C0) (L : Lp z v pss sl wl lt li le gr C0 pls lates rest (bump n k) γs H) (S : Sch z v n (k :: rest)) (N : NmB sl hl lt da li le wl gr m) (mk : m "k" = some (.int (k : Int)))
    (h : ∀ H, Lp z v pss sl wl lt li le gr C0 pls lates (rest ++ if n k + 1 < v k then [k] else []) (bump n k) γs H → Q .next m H) : WS g F' (execs ((turnB g.w.params).drop 5) F'.env) m H Q X := by
  obtain ⟨hk, hn, S', ht, hd⟩ := S.pop
  have k9 : k < 1000 := Nat.lt_of_lt_of_le hk (Nat.le_trans c.hz.2 (by decide))
  have hb : bump n k k = n k + 1 := if_pos rfl
  refine s_cons (s_if <| t_cmp rfl <| e_sub <| e_name N.left <| e_name mk <| gi_itemK (.own (L.T.get (.tail _ (.tail _ (.head _))))) k9 (ints_get (lefts_get hk)) <| e_int <| o_eqi <| tr_bool ?_)
  rw [hb]
  by_cases q : n k + 1 < v k
  · rw [if_neg (Nat.ne_of_lt q), if_pos (show ((0 : Int) == 0) = true from rfl)]
    rw [if_pos q] at h
    refine s_cons (s_expr <| e_meth <| e_name N.line ⟨_, meth_list (.own (L.T.get (.tail _ (.head _)))) PySem.F.slot_list_append PySem.F.type_list_append, cw_plain (.blt _) <| l_cons <| e_name mk <| l_nil <| c_append (L.T.get (.tail _ (.head _))) (by rw [ints_length, List.length_map]; exact Nat.le_trans L.ll (by decide)) <| s_nil <| s_nil ?_⟩)
    have T1 := Tg.cset (Z1 := [_]) L.T (.list (nums (rest.map Int.ofNat) ++ [.int (k : Int)])) (.tail _ (.tail _ L.sr))
    have e : nums (rest.map Int.ofNat) ++ [V.int (k : Int)] = nums ((rest ++ [k]).map Int.ofNat) := by rw [List.map_append]; unfold nums; rw [List.map_append]; rfl
    rw [e] at T1
    rw [e]
    refine h _ ⟨T1, L.sr, L.gl, L.ln, ?_, L.st⟩
    rw [if_pos q] at S'
    have : (rest ++ [k]).Nodup := S'.O.imp fun x q => by subst q; omega
    have hl : (rest ++ [k]).length ≤ (List.range z).length := this.length_le_of_subset fun j hj => List.mem_range.mpr ((S'.M j).mp hj).1
    rw [List.length_range] at hl
    exact Nat.le_trans hl c.hz.2
  · have e : n k + 1 = v k := Nat.le_antisymm hn (Nat.le_of_not_lt q)
    rw [if_pos e, hd e]
    rw [if_neg (by simp; omega)]
    rw [if_neg q, List.append_nil] at h
    exact s_nil (s_nil (h H L))
theorem Lp.re {H' : AH} (L : Lp z v pss sl wl lt li le gr C0 pls lates rest n γs H) (hkp : k < pls.length) (s : Sat H' (pls[k].σ.lay ++ ((pls[k].wa, .list (nums pls[k].W)) :: (wl, .list (pls.map fun p => .ref p.wa)) :: (lays (pls.eraseIdx k) ++ ((lt, .list (nums lates)) :: (li, .list (nums (rest.map Int.ofNat))) :: (le, .list (nums (lefts z v n))) :: (gr, .list (nums (γs.map Int.ofNat))) :: C0))))) : Lp z v pss sl wl lt li le gr C0 pls lates rest n γs H' := by
  have T := L.T.put hkp (p := pls[k]) rfl rfl rfl rfl s
  rw [List.set_getElem_self] at T
  exact ⟨T, L.sr, L.gl, L.ln, L.ll, L.st⟩
theorem NmB.off (N : NmB sl hl lt da li le wl gr m) {m' : Loc} (h : ∀ x, (["sorters", "heights", "late", "due", "line", "left", "waits", "groups"] : List Str).contains x = true → m' x = m x) : NmB sl hl lt da li le wl gr m' :=
  ⟨(h _ (by decide)).trans N.sorters, (h _ (by decide)).trans N.heights, (h _ (by decide)).trans N.late, (h _ (by decide)).trans N.due, (h _ (by decide)).trans N.line, (h _ (by decide)).trans N.left, (h _ (by decide)).trans N.waits, (h _ (by decide)).trans N.groups⟩
theorem ways (D : Gd g) (hF : FrameOf F' F (lawS g.w.params)) (lv : F'.lvl < 40) (hh : F.A.handled = none) (c : Lc z v pss hs hl da C0) (L : Lp z v pss sl wl lt li le gr C0 pls lates rest n γs H) (S : Sch z v n (k :: rest)) (N : NmB sl hl lt da li le wl gr m) (mk : m "k" = some (.int (k : Int))) {i : Nat} (mv : m "visit" = some (.int (1 + (i : Int)))) (hi : tot z n = i) (hkp : k < pls.length) {av : V} (ma : m "active" = some av) (hav : av = if (k : Int) ∈ lates then .none else .bool (actB pls[k].σ))
    (h : ∀ pls lates γs H, Lp z v pss sl wl lt li le gr C0 pls lates rest (bump n k) γs H → WS g F' (execs ((turnB g.w.params).drop 5) F'.env) m H Q X) : WS g F' (execs ((turnB g.w.params).drop 4) F'.env) m H Q X := by
  obtain ⟨hk, hn, S', ht, hd⟩ := S.pop
  have hkg : k < γs.length := by rw [L.gl]; exact hk
  have k9 : k < 1000 := Nat.lt_of_lt_of_le hk (Nat.le_trans c.hz.2 (by decide))
  by_cases hlt : (k : Int) ∈ lates
  · rw [if_pos hlt] at hav; subst hav
    refine s_cons (s_if <| t_cmp rfl <| e_name ma <| e_none <| o_isn (by intro w q; cases q) <| tr_bool ?_)
    rw [if_pos (show isNone .none = true from rfl)]
    exact way1 D hF lv hh c L N hk mk hlt fun pls lates H L' _ => h pls lates γs H L'
  · rw [if_neg hlt] at hav; subst hav
    refine s_cons (s_if <| t_cmp rfl <| e_name ma <| e_none <| o_isn (by intro w q; cases q) <| tr_bool ?_)
    rw [if_neg (by intro q; cases q)]
    have hps := L.ps c hkp
    obtain ⟨St', hv⟩ : Stg pls[k].ps γs[k] pls[k].W pls[k].σ.abs ∧ v k = n k + 1 + pls[k].W.length + tv pls[k].ps γs[k] := by
      rcases L.st k hkp hkg with x | x | x
      · exact absurd x.1 hlt
      · exact absurd x.2 (Nat.ne_of_lt hn)
      · exact x.2
    refine s_cons (s_if <| t_bool <| t_and <| t_val <| e_name ma <| tr_bool ?_)
    by_cases ha : actB pls[k].σ = true
    · rw [if_pos ha]
      refine t_and <| t_cmp rfl <| e_sub <| e_name N.waits <| e_name mk <| gi_itemK (.own L.T.wts) k9 (ref_at (·.wa) hkp) <| e_list <| l_nil ⟨by decide, fun a0 ha0 => ?_⟩
      have T1 := L.T.alloc (o := .list []) ha0
      have L1 : Lp z v pss sl wl lt li le gr C0 pls lates rest n γs (put H a0 (.list [])) := ⟨T1.drop (Z := [_]) (.tail _ (.tail _ (.tail _ (.tail _ L.sr)))), L.sr, L.gl, L.ln, L.ll, L.st⟩
      refine o_eqL (.own (T1.wa hkp)) (.own (T1.get (.head _))) (dats_ints _) (by unfold dats; rfl) (deps_le _) <| tr_bool ?_
      have ev : veqs (nums pls[k].W) [] = pls[k].W.isEmpty := veqs_nil _
      rw [ev]
      cases hW : pls[k].W with
      | nil =>
        rw [if_pos (show ([] : List Int).isEmpty = true from rfl)]
        refine t_and_nil ?_
        rw [if_pos (show true = true from rfl)]
        exact way2 D hF lv hh c L1 N hk mk hlt hkp hkg hW St' ha hv fun pls γs H L' _ => s_nil (h pls lates γs H L')
      | cons a W =>
        rw [if_neg (by intro q; cases q), if_neg (by intro q; cases q)]
        refine s_cons (s_if <| t_val <| e_name ma <| tr_bool ?_)
        rw [if_pos ha]
        exact way3 D hF lv hh c L1 N hk mk hlt hkp hkg hW St' hv fun pls H L' _ => s_nil (s_nil (h pls lates γs H L'))
    · rw [if_neg ha, if_neg (by intro q; cases q)]
      refine s_cons (s_if <| t_val <| e_name ma <| tr_bool ?_)
      rw [if_neg ha]
      obtain ⟨e, R, x⟩ := St'.ex
      obtain ⟨ra, hra⟩ := Srt.rd_some x.I.rd
      have act : (!(free 4 e pls[k].ps).isEmpty) = false := by
        rw [← act_inv x.I]
        unfold actB at ha
        rw [hra] at ha
        exact Bool.eq_false_iff.mpr ha
      obtain ⟨w1, w2⟩ := stg_off hps.2 St' x act
      rw [w1, w2] at hv
      have hv' : n k + 1 = v k := hv.symm
      exact way4 D hF c L N hk mk mv hlt hv' (by rw [hd hv', hi]) fun H L' => s_nil (s_nil (h pls lates γs H L'))
end
end Mine
end
section
open PySem PySem.W PySem.Calls PyProof.Rows PySem.SeqAt
set_option linter.unusedVariables false
set_option maxRecDepth 100000
set_option maxHeartbeats 4000000
namespace Mine
section
variable {g : G} {F F' : Fm} {m : Loc} {H : AH} {X : Value → List V → Loc → AH → Prop} {Q : Fl → Loc → AH → Prop} {B : List (Addr × O)}
  {z : Nat} {v n : Nat → Nat} {pss : List (List (Int × Int))} {hs : List (Addr × List (Int × Int))} {sl hl lt da li le wl gr : Addr} {C0 : List (Addr × O)} {pls : List Pl} {lates : List Int} {rest : List Nat} {γs : List Nat} {k : Nat}
structure Tr (sl hl lt da li le wl gr : Addr) (k i : Nat) (av : V) (m : Loc) : Prop where
  N : NmB sl hl lt da li le wl gr m
  mK : m "k" = some (.int (k : Int))
  mv : m "visit" = some (.int (1 + (i : Int)))
  ma : m "active" = some av
theorem turn (D : Gd g) (hF : FrameOf F' F (lawS g.w.params)) (lv : F'.lvl < 40) (hh : F.A.handled = none) (c : Lc z v pss hs hl da C0) (L : Lp z v pss sl wl lt li le gr C0 pls lates (k :: rest) n γs H) (S : Sch z v n (k :: rest)) (N : NmB sl hl lt da li le wl gr m) {i : Nat} (mv : m "visit" = some (.int (1 + (i : Int)))) (hi : tot z n = i)
    (h : ∀ pls lates γs m H, Lp z v pss sl wl lt li le gr C0 pls lates (rest ++ if n k + 1 < v k then [k] else []) (bump n k) γs H → NmB sl hl lt da li le wl gr m → Q .next m H) : WS g F' (execs (turnB g.w.params) F'.env) m H Q X := by
  obtain ⟨hk, hn, S', ht, hd⟩ := S.pop
  have hkp : k < pls.length := by rw [L.len c]; exact hk
  have hkg : k < γs.length := by rw [L.gl]; exact hk
  have k9 : k < 1000 := Nat.lt_of_lt_of_le hk (Nat.le_trans c.hz.2 (by decide))
  have hr5 : rest.length ≤ 5 := Nat.le_of_succ_le L.ll
  refine s_cons (s_assign (hF.cel rfl) rfl (e_meth <| e_name N.line ⟨_, meth_list (.own (L.T.get (.tail _ (.head _)))) PySem.F.slot_list_pop PySem.F.type_list_pop, cw_plain (.blt _) <| l_cons <| e_int <| l_nil <| c_pop0 (xs := nums (rest.map Int.ofNat)) (x := .int (k : Int)) (L.T.get (.tail _ (.head _))) (by rw [ints_length, List.length_map]; exact Nat.lt_of_le_of_lt hr5 (by decide)) ?_⟩))
  have T1 := Tg.cset (Z1 := [_]) L.T (.list (nums (rest.map Int.ofNat))) (.tail _ (.tail _ L.sr))
  have L1 : Lp z v pss sl wl lt li le gr C0 pls lates rest n γs (put H li (.list (nums (rest.map Int.ofNat)))) := ⟨T1, L.sr, L.gl, L.ln, hr5, L.st⟩
  generalize put H li (.list (nums (rest.map Int.ofNat))) = H1 at L1 ⊢
  refine s_cons (s_assign (hF.loc rfl) rfl (e_none ?_))
  have N1 : Tr sl hl lt da li le wl gr k i .none (setL (setL m "k" (.int (k : Int))) "active" .none) := ⟨N.off fun x hx => by
    have h1 : x ≠ ("active" : Str) := fun q => by subst q; revert hx; decide
    have h2 : x ≠ ("k" : Str) := fun q => by subst q; revert hx; decide
    rw [setL_ne _ _ h1, setL_ne _ _ h2], rfl, by exact mv, rfl⟩
  show WS g F' _ (setL (setL m "k" (.int (k : Int))) "active" .none) H1 _ _
  generalize setL (setL m "k" (.int (k : Int))) "active" .none = m1 at N1 ⊢
  have hps := L1.ps c hkp
  refine s_cons (Wt.mono (Q := fun f m2 H2 => f = .next ∧ Lp z v pss sl wl lt li le gr C0 pls lates rest n γs H2 ∧ Tr sl hl lt da li le wl gr k i (if (k : Int) ∈ lates then .none else .bool (actB pls[k].σ)) m2)
    (s_try hF.st (s_cons (s_assign (hF.loc rfl) rfl (e_call <| e_glob (hF.glo rfl) (D.nb rfl) (fun _ => .cst' _) ⟨_, rfl, cw_plain (D.kp rfl) <| l_cons <| e_sub <| e_name N1.N.sorters <| e_name N1.mK <| gi_itemK (.own L1.srt) k9 (ref_at (·.σ.x) hkp) <| l_cons <| e_bin <| e_name N1.mv <| e_int <| o_mod (by decide) <| l_nil <| WCode.call <| true_spec D (Nat.lt_trans lv (by decide)) (hF.hh hh) (L1.T.foc hkp) fun H2 s2 => ⟨fun hrd => ?_, fun a ns hrd => ?_⟩⟩)))) (fun f m2 H2 ⟨ef, L2, N2⟩ => ?_) (fun _ _ _ _ x => x))
  · have hlt : (k : Int) ∈ lates := by
      rcases L1.st k hkp hkg with x | x | x
      · exact x.1
      · exact absurd x.2 (Nat.ne_of_lt hn)
      · obtain ⟨e, R, y⟩ := x.2.1.ex
        obtain ⟨ra, hra⟩ := Srt.rd_some y.I.rd
        rw [hrd] at hra; cases hra
    rw [if_pos hlt]
    have L2 := L1.re hkp s2
    refine h_skip (spec_glob (hF.glo rfl) (D.nb rfl)) (cyc_ve D) (h_take_as ((hF.kindOf _).trans rfl) (spec_blt (hF.glo rfl) (D.nb rfl) D.ve) (ve_ve D) fun e a ha => ?_)
    refine s_cons (s_if <| t_cmp rfl <| e_attr <| e_name rfl <| x_args PySem.F.excAttr_ValueError (put_self ..) <| e_tup <| l_cons <| e_str <| l_nil ⟨by simp [sizeLine_eq], o_ne rfl rfl (Nat.le_of_ble_eq_true rfl) <| tr_bool ?_⟩)
    rw [veq_refl _ rfl, if_neg (by decide)]
    refine s_nil (s_nil ⟨rfl, by rw [rem_put ha]; exact L2, ⟨N1.N.off fun x hx => ?_, ?_, ?_, ?_⟩⟩)
    · have : x ≠ ("error" : Str) := fun q => by subst q; revert hx; decide
      show (if x = ("error" : Str) then none else _) = _
      rw [if_neg this, setL_ne _ _ this, setL_ne _ _ this]
    · exact N1.mK
    · exact N1.mv
    · exact N1.ma
  · have hlt : (k : Int) ∉ lates := fun hlt => by
      rcases L1.st k hkp hkg with x | x | x
      · have : pls[k].σ.rd = none := Srt.rd_none (by rw [x.2.1]; exact (told_ok 4 pls[k].ps).2.2)
        rw [this] at hrd; cases hrd
      · exact x.1 hlt
      · exact x.1 hlt
    have hnk : Stg pls[k].ps γs[k] pls[k].W pls[k].σ.abs := by
      rcases L1.st k hkp hkg with x | x | x
      · exact absurd x.1 hlt
      · exact absurd x.2 (Nat.ne_of_lt hn)
      · exact x.2.1
    rw [if_neg hlt]
    obtain ⟨e, R, y⟩ := hnk.ex
    obtain ⟨ra, hra⟩ := Srt.rd_some y.I.rd
    rw [hrd] at hra
    cases hra
    refine ⟨Nat.lt_of_le_of_lt (Nat.le_trans (Nat.le_add_left _ _) y.I.len) (by decide), s_nil (s_nil ⟨rfl, L1.re hkp s2, N1.N.off fun x hx => ?_, by exact N1.mK, by exact N1.mv, rfl⟩)⟩
    exact setL_ne _ _ fun q => by subst q; revert hx; decide
  subst ef
  refine s_cons (s_if <| t_cmp rfl <| e_cmp rfl <| e_name N2.ma <| e_none <| o_isn (by intro w q; split at q <;> cases q) <| e_cmp rfl <| e_name N2.mK <| e_name N2.N.late <| o_in (.own (L2.T.get (.head _))) (dat_int _) (dats_ints _) (deps_le _) <| o_ne rfl rfl (Nat.le_of_ble_eq_true rfl) <| tr_bool ?_)
  have ev : (!veq (.bool (isNone (if (k : Int) ∈ lates then V.none else .bool (actB pls[k].σ)))) (.bool ((nums lates).any fun y => veq y (.int (k : Int))))) = false := by
    rw [any_ints]
    unfold veq
    by_cases q : (k : Int) ∈ lates
    · rw [if_pos q, List.contains_iff_mem.mpr q]; rfl
    · rw [if_neg q, show lates.contains (k : Int) = false from by rw [← Bool.not_eq_true, List.contains_iff_mem]; exact q]; rfl
  rw [ev, if_neg (by decide)]
  refine s_nil (ways D hF lv hh c L2 S N2.N N2.mK N2.mv hi hkp N2.ma rfl fun pls lates γs H L3 => tail5 D hF c L3 S N2.N N2.mK fun H L4 => h pls lates γs m2 H L4 N2.N)
end
end Mine
end
section
open PySem PySem.W PySem.Calls PyProof.Rows PySem.SeqAt
set_option linter.unusedVariables false
set_option maxRecDepth 100000
set_option maxHeartbeats 4000000
namespace Mine
section
variable {g : G} {F F' : Fm} {m : Loc} {H : AH} {X : Value → List V → Loc → AH → Prop} {Q : Fl → Loc → AH → Prop} {B : List (Addr × O)}
structure JL (z : Nat) (v : Nat → Nat) (pss : List (List (Int × Int))) (sl hl lt da li le wl gr : Addr) (C0 : List (Addr × O)) (i : Nat) (m : Loc) (H : AH) (pls : List Pl) (lates : List Int) (line : List Nat) (n : Nat → Nat) (γs : List Nat) : Prop where
  L : Lp z v pss sl wl lt li le gr C0 pls lates line n γs H
  S : Sch z v n line
  t : line = [] ∨ tot z n = i
  N : NmB sl hl lt da li le wl gr m
theorem law_f (D : Gd g) (hF : FrameOf F' F (lawS g.w.params)) (lv : F'.lvl < 40) (hh : F.A.handled = none) {z : Nat} {v : Nat → Nat} {pss : List (List (Int × Int))} {hs : List (Addr × List (Int × Int))} {sl hl lt da li le wl gr : Addr} {C0 : List (Addr × O)} {pls : List Pl} {lates : List Int} (c : Lc z v pss hs hl da C0) (N : NmB sl hl lt da li le wl gr m)
    (L : Lp z v pss sl wl lt li le gr C0 pls lates (List.range z) (fun _ => 0) (List.replicate z 0) H) (h : ∀ m H, Q (.ret (.bool true)) m H) : WS g F' (execs ((lawB g.w.params).drop 10) F'.env) m H Q X := by
  refine s_cons (s_for (fun _ => rfl) (e_call <| e_blt (hF.glo rfl) (D.nb rfl) D.range ⟨_, rfl, cw_plain (.type _) <| l_cons <| e_int <| l_cons <| e_int <| l_nil <| c_range2 <| for_any (it_range (n := 60) (by decide) (by decide) (by decide)) (fun i m' H' => ∃ pls lates line n γs, JL z v pss sl hl lt da li le wl gr C0 i m' H' pls lates line n γs)
    (hF.hh hh) hF.st (fun _ _ _ _ => trivial) ⟨pls, lates, _, _, _, L, .start fun j _ => c.v1 j, .inr ?_, N⟩ (fun i m' H' hi ⟨pls, lates, line, n, γs, L, S, t, N⟩ => ?_) (fun m' H' ⟨pls, lates, line, n, γs, L, S, t, N⟩ => ?_)⟩))
  · rw [tot_const, Nat.mul_zero]
  · have N1 : NmB sl hl lt da li le wl gr (setL m' "visit" (.int (1 + (i : Int)))) := N.off fun x hx => setL_ne _ _ fun q => by subst q; revert hx; decide
    refine a_name (hF.loc rfl) (s_cons (s_if <| t_cmp rfl <| e_name N1.line <| e_list <| l_nil ⟨by decide, fun a0 ha0 => ?_⟩))
    have T1 := L.T.alloc (o := .list []) ha0
    have L1 : Lp z v pss sl wl lt li le gr C0 pls lates line n γs (put H' a0 (.list [])) := ⟨T1.drop (Z := [_]) (.tail _ (.tail _ (.tail _ (.tail _ L.sr)))), L.sr, L.gl, L.ln, L.ll, L.st⟩
    refine o_neE (.own (T1.get (.tail _ (.tail _ (.head _))))) (.own (T1.get (.head _))) <| tr_bool ?_
    cases line with
    | nil =>
      rw [if_neg (by intro q; cases q)]
      exact s_nil (s_nil ⟨pls, lates, [], n, γs, L1, S, .inl rfl, N1⟩)
    | cons k rest =>
      rw [if_pos (show (!(nums ((k :: rest).map Int.ofNat)).isEmpty) = true from rfl)]
      have ti : tot z n = i := t.resolve_left (by simp)
      refine turn D hF lv hh c L1 S N1 rfl ti fun pls lates γs m H L2 N2 => s_nil ⟨pls, lates, _, _, γs, L2, S.pop.2.2.1, .inr ?_, N2⟩
      rw [S.pop.2.2.2.1, ti]
  · have el : line = [] := by
      cases line with
      | nil => rfl
      | cons k rest =>
        have ti : tot z n = 60 := t.resolve_left (by simp)
        obtain ⟨_, _, S', ht, _⟩ := S.pop
        have h1 := tot_le S'.B
        have h2 := c.v2
        omega
    subst el
    refine s_nil (s_cons (s_ret <| e_cmp rfl <| e_name N.left <| e_name N.due <| o_eqL (.own (L.T.get (.tail _ (.tail _ (.head _))))) (.own (L.T.get (.tail _ (.tail _ (.tail _ (.tail _ c.hD)))))) (dats_ints _) (dats_ints _) (deps_le _) ?_))
    rw [veqs_ints, lefts_end S, beq_self_eq_true]
    exact h _ _
theorem law_top {A : Around} {s : Shared} (D : Gd g) {Q : Value → Shared → Prop} {E : Value → Shared → Prop} {sa : Addr} {ns : List Int} (hB : g.B = s.heap) (hgens : s.gens = #[]) (hos : s.os = g.os) (hA : A.frames = some []) (hg' : A.guards = some []) (hd : A.depth ≤ 310) (hu : A.units ≤ 100) (hh : A.handled = none)
    (LS : LB g sa ns) (hn : ns.length ≤ 63)
    (hq : ∀ s', (∀ b o, s.heap.get? b = some o → s'.heap.get? b = some o) → s'.gens = #[] → s'.os = g.os → Q (.bool true) s') : wpAny (model g.prog g.w) A (call (.ref 177) [.ref sa]) Q E s := by
  refine c_topF (bs := [("script", .ref sa)]) (body := lawB g.w.params) hB hgens hos hA hg' hd hu (D.lk rfl) (D.cd rfl) rfl rfl rfl rfl rfl rfl rfl (fun v => [("script", v)]) (fun v S => by rw [D.K]; rfl) ⟨_, [], rfl, .ref' _, rfl⟩ (fun x hx => ?_) (fun x hx => ?_) (fun F' F hl hFA hF => ?_) hq
  · rw [List.mem_singleton] at hx; subst hx; exact .inr rfl
  · rw [List.mem_singleton] at hx; subst hx; exact ⟨_, List.mem_singleton.mpr rfl, rfl⟩
  have hh' : F.A.handled = none := by rw [hFA]; exact hh
  have lv : F'.lvl < 40 := by rw [hF.lvl, hl]; decide
  have hF' : FrameOf F' F (lawS g.w.params) := hF
  have hm : (bindAbs [("script", .ref sa)] fun _ => none) "script" = some (.ref sa) := rfl
  have eb := @law_a g F F' (bindAbs [("script", .ref sa)] fun _ => none) (fun _ _ _ _ => False) (fun fl _ _ => fl.val = .bool true) D hF' lv hh' sa ns LS hn hm fun z qs ql lt lates m H x =>
    @law_b g F F' m H (fun _ _ _ _ => False) (fun fl _ _ => fl.val = .bool true) D hF' lv hh' z qs ql lt lates x fun sl hl hs σs m H f1 e1 sat m1 m2 m3 m4 =>
      have p1 : (qs.map (·.2)).length = z := by rw [List.length_map]; exact x.q1
      have p2 : ∀ ps ∈ qs.map (·.2), GoodQ ps := fun ps hp => by obtain ⟨q, hq, rfl⟩ := List.mem_map.mp hp; exact x.q2 q hq
      @law_c g F F' m H (fun _ _ _ _ => False) (fun fl _ _ => fl.val = .bool true) D hF' lv hh' z (qs.map (·.2)) lt sl hl lates hs σs x.hz p1 p2 x.lat f1 e1 sat m1 m2 m3 m4 fun da m H y =>
        @law_d g F F' m H (fun _ _ _ _ => False) (fun fl _ _ => fl.val = .bool true) D hF' lv hh' z (qs.map (·.2)) lt sl hl da lates hs σs y fun σs m H w =>
          @law_e g F F' m H (fun _ _ _ _ => False) (fun fl _ _ => fl.val = .bool true) D hF' lv hh' z (qs.map (·.2)) lt sl hl da lates hs σs x.hz p1 p2 x.lat f1 w fun wl li le gr C0 pls m H c N L =>
            @law_f g F F' m H (fun _ _ _ _ => False) (fun fl _ _ => fl.val = .bool true) D hF' lv hh' z _ _ hs sl hl lt da li le wl gr C0 pls lates c N L fun m H => rfl
  with_reducible exact eb
end
end Mine
end
section
open PySem PySem.W PyProof.Rows PySem.Calls
set_option maxRecDepth 100000
set_option maxHeartbeats 8000000
namespace Mine
theorem bt {mb : Str → Option Value} {x : Str} {v : Value} (h : ∀ x : Str, x ≠ "__name__" → mb x = bootBuiltins x) (hx : x ≠ "__name__") (e : bootBuiltins x = some v) : mb x = some v := (h x hx).trans e
end Mine
theorem PySem.Challenge.cw_dv0015_02_holds : PySem.Challenge.rw_dv0015_02.Holds := by
  refine holds_law Mine.said fun sd => ?_
  refine holds_open (q := Mine.qv) (loose := ["_NodeInfo"]) (Xt := Mine.xt) (XP := XL Mine.qv []) (Yf := Mine.hk.obs) (Ya := Mine.hk.val) (YP := Mine.hk.says) (N := 2574) Mine.left Mine.hk.of Mine.hk.keeps (fun s e => xl_of s (Bool.and_eq_true_iff.mp e).1) XL.keeps (by rfl) (by rfl) (by rfl) (fun s e => recFacts_of (Bool.and_eq_true_iff.mp e).2) (by rfl) sd (by decide +kernel) ⟨rfl, rfl, rfl, rfl, rfl, by decide +kernel⟩ ?hw ?hc
  case hw => w_witness2
  intro w s₀ s₁ mg mb G Y fa o pm cd doc dV kV ho hd' hcd hD hmg hg args vals as hpre hlay hrd hwl hlo
  have KX := kIn_of Y
  refine Ground.open G ?_
  intro T B D TE TW
  wrow_args hpre hlay hrd hwl hlo
  have e := mg_of KX T.g (n := "law") (v := .ref 177) rfl
  rw [hmg] at e
  cases e
  clear hd' hcd hD ho Y TE TW B D hmg
  have seer := T.seer (by decide +kernel)
  have sysm : ∃ o, s₁.heap.get? sysModules = some o := let ⟨_, ⟨o, _, _, e, _⟩, _⟩ := seer.mods; ⟨o, e⟩
  let g : Mine.G := { prog := PySem.Challenge.rw_dv0015_02.row.prog, w := w, B := s₁.heap, K := Mine.kx.heap_1 w.params, mg := mg, mb := mb, os := s₁.os, kin := KX, glob := T.g, blt := T.b, nolim := T.nolimit, sysm := sysm }
  have D : Mine.Gd g := ⟨rfl, Mine.bt T.builtins (by decide) (by decide +kernel), Mine.bt T.builtins (by decide) (by decide +kernel), Mine.bt T.builtins (by decide) (by decide +kernel), Mine.bt T.builtins (by decide) (by decide +kernel), Mine.bt T.builtins (by decide) (by decide +kernel), Mine.bt T.builtins (by decide) (by decide +kernel), Mine.bt T.builtins (by decide) (by decide +kernel), Mine.bt T.builtins (by decide) (by decide +kernel), Mine.bt T.builtins (by decide) (by decide +kernel), Mine.bt T.builtins (by decide) (by decide +kernel), Mine.bt T.builtins (by decide) (by decide +kernel), Mine.bt T.builtins (by decide) (by decide +kernel), Mine.bt T.builtins (by decide) (by decide +kernel), own_of_in KX (topRead_of T) rfl (by kernel_rfl)⟩
  rename_i ns _ _ _ _ _ _ _ sa vs _ hL ra w1 r0 hI hr hc _
  refine Mine.law_top (g := g) (A := callerA) (s := s₁) (sa := sa) (ns := ns) D rfl hg rfl rfl rfl (by decide) (by decide) rfl ⟨vs, hL, hI⟩ (by omega) fun s' keep hg' ho' => ?_
  refine GoodW.toG ⟨.inl ⟨.bool true, _, _, rfl, ?_, .bool true, ?_, ?_⟩, keep, ho', hg'⟩
  · exact raisesW_false (by wrow_none_raised)
  · wrow_post
  · exact unshared_nil
end
