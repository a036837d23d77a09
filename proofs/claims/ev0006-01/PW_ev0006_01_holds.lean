import PyProof.Rows.All
import Wide.All
import OpenK.AllK
import Wide.FinOn
import PySem.Challenge.RW_ev0006_01
set_option Elab.async false
set_option maxRecDepth 100000
set_option linter.all false
set_option maxHeartbeats 4000000
section
open PySem PySem.W PyProof.Rows
namespace Mine
set_option maxRecDepth 100000 in
set_option maxHeartbeats 0 in
open_top hd for PySem.Challenge.rw_ev0006_01
end Mine
end
namespace Mine
open PySem PySem.W PySem.Calls

/-- plain data, as the walked code sees it -/
inductive D where
  | none
  | bool (b : Bool)
  | int (i : Int)
  | str (s : Str)
  | tup (l : List D)
  | list (l : List D)
  | dict (l : List (Str × D))
  | inst (C : Addr) (f : List (Str × D))
  | meth (f : Addr) (self : D)
  | sub (C : Addr) (s : Str)
  | range (a b : Int)
  | items (l : List (Str × D))
  | raw (v : Value)

def Keep (h h' : Heap) : Prop := ∀ b o, h.get? b = some o → h'.get? b = some o
theorem Keep.refl (h : Heap) : Keep h h := fun _ _ e => e
theorem Keep.trans {a b c : Heap} (x : Keep a b) (y : Keep b c) : Keep a c := fun _ _ e => y _ _ (x _ _ e)
theorem Keep.push (h : Heap) (o : Obj) : Keep h (h.push o) := fun _ _ e => Heap.get?_push_of_some _ e

/-- a dict with texts for its keys -/
def DictS (P : Params) (h : Heap) (a : Addr) (kvs : List (Str × Value)) : Prop :=
  (∃ o, h.get? a = some o ∧ o.cls = .type "dict" ∧ o.dict = none ∧ (a == sysModules) = false) ∧ ∀ (prog : Program) (w : World), w.params = P → h.DictOf (PySem.strKind prog w) a kvs
theorem DictS.at {P : Params} {h h' : Heap} {a : Addr} {kvs : List (Str × Value)} (x : DictS P h a kvs) (k : ∀ o, h.get? a = some o → h'.get? a = some o) : DictS P h' a kvs :=
  ⟨let ⟨o, e, r⟩ := x.1; ⟨o, k _ e, r⟩, fun prog w e => let ⟨o, es, ep, ho, r⟩ := x.2 prog w e; ⟨o, es, ep, k _ ho, r⟩⟩
theorem DictS.of {prog : Program} {w : World} {h : Heap} {a : Addr} {kvs : List (Str × Value)} (x : h.DictOf (PySem.strKind prog w) a kvs) (ha : (a == sysModules) = false) : DictS w.params h a kvs := by
  obtain ⟨o, es, ep, ho, he, hd, hk, hp, hn⟩ := x
  refine ⟨⟨o, ho, he.1, he.2.1, ha⟩, fun prog' w' e => ⟨o, es, ep, ho, he, hd, fun e' he' => ?_, ?_, hn⟩⟩
  · obtain ⟨k, h1, h2⟩ := hk e' he'
    refine ⟨k, h1, ?_⟩
    rw [h2]
    show hashStr w k = hashStr w' k
    unfold hashStr
    rw [e]
  · clear hd hk hn
    generalize es.toList = l at hp
    induction hp with
    | nil => exact .nil
    | cons a b _ ih => exact .cons a b ih

mutual
inductive Is (P : Params) (g : Heap) : Value → D → Prop
  | none : Is P g .none .none
  | bool (b : Bool) : Is P g (.bool b) (.bool b)
  | int (i : Int) (t : Tok) : Is P g (.int i t) (.int i)
  | str (s : Str) (t : Tok) : Is P g (.str s t) (.str s)
  | tup {dd : Option Addr} {sl : Array (Option Value)} {a : Addr} {vs : List Value} {n : Nat} {ds : List D} : g.get? a = some (⟨.type "tuple", dd, .seq vs.toArray n, sl⟩ : Obj) → IsAll P g vs ds → Is P g (.ref a) (.tup ds)
  | list {a : Addr} {vs : List Value} {n : Nat} {ds : List D} : g.get? a = some (PySem.W.listOf vs.toArray n) → IsAll P g vs ds → Is P g (.ref a) (.list ds)
  | dict {a : Addr} {fs : List (Str × Value)} {ds : List (Str × D)} : DictS P g a fs → IsF P g fs ds → Is P g (.ref a) (.dict ds)
  | inst {a da C : Addr} {es : List DictEntry} {n : Nat} {ds : List (Str × D)} : g.get? a = some (instObj C da) → g.get? da = some (dictOf es n) → IsE P g es ds → Is P g (.ref a) (.inst C ds)
  | meth {a f : Addr} {v : Value} {d : D} : g.get? a = some (methodObj (.ref f) v) → Is P g v d → Is P g (.ref a) (.meth f d)
  | sub {a da C : Addr} {s : Str} {t : Tok} {n : Nat} : g.get? a = some ({ cls := .ref C, dict := some da, data := .prim (.str s t) } : Obj) → g.get? da = some (dictOf [] n) → Is P g (.ref a) (.sub C s)
  | range {r : Addr} {a b : Int} {t t' t'' : Tok} : g.get? r = some ({ cls := .type "range", data := .fields #[.int a t, .int b t', .int 1 t''] } : Obj) → Is P g (.ref r) (.range a b)
  | items {v a : Addr} {fs : List (Str × Value)} {ds : List (Str × D)} : g.get? v = some ({ cls := .type "dict_items", data := .fields #[.ref a] } : Obj) → DictS P g a fs → IsF P g fs ds → Is P g (.ref v) (.items ds)
  | raw (v : Value) : Is P g v (.raw v)
inductive IsAll (P : Params) (g : Heap) : List Value → List D → Prop
  | nil : IsAll P g [] []
  | cons {v : Value} {d : D} {vs : List Value} {ds : List D} : Is P g v d → IsAll P g vs ds → IsAll P g (v :: vs) (d :: ds)
inductive IsE (P : Params) (g : Heap) : List DictEntry → List (Str × D) → Prop
  | nil : IsE P g [] []
  | cons {x : Str} {t : Tok} {hs : Int} {v : Value} {d : D} {es : List DictEntry} {ds : List (Str × D)} : Is P g v d → IsE P g es ds → IsE P g (⟨hs, .str x t, v⟩ :: es) ((x, d) :: ds)
inductive IsF (P : Params) (g : Heap) : List (Str × Value) → List (Str × D) → Prop
  | nil : IsF P g [] []
  | cons {x : Str} {v : Value} {d : D} {fs : List (Str × Value)} {ds : List (Str × D)} : Is P g v d → IsF P g fs ds → IsF P g ((x, v) :: fs) ((x, d) :: ds)
end

section
variable {P : Params} {g g' : Heap} (k : Keep g g')
include k
mutual
theorem Is.keep : ∀ {v : Value} {d : D}, Is P g v d → Is P g' v d
  | _, _, .none => .none
  | _, _, .bool b => .bool b
  | _, _, .int i t => .int i t
  | _, _, .str s t => .str s t
  | _, _, .tup h r => .tup (k _ _ h) (IsAll.keep r)
  | _, _, .list h r => .list (k _ _ h) (IsAll.keep r)
  | _, _, .dict h r => .dict (h.at fun _ e => k _ _ e) (IsF.keep r)
  | _, _, .inst h h2 r => .inst (k _ _ h) (k _ _ h2) (IsE.keep r)
  | _, _, .meth h r => .meth (k _ _ h) (Is.keep r)
  | _, _, .sub h r => .sub (k _ _ h) (k _ _ r)
  | _, _, .range h => .range (k _ _ h)
  | _, _, .items e h r => .items (k _ _ e) (h.at fun _ e => k _ _ e) (IsF.keep r)
  | _, _, .raw v => .raw v
theorem IsAll.keep : ∀ {v : List Value} {d : List D}, IsAll P g v d → IsAll P g' v d
  | _, _, .nil => .nil
  | _, _, .cons h r => .cons (Is.keep h) (IsAll.keep r)
theorem IsE.keep : ∀ {v : List DictEntry} {d : List (Str × D)}, IsE P g v d → IsE P g' v d
  | _, _, .nil => .nil
  | _, _, .cons h r => .cons (Is.keep h) (IsE.keep r)
theorem IsF.keep : ∀ {v : List (Str × Value)} {d : List (Str × D)}, IsF P g v d → IsF P g' v d
  | _, _, .nil => .nil
  | _, _, .cons h r => .cons (Is.keep h) (IsF.keep r)
end
end

inductive Ent where
  | ns (m : List (Str × Option D))
  | list (ds : List D)
  | dict (ds : List (Str × D))
  | cell (d : Option D)
  | inst (C da : Addr)
  | attrs (ds : List (Str × D))
  | opq (o : Obj)

abbrev Led := List (Addr × Ent)

def SlotOk (P : Params) (g : Heap) : Option (Option D) → Option Value → Prop
  | some (some d), v => ∃ y, v = some y ∧ Is P g y d
  | _, v => v = none
def CellOk (P : Params) (g : Heap) : Option D → Option Value → Prop
  | some d, v => ∃ y, v = some y ∧ Is P g y d
  | none, v => v = none

def Ent.Ok (P : Params) (g h : Heap) (a : Addr) : Ent → Prop
  | .ns m => ∃ μ, h.Ns a μ ∧ (m.map (·.1)).Nodup ∧ ∀ x, SlotOk P g (m.lookup x) (μ x)
  | .list ds => ∃ vs n, h.get? a = some (PySem.W.listOf (List.toArray vs) n) ∧ IsAll P g vs ds
  | .dict ds => ∃ fs, DictS P h a fs ∧ IsF P g fs ds
  | .cell d => ∃ v, h.IsCell a v ∧ CellOk P g d v
  | .inst C da => h.get? a = some (instObj C da)
  | .attrs ds => ∃ es n, h.get? a = some (dictOf es n) ∧ IsE P g es ds
  | .opq o => h.get? a = some o

/-- an entry's truth hangs on the one object -/
theorem Ent.Ok.at {P : Params} {g h h' : Heap} {a : Addr} {e : Ent} (x : e.Ok P g h a) (q : ∀ o, h.get? a = some o → h'.get? a = some o) : e.Ok P g h' a := by
  cases e with
  | ns m => obtain ⟨μ, ⟨o, es, ep, ho, r⟩, s⟩ := x; exact ⟨μ, ⟨o, es, ep, q _ ho, r⟩, s⟩
  | list ds => obtain ⟨vs, n, ho, s⟩ := x; exact ⟨vs, n, q _ ho, s⟩
  | dict ds => obtain ⟨fs, ho, s⟩ := x; exact ⟨fs, ho.at q, s⟩
  | cell d => obtain ⟨v, ⟨o, ho, r⟩, s⟩ := x; exact ⟨v, ⟨o, q _ ho, r⟩, s⟩
  | inst C da => exact q _ x
  | attrs ds => obtain ⟨es, n, ho, s⟩ := x; exact ⟨es, n, q _ ho, s⟩
  | opq o => exact q _ x
theorem SlotOk.keep {P : Params} {g g' : Heap} (k : Keep g g') {m : Option (Option D)} {v : Option Value} (x : SlotOk P g m v) : SlotOk P g' m v := by
  rcases m with _ | _ | d
  · exact x
  · exact x
  · obtain ⟨y, e, i⟩ := x; exact ⟨y, e, i.keep k⟩
theorem CellOk.keep {P : Params} {g g' : Heap} (k : Keep g g') {m : Option D} {v : Option Value} (x : CellOk P g m v) : CellOk P g' m v := by
  cases m with
  | none => exact x
  | some d => obtain ⟨y, e, i⟩ := x; exact ⟨y, e, i.keep k⟩
theorem Ent.Ok.keep {P : Params} {g g' h : Heap} {a : Addr} {e : Ent} (k : Keep g g') (x : e.Ok P g h a) : e.Ok P g' h a := by
  cases e with
  | ns m => obtain ⟨μ, hn, nd, s⟩ := x; exact ⟨μ, hn, nd, fun x => (s x).keep k⟩
  | list ds => obtain ⟨vs, n, ho, s⟩ := x; exact ⟨vs, n, ho, s.keep k⟩
  | dict ds => obtain ⟨fs, ho, s⟩ := x; exact ⟨fs, ho, s.keep k⟩
  | cell d => obtain ⟨v, ho, s⟩ := x; exact ⟨v, ho, s.keep k⟩
  | inst C da => exact x
  | attrs ds => obtain ⟨es, n, ho, s⟩ := x; exact ⟨es, n, ho, s.keep k⟩
  | opq o => exact x
theorem Ent.Ok.lt {P : Params} {g h : Heap} {a : Addr} {e : Ent} (x : e.Ok P g h a) : ∃ o, h.get? a = some o := by
  cases e with
  | ns m => obtain ⟨μ, ⟨o, es, ep, ho, r⟩, s⟩ := x; exact ⟨o, ho⟩
  | list ds => obtain ⟨vs, n, ho, s⟩ := x; exact ⟨_, ho⟩
  | dict ds => obtain ⟨fs, ho, s⟩ := x; obtain ⟨o, e, _⟩ := ho.1; exact ⟨o, e⟩
  | cell d => obtain ⟨v, ⟨o, ho, r⟩, s⟩ := x; exact ⟨o, ho⟩
  | inst C da => exact ⟨_, x⟩
  | attrs ds => obtain ⟨es, n, ho, s⟩ := x; exact ⟨_, ho⟩
  | opq o => exact ⟨_, x⟩

/-- what stays fixed: the text, the world, the written part of the top, the heap ahead of the call -/
structure Cx where
  prog : Program
  w : World
  K : Frag
  H0 : Heap
  mg : Str → Option Value
  mb : Str → Option Value
  X : K.In H0
  g : H0.Ns mainGlobals mg
  b : H0.Ns builtinsNs mb
  nolimit : H0.NoLimit
  nodigits : ∃ mc, H0.Ns cStatics mc ∧ mc (Str.ofString "sys.int_max_str_digits") = none
  builtins : ∀ (x : Str), x ≠ Str.ofString "__name__" → mb x = bootBuiltins x
  low : sysModules < H0.objs.size

structure Own (Γ : Cx) (g : Heap) (u : Led) (h : Heap) : Prop where
  base : Keep Γ.H0 g
  keep : Keep g h
  nodup : (u.map (·.1)).Nodup
  ok : ∀ p ∈ u, p.2.Ok Γ.w.params g h p.1 ∧ g.get? p.1 = none

/-- a state of the walk -/
structure Sg where
  gs : Array GenState
  g : Heap
  u : Led
  h : Heap

def GOk (a b : Array GenState) : Prop := (∀ (i : Nat) (x : GenState), a[i]? = some x → b[i]? = some x) ∧ ∀ (i : Nat) (x : GenState), b[i]? = some x → a[i]? = none → x.bare = true
theorem GOk.refl (a : Array GenState) : GOk a a := ⟨fun _ _ e => e, fun i x e n => by rw [n] at e; cases e⟩
theorem GOk.trans {a b c : Array GenState} (x : GOk a b) (y : GOk b c) : GOk a c := ⟨fun i z e => y.1 i z (x.1 i z e), fun i z e n => by
  cases q : b[i]? with
  | none => exact y.2 i z e q
  | some z' => have := y.1 i z' q; rw [e] at this; cases this; exact x.2 i z q n⟩

structure Step (a b : Sg) : Prop where
  gens : GOk a.gs b.gs
  keep : Keep a.g b.g
  fram : ∀ q o, a.h.get? q = some o → q ∉ a.u.map (·.1) → b.h.get? q = some o ∧ q ∉ b.u.map (·.1) ∧ (a.g.get? q = none → b.g.get? q = none)
theorem Step.refl (a : Sg) : Step a a := ⟨.refl _, .refl _, fun _ _ e n => ⟨e, n, id⟩⟩
theorem Step.trans {a b c : Sg} (x : Step a b) (y : Step b c) : Step a c := ⟨x.gens.trans y.gens, x.keep.trans y.keep, fun q o e n => let ⟨e', n', z⟩ := x.fram q o e n; let ⟨e2, n2, z2⟩ := y.fram q o e' n'; ⟨e2, n2, fun w => z2 (z w)⟩⟩

def Ok (n : Nat) (A : Around) : Prop := A.handled = none ∧ A.depth + 4 * n ≤ 900 ∧ A.units + 30 * n ≤ 9000

def sh (a : Sg) (dr : Drawn) (tk : Nat) (os : OsState) : Shared := ⟨a.h, a.gs, dr, tk, os⟩

/-- where a piece of the walk must come out -/
def Out {α β : Type} (Γ : Cx) (R : Heap → α → β → Prop) (Q : β → Led → Prop) (a : Sg) (dr : Drawn) (os : OsState) (x : α) (s' : Shared) : Prop :=
  ∃ b tk y, s' = sh b dr tk os ∧ Step a b ∧ Own Γ b.g b.u b.h ∧ R b.g x y ∧ Q y b.u

def Wg {α β : Type} (Γ : Cx) (R : Heap → α → β → Prop) (n : Nat) (t : Sem α) (Q : β → Led → Prop) (a : Sg) : Prop :=
  ∀ A dr os tk, Ok n A → wpAny (model Γ.prog Γ.w) A t (Out Γ R Q a dr os) (fun _ _ => False) (sh a dr tk os)

def WL {α β : Type} (Γ : Cx) (R : Heap → α → β → Prop) (n : Nat) (t : Sem α) (Q : β → Led → Prop) (u : Led) : Prop :=
  ∀ a, Own Γ a.g a.u a.h → a.u = u → Wg Γ R n t Q a

/-- from one piece to the next -/
theorem Out.next {α β γ δ : Type} {Γ : Cx} {R : Heap → α → β → Prop} {R' : Heap → γ → δ → Prop} {Q : β → Led → Prop} {Q' : δ → Led → Prop} {a b : Sg} {dr : Drawn} {os : OsState} {x : γ} {s' : Shared}
    (st : Step a b) (o : Out Γ R' Q' b dr os x s') : Out Γ R' Q' a dr os x s' := by
  obtain ⟨c, tk, y, e, s2, ow, r, q⟩ := o
  exact ⟨c, tk, y, e, st.trans s2, ow, r, q⟩

end Mine

namespace Mine
open PySem PySem.W PySem.Calls
open PyProof.Rows (Subscript_ subscriptTail tail_any)

inductive Fl where
  | next | brk | cont
  | ret (d : D)
inductive IsFl (P : Params) (g : Heap) : Flow → Fl → Prop
  | next : IsFl P g .next .next
  | brk : IsFl P g .brk .brk
  | cont : IsFl P g .cont .cont
  | ret {v : Value} {d : D} : Is P g v d → IsFl P g (.ret v) (.ret d)

abbrev Ev (Γ : Cx) (n : Nat) (t : Sem Value) (Q : D → Led → Prop) (u : Led) := WL Γ (Is Γ.w.params) n t Q u
abbrev Ts (Γ : Cx) (n : Nat) (t : Sem Bool) (Q : Bool → Led → Prop) (u : Led) := WL Γ (fun _ (x y : Bool) => x = y) n t Q u
abbrev As (Γ : Cx) (n : Nat) (t : Sem (List Value)) (Q : List D → Led → Prop) (u : Led) := WL Γ (IsAll Γ.w.params) n t Q u
abbrev Ex (Γ : Cx) (n : Nat) (t : Sem Flow) (Q : Fl → Led → Prop) (u : Led) := WL Γ (IsFl Γ.w.params) n t Q u
abbrev Un (Γ : Cx) (n : Nat) (t : Sem Unit) (Q : Unit → Led → Prop) (u : Led) := WL Γ (fun _ (_ _ : Unit) => True) n t Q u

/-- a step upon one value, two values, a row of values -/
def On1 {α β : Type} (Γ : Cx) (R : Heap → α → β → Prop) (n : Nat) (t : Value → Sem α) (d : D) (Q : β → Led → Prop) (u : Led) : Prop :=
  ∀ a, Own Γ a.g a.u a.h → a.u = u → ∀ v, Is Γ.w.params a.g v d → Wg Γ R n (t v) Q a
def On2 {α β : Type} (Γ : Cx) (R : Heap → α → β → Prop) (n : Nat) (t : Value → Value → Sem α) (d e : D) (Q : β → Led → Prop) (u : Led) : Prop :=
  ∀ a, Own Γ a.g a.u a.h → a.u = u → ∀ v x, Is Γ.w.params a.g v d → Is Γ.w.params a.g x e → Wg Γ R n (t v x) Q a
def OnL {α β : Type} (Γ : Cx) (R : Heap → α → β → Prop) (n : Nat) (t : List Value → Sem α) (ds : List D) (Q : β → Led → Prop) (u : Led) : Prop :=
  ∀ a, Own Γ a.g a.u a.h → a.u = u → ∀ vs, IsAll Γ.w.params a.g vs ds → Wg Γ R n (t vs) Q a

theorem Wg.to {α β : Type} {Γ : Cx} {R : Heap → α → β → Prop} {n : Nat} {t : Sem α} {Q : β → Led → Prop} {a : Sg} (W : Wg Γ R n t Q a) {A : Around} (hA : Ok n A) {dr : Drawn} {os : OsState} {tk : Nat}
    {P : α → Shared → Prop} {E : Value → Shared → Prop} (h : ∀ b tk x y, Step a b → Own Γ b.g b.u b.h → R b.g x y → Q y b.u → P x (sh b dr tk os)) : wpAny (model Γ.prog Γ.w) A t P E (sh a dr tk os) :=
  wpAny_mono (W A dr os tk hA) (by rintro x _ ⟨b, tk', y, rfl, st, o, r, q⟩; exact h b tk' x y st o r q) (fun _ _ f => f.elim)

theorem Out.same {α β : Type} {Γ : Cx} {R : Heap → α → β → Prop} {Q : β → Led → Prop} {a : Sg} {dr : Drawn} {os : OsState} {tk : Nat} {x : α} {y : β} (o : Own Γ a.g a.u a.h) (r : R a.g x y) (q : Q y a.u) : Out Γ R Q a dr os x (sh a dr tk os) :=
  ⟨a, tk, y, rfl, .refl a, o, r, q⟩

theorem Ok.le {n m : Nat} {A : Around} (h : Ok n A) (e : m ≤ n) : Ok m A := ⟨h.1, by have := h.2.1; omega, by have := h.2.2; omega⟩
theorem Ok.in1 {n : Nat} {A : Around} (h : Ok (n + 1) A) : Ok n A.in1 := ⟨h.1, by have := h.2.1; simp only [Around.in1_depth]; omega, by have := h.2.2; simp only [Around.in1_units]; omega⟩
theorem Ok.deeper {n : Nat} {A : Around} (h : Ok (n + 1) A) (env : Env) : Ok n (A.deeper env) := ⟨h.1, by have := h.2.1; show A.depth + 1 + _ ≤ _; omega, by have := h.2.2; show A.units + 3 + _ ≤ _; omega⟩
theorem Ok.room {n : Nat} {A : Around} (h : Ok n A) : A.depth < recursionLimit := by have := h.2.1; show _ < 1000; omega
theorem Ok.units {n : Nat} {A : Around} (h : Ok n A) : A.units < cLine := by have := h.2.2; show _ < 9900; omega

theorem WL.up {α β : Type} {Γ : Cx} {R : Heap → α → β → Prop} {n m : Nat} {t : Sem α} {Q : β → Led → Prop} {u : Led} (h : WL Γ R n t Q u) (e : n ≤ m) : WL Γ R m t Q u :=
  fun a o q A dr os tk hA => h a o q A dr os tk (hA.le e)
theorem OnL.up {α β : Type} {Γ : Cx} {R : Heap → α → β → Prop} {n m : Nat} {t : List Value → Sem α} {ds : List D} {Q : β → Led → Prop} {u : Led} (h : OnL Γ R n t ds Q u) (e : n ≤ m) : OnL Γ R m t ds Q u :=
  fun a o q vs i A dr os tk hA => h a o q vs i A dr os tk (hA.le e)
theorem WL.mono {α β : Type} {Γ : Cx} {R : Heap → α → β → Prop} {n : Nat} {t : Sem α} {Q Q' : β → Led → Prop} {u : Led} (h : WL Γ R n t Q u) (e : ∀ y u', Q y u' → Q' y u') : WL Γ R n t Q' u :=
  fun a o q A dr os tk hA => (h a o q).to hA fun b tk x y st ow r qq => ⟨b, tk, y, rfl, st, ow, r, e _ _ qq⟩

/-- what is asked of a block's names -/
def envChk (names : List (Str × NameKind)) (cs : List Str) : Bool := decide ((names.map (·.1)).Nodup) && (names.all fun p => !(p.1 == ("__debug__" : Str))) && decide (cs.Nodup)
structure EnvI (env : Env) (names : List (Str × NameKind)) (L : Addr) (cs : List (Str × Addr)) : Prop where
  fn : env.scope.kind = .function
  nm : env.scope.names = names
  loc : env.locals = L
  cl : env.cells = cs
  glob : env.globals = mainGlobals
  blt : env.builtins = builtinsNs
  chk : envChk names (cs.map (·.1)) = true

theorem lookup_of_mem {β : Type} {x : Str} {d : β} : ∀ {m : List (Str × β)}, (m.map (·.1)).Nodup → (x, d) ∈ m → m.lookup x = some d
  | [], _, h => nomatch h
  | (y, e) :: r, nd, h => by
    rw [List.lookup_cons]
    rw [List.map_cons, List.nodup_cons] at nd
    rcases List.mem_cons.mp h with h | h
    · cases h; simp
    · have : (x == y) = false := beq_eq_false_iff_ne.mpr fun e => nd.1 (e ▸ List.mem_map_of_mem (f := (·.1)) h)
      rw [this]; exact lookup_of_mem nd.2 h
section
variable {env : Env} {names : List (Str × NameKind)} {L : Addr} {cs : List (Str × Addr)}
theorem EnvI.nd (he : EnvI env names L cs) : (names.map (·.1)).Nodup ∧ (names.all fun p => !(p.1 == ("__debug__" : Str))) = true ∧ (cs.map (·.1)).Nodup := by
  have := he.chk
  simp only [envChk, Bool.and_eq_true, decide_eq_true_eq] at this
  exact ⟨this.1.1, this.1.2, this.2⟩
theorem EnvI.kind (he : EnvI env names L cs) {x : Str} {k : NameKind} (hk : (x, k) ∈ names) : env.kindOf x = some k := by
  show env.scope.names.lookup x = _
  rw [he.nm]; exact lookup_of_mem he.nd.1 hk
theorem EnvI.nodbg (he : EnvI env names L cs) {x : Str} {k : NameKind} (hk : (x, k) ∈ names) : (x == ("__debug__" : Str)) = false := by
  have := List.all_eq_true.mp he.nd.2.1 _ hk; simpa using this
theorem EnvI.cell (he : EnvI env names L cs) {x : Str} {c : Addr} (hk : (x, c) ∈ cs) : env.cells.lookup x = some c := by
  rw [he.cl]; exact lookup_of_mem he.nd.2.2 hk
end

/-- the frame's names, out of the state -/
theorem Own.ns {Γ : Cx} {g : Heap} {u : Led} {h : Heap} (o : Own Γ g u h) {L : Addr} {m : List (Str × Option D)} (hL : (L, Ent.ns m) ∈ u) : ∃ μ, h.Ns L μ ∧ (m.map (·.1)).Nodup ∧ ∀ x, SlotOk Γ.w.params g (m.lookup x) (μ x) := (o.ok _ hL).1
theorem Own.H0 {Γ : Cx} {g : Heap} {u : Led} {h : Heap} (o : Own Γ g u h) : Keep Γ.H0 h := o.base.trans o.keep
theorem Own.K {Γ : Cx} {g : Heap} {u : Led} {h : Heap} (o : Own Γ g u h) : Γ.K.In h := fun a ob e => o.H0 _ _ (Γ.X a ob e)

section
variable {Γ : Cx} {n : Nat} {env : Env} {u : Led} {x : Str} {pos : Pos}

theorem Name_ {d : D} {m : List (Str × Option D)} {Q : D → Led → Prop} {names : List (Str × NameKind)} {L : Addr} {cs : List (Str × Addr)} (he : EnvI env names L cs) (hk : (x, NameKind.local) ∈ names) (hL : (L, Ent.ns m) ∈ u) (hx : (x, some d) ∈ m) (hQ : Q d u) :
    Ev Γ n (eval (.Name x pos) env) Q u := by
  rintro a ho rfl A dr os tk hA
  obtain ⟨μ, hn, nd, hs⟩ := ho.ns hL
  have := hs x
  rw [lookup_of_mem nd hx] at this
  obtain ⟨v, hv, hi⟩ := this
  exact wpAny_Name (wpAny_loadName_local he.fn (he.kind hk) (he.loc ▸ hn) hv (Out.same ho hi hQ)) (he.nodbg hk)

theorem NameC_ {c : Addr} {d : D} {Q : D → Led → Prop} {names : List (Str × NameKind)} {L : Addr} {cs : List (Str × Addr)} (he : EnvI env names L cs) (hk : (x, NameKind.cell) ∈ names) (hc : (x, c) ∈ cs) (hL : (c, Ent.cell (some d)) ∈ u) (hQ : Q d u) :
    Ev Γ n (eval (.Name x pos) env) Q u := by
  rintro a ho rfl A dr os tk hA
  obtain ⟨v, hv, y, rfl, hi⟩ := (ho.ok _ hL).1
  exact wpAny_Name (wpAny_loadName_cell he.fn (he.kind hk) (he.cell hc) hv (Out.same ho hi hQ)) (he.nodbg hk)

theorem NameG_ {K : Frag} {v : Value} {d : D} {Q : D → Led → Prop} (hΓ : Γ.K = K) {names : List (Str × NameKind)} {L : Addr} {cs : List (Str × Addr)} (he : EnvI env names L cs) (hk : (x, NameKind.globalImplicit) ∈ names) (hv : nsIn K mainGlobals x = some (some v)) (hi : Is Γ.w.params Γ.H0 v d) (hQ : Q d u) :
    Ev Γ n (eval (.Name x pos) env) Q u := by
  subst hΓ
  rintro a ho rfl A dr os tk hA
  refine Name_function_global he.fn (he.kind hk) (loadGlobal_global (mg := Γ.mg) ?_ (mg_of Γ.X Γ.g hv) (Out.same ho (hi.keep ho.base) hQ)) (he.nodbg hk)
  rw [he.glob]; exact Γ.g.keeps ho.H0

theorem NameB_ {K : Frag} {v : Value} {Q : D → Led → Prop} (hΓ : Γ.K = K) {names : List (Str × NameKind)} {L : Addr} {cs : List (Str × Addr)} (he : EnvI env names L cs) (hk : (x, NameKind.globalImplicit) ∈ names) (hm : nsIn K mainGlobals x = some none) (hv : bootBuiltins x = some v) (hx : x ≠ Str.ofString "__name__") (hQ : Q (.raw v) u) :
    Ev Γ n (eval (.Name x pos) env) Q u := by
  subst hΓ
  rintro a ho rfl A dr os tk hA
  refine Name_function_global he.fn (he.kind hk) (loadGlobal_builtin (mg := Γ.mg) (mb := Γ.mb) ?_ (mg_none_of Γ.X Γ.g hm) ?_ (by rw [Γ.builtins x hx]; exact hv) (Out.same ho (.raw v) hQ)) (he.nodbg hk)
  · rw [he.glob]; exact Γ.g.keeps ho.H0
  · rw [he.blt]; exact Γ.b.keeps ho.H0

theorem Int_ {i : Int} {k : Nat} {Q : D → Led → Prop} (hQ : Q (.int i) u) : Ev Γ n (eval (.Constant (.int i) k pos) env) Q u := by
  rintro a ho rfl A dr os tk hA
  exact wpAny_Constant_int (Out.same ho (.int i tk) hQ)
theorem Str_ {i : Str} {k : Nat} {Q : D → Led → Prop} (hQ : Q (.str i) u) : Ev Γ n (eval (.Constant (.str i) k pos) env) Q u := by
  rintro a ho rfl A dr os tk hA
  exact wpAny_Constant_str (Out.same ho (.str i tk) hQ)
theorem None_ {k : Nat} {Q : D → Led → Prop} (hQ : Q .none u) : Ev Γ n (eval (.Constant .none k pos) env) Q u := by
  rintro a ho rfl A dr os tk hA
  exact wpAny_Constant_none (Out.same ho .none hQ)
theorem Bool_ {b : Bool} {k : Nat} {Q : D → Led → Prop} (hQ : Q (.bool b) u) : Ev Γ n (eval (.Constant (.bool b) k pos) env) Q u := by
  rintro a ho rfl A dr os tk hA
  exact wpAny_Constant_bool (Out.same ho (.bool b) hQ)

theorem BinOp_ {l r : Expr} {op : Operator} {Q : D → Led → Prop}
    (h : Ev Γ n (eval l env) (fun d1 u1 => Ev Γ n (eval r env) (fun d2 u2 => On2 Γ (Is Γ.w.params) n (binaryOp op) d1 d2 Q u2) u1) u) : Ev Γ n (eval (.BinOp l op r pos) env) Q u := by
  rintro a ho rfl A dr os tk hA
  refine wpAny_BinOp ((h a ho rfl).to hA fun b tk v d st ob r q => (q b ob rfl).to hA fun c tk v2 d2 st2 oc r2 q2 => ?_)
  exact (q2 c oc rfl v v2 (r.keep st2.keep) r2).to hA fun e tk v3 d3 st3 oe r3 q3 => ⟨e, tk, d3, rfl, (st.trans st2).trans st3, oe, r3, q3⟩

theorem Compare_ {l r : Expr} {op : CmpOp} {Q : D → Led → Prop}
    (h : Ev Γ n (eval l env) (fun d1 u1 => Ev Γ n (eval r env) (fun d2 u2 => On2 Γ (Is Γ.w.params) n (compareOp op) d1 d2 Q u2) u1) u) (hm : behindInMarks op r = false := by with_unfolding_all rfl) : Ev Γ n (eval (.Compare l [op] [r] pos) env) Q u := by
  rintro a ho rfl A dr os tk hA
  refine wpAny_Compare1 ((h a ho rfl).to hA fun b tk v d st ob r q => (q b ob rfl).to hA fun c tk v2 d2 st2 oc r2 q2 => ?_) hm
  exact (q2 c oc rfl v v2 (r.keep st2.keep) r2).to hA fun e tk v3 d3 st3 oe r3 q3 => ⟨e, tk, d3, rfl, (st.trans st2).trans st3, oe, r3, q3⟩

theorem UnaryOp_ {e : Expr} {op : UnaryOp} {Q : D → Led → Prop} (h : Ev Γ n (eval e env) (fun d1 u1 => On1 Γ (Is Γ.w.params) n (unaryOp op) d1 Q u1) u) : Ev Γ n (eval (.UnaryOp op e pos) env) Q u := by
  rintro a ho rfl A dr os tk hA
  refine wpAny_UnaryOp ((h a ho rfl).to hA fun b tk v d st ob r q => ?_)
  exact (q b ob rfl v r).to hA fun e tk v3 d3 st3 oe r3 q3 => ⟨e, tk, d3, rfl, st.trans st3, oe, r3, q3⟩

theorem IfExp_ {t b e : Expr} {Q : D → Led → Prop} (h : Ts Γ n (PySem.isTrue t env (eval t env)) (fun c u1 => if c = true then Ev Γ n (eval b env) Q u1 else Ev Γ n (eval e env) Q u1) u) : Ev Γ n (eval (.IfExp t b e pos) env) Q u := by
  rintro a ho rfl A dr os tk hA
  refine wpAny_IfExp ((h a ho rfl).to hA fun b tk v d st ob r q => ?_)
  subst r
  cases v
  · exact (q b ob rfl).to hA fun e tk v3 d3 st3 oe r3 q3 => ⟨e, tk, d3, rfl, st.trans st3, oe, r3, q3⟩
  · exact (q b ob rfl).to hA fun e tk v3 d3 st3 oe r3 q3 => ⟨e, tk, d3, rfl, st.trans st3, oe, r3, q3⟩

theorem Or_ {l r : Expr} {Q : D → Led → Prop} (h : Ev Γ n (eval l env) (fun d u1 => On1 Γ (fun _ (x y : Bool) => x = y) n truthy d (fun t u2 => if t = true then Q d u2 else Ev Γ n (eval r env) Q u2) u1) u) : Ev Γ n (eval (.BoolOp .Or [l, r] pos) env) Q u := by
  rintro a ho rfl A dr os tk hA
  refine wpAny_Or2 ((h a ho rfl).to hA fun b tk v d st ob r q => ?_)
  refine (q b ob rfl v r).to hA fun c tk v2 d2 st2 oc r2 q2 => ?_
  subst r2
  cases v2
  · exact (q2 c oc rfl).to hA fun e tk v3 d3 st3 oe r3 q3 => ⟨e, tk, d3, rfl, (st.trans st2).trans st3, oe, r3, q3⟩
  · exact ⟨c, tk, d, rfl, st.trans st2, oc, r.keep st2.keep, q2⟩

/-- tests -/
theorem tVal_ {e : Expr} {whole : Sem Value} {Q : Bool → Led → Prop} (h : Ev Γ n whole (fun d u1 => On1 Γ (fun _ (x y : Bool) => x = y) n truthy d Q u1) u)
    (he : PySem.isTrue e env whole = (do let v ← whole; standAt e.pos; holding [v] (truthy v)) := by with_unfolding_all rfl) : Ts Γ n (PySem.isTrue e env whole) Q u := by
  rintro a ho rfl A dr os tk hA
  refine wpAny_isTrue_value ((h a ho rfl).to hA fun b tk v d st ob r q => ?_) he
  exact (q b ob rfl v r).to hA fun c tk v2 d2 st2 oc r2 q2 => ⟨c, tk, d2, rfl, st.trans st2, oc, r2, q2⟩
theorem tCmp_ {l r : Expr} {op : CmpOp} {whole : Sem Value} {Q : Bool → Led → Prop}
    (h : Ev Γ n (eval l env) (fun d1 u1 => Ev Γ n (eval r env) (fun d2 u2 => On2 Γ (Is Γ.w.params) n (compareOp op) d1 d2 (fun d3 u3 => ∃ c, d3 = .bool c ∧ Q c u3) u2) u1) u) (hm : behindInMarks op r = false := by with_unfolding_all rfl) :
    Ts Γ n (PySem.isTrue (.Compare l [op] [r] pos) env whole) Q u := by
  rintro a ho rfl A dr os tk hA
  refine wpAny_isTrue_Compare1 ((h a ho rfl).to hA fun b tk v d st ob r q => (q b ob rfl).to hA fun c tk v2 d2 st2 oc r2 q2 => ?_) hm
  refine (q2 c oc rfl v v2 (r.keep st2.keep) r2).to hA fun e tk v3 d3 st3 oe r3 q3 => ?_
  obtain ⟨c', rfl, q3⟩ := q3
  cases r3
  exact wpAny_truthy_bool ⟨e, tk, c', rfl, (st.trans st2).trans st3, oe, rfl, q3⟩
theorem tNot_ {e : Expr} {whole : Sem Value} {Q : Bool → Led → Prop} (h : Ts Γ n (PySem.isTrue e env (eval e env)) (fun b u1 => Q (!b) u1) u) : Ts Γ n (PySem.isTrue (.UnaryOp .Not e pos) env whole) Q u := by
  rintro a ho rfl A dr os tk hA
  refine wpAny_isTrue_Not ((h a ho rfl).to hA fun b tk v d st ob r q => ?_)
  subst r
  exact ⟨b, tk, !v, rfl, st, ob, rfl, q⟩
theorem tAnd_ {l r : Expr} {whole : Sem Value} {Q : Bool → Led → Prop} (h : Ts Γ n (PySem.isTrue l env (eval l env)) (fun b u1 => if b = true then Ts Γ n (PySem.isTrue r env (eval r env)) Q u1 else Q false u1) u) :
    Ts Γ n (PySem.isTrue (.BoolOp .And [l, r] pos) env whole) Q u := by
  rintro a ho rfl A dr os tk hA
  refine wpAny_isTrue_BoolOp (wpAny_allTrue_And_cons ((h a ho rfl).to hA fun b tk v d st ob r q => ?_))
  subst r
  cases v
  · exact ⟨b, tk, false, rfl, st, ob, rfl, q⟩
  · refine wpAny_allTrue_And_cons ((q b ob rfl).to hA fun c tk v2 d2 st2 oc r2 q2 => ?_)
    subst r2
    cases v2
    · exact ⟨c, tk, false, rfl, st.trans st2, oc, rfl, q2⟩
    · exact wpAny_allTrue_And_nil ⟨c, tk, true, rfl, st.trans st2, oc, rfl, q2⟩
theorem tOr_ {l r : Expr} {whole : Sem Value} {Q : Bool → Led → Prop} (h : Ts Γ n (PySem.isTrue l env (eval l env)) (fun b u1 => if b = true then Q true u1 else Ts Γ n (PySem.isTrue r env (eval r env)) Q u1) u) :
    Ts Γ n (PySem.isTrue (.BoolOp .Or [l, r] pos) env whole) Q u := by
  rintro a ho rfl A dr os tk hA
  refine wpAny_isTrue_BoolOp (wpAny_allTrue_Or_cons ((h a ho rfl).to hA fun b tk v d st ob r q => ?_))
  subst r
  cases v
  · refine wpAny_allTrue_Or_cons ((q b ob rfl).to hA fun c tk v2 d2 st2 oc r2 q2 => ?_)
    subst r2
    cases v2
    · exact wpAny_allTrue_Or_nil ⟨c, tk, false, rfl, st.trans st2, oc, rfl, q2⟩
    · exact ⟨c, tk, true, rfl, st.trans st2, oc, rfl, q2⟩
  · exact ⟨b, tk, true, rfl, st, ob, rfl, q⟩

/-- statements -/
theorem nil_ {Q : Fl → Led → Prop} (hQ : Q .next u) : Ex Γ n (execs [] env) Q u := by
  rintro a ho rfl A dr os tk hA
  exact wpAny_execs_nil (Out.same ho .next hQ)
theorem cons_ {st : Stmt} {rest : List Stmt} {Q : Fl → Led → Prop} (h : Ex Γ n (exec st env) (fun f u1 => match f with | .next => Ex Γ n (execs rest env) Q u1 | f => Q f u1) u) : Ex Γ n (execs (st :: rest) env) Q u := by
  rintro a ho rfl A dr os tk hA
  refine wpAny_execs_cons ((h a ho rfl).to hA fun b tk v d st ob r q => ?_)
  cases r with
  | next => exact (q b ob rfl).to hA fun c tk v2 d2 st2 oc r2 q2 => ⟨c, tk, d2, rfl, st.trans st2, oc, r2, q2⟩
  | brk => exact ⟨b, tk, _, rfl, st, ob, .brk, q⟩
  | cont => exact ⟨b, tk, _, rfl, st, ob, .cont, q⟩
  | ret i => exact ⟨b, tk, _, rfl, st, ob, .ret i, q⟩
theorem If_ {t : Expr} {b e : List Stmt} {Q : Fl → Led → Prop} (h : Ts Γ n (PySem.isTrue t env (eval t env)) (fun c u1 => if c = true then Ex Γ n (execs b env) Q u1 else Ex Γ n (execs e env) Q u1) u) : Ex Γ n (exec (.If t b e pos) env) Q u := by
  rintro a ho rfl A dr os tk hA
  refine wpAny_If ((h a ho rfl).to hA fun b tk v d st ob r q => ?_)
  subst r
  cases v
  · exact (q b ob rfl).to hA fun e tk v3 d3 st3 oe r3 q3 => ⟨e, tk, d3, rfl, st.trans st3, oe, r3, q3⟩
  · exact (q b ob rfl).to hA fun e tk v3 d3 st3 oe r3 q3 => ⟨e, tk, d3, rfl, st.trans st3, oe, r3, q3⟩
theorem Return_ {e : Expr} {Q : Fl → Led → Prop} (h : Ev Γ n (eval e env) (fun d u1 => Q (.ret d) u1) u) : Ex Γ n (exec (.Return (some e) pos) env) Q u := by
  rintro a ho rfl A dr os tk hA
  exact wpAny_Return_some ((h a ho rfl).to hA fun b tk v d st ob r q => ⟨b, tk, _, rfl, st, ob, .ret r, q⟩)
theorem ReturnN_ {Q : Fl → Led → Prop} (h : Q (.ret .none) u) : Ex Γ n (exec (.Return none pos) env) Q u := by
  rintro a ho rfl A dr os tk hA
  exact wpAny_Return_none (Out.same ho (.ret .none) h)
theorem Break_ {Q : Fl → Led → Prop} (h : Q .brk u) : Ex Γ n (exec (.Break pos) env) Q u := by
  rintro a ho rfl A dr os tk hA
  exact wpAny_Break (Out.same ho .brk h)
theorem Continue_ {Q : Fl → Led → Prop} (h : Q .cont u) : Ex Γ n (exec (.Continue pos) env) Q u := by
  rintro a ho rfl A dr os tk hA
  exact wpAny_Continue (Out.same ho .cont h)
theorem Pass_ {Q : Fl → Led → Prop} (h : Q .next u) : Ex Γ n (exec (.Pass pos) env) Q u := by
  rintro a ho rfl A dr os tk hA
  exact wpAny_Pass (Out.same ho .next h)
theorem Expr_ {e : Expr} {Q : Fl → Led → Prop} (h : Ev Γ n (eval e env) (fun _ u1 => Q .next u1) u) (hi : interactive env = false := by rfl) (hs : swapsWith e none pos.line env = pure false := by rfl) : Ex Γ n (exec (.Expr e pos) env) Q u := by
  rintro a ho rfl A dr os tk hA
  exact wpAny_Expr_any ((h a ho rfl).to hA fun b tk v d st ob r q => ⟨b, tk, _, rfl, st, ob, .next, q⟩) hi hs
end

/-- putting into a row of names -/
inductive Put : List (Str × Option D) → Str → D → List (Str × Option D) → Prop
  | here {x : Str} {o : Option D} {m : List (Str × Option D)} {d : D} : Put ((x, o) :: m) x d ((x, some d) :: m)
  | there {p : Str × Option D} {m m' : List (Str × Option D)} {x : Str} {d : D} : Put m x d m' → Put (p :: m) x d (p :: m')
theorem Put.keys {m m' : List (Str × Option D)} {x : Str} {d : D} (h : Put m x d m') : m'.map (·.1) = m.map (·.1) := by
  induction h with
  | here => rfl
  | there _ ih => simp only [List.map_cons, ih]
theorem Put.mem {m m' : List (Str × Option D)} {x : Str} {d : D} (h : Put m x d m') : x ∈ m.map (·.1) := by
  induction h with
  | here => exact .head _
  | there _ ih => exact .tail _ ih
theorem Put.look {m m' : List (Str × Option D)} {x : Str} {d : D} (h : Put m x d m') (nd : (m.map (·.1)).Nodup) (y : Str) : m'.lookup y = if y = x then some (some d) else m.lookup y := by
  induction h with
  | @here x o m d =>
    by_cases e : y = x
    · subst e; simp [List.lookup_cons]
    · have : (y == x) = false := beq_eq_false_iff_ne.mpr e
      simp [List.lookup_cons, this, e]
  | @there p m m' x d h ih =>
    obtain ⟨z, o⟩ := p
    rw [List.map_cons, List.nodup_cons] at nd
    rw [List.lookup_cons, List.lookup_cons, ih nd.2]
    by_cases e : y = x
    · subst e
      have : (y == z) = false := beq_eq_false_iff_ne.mpr fun q => nd.1 (q ▸ h.mem)
      simp [this]
    · simp [e]

/-- setting an entry of the ledger -/
inductive Set1 : Led → Addr → Ent → Ent → Led → Prop
  | here {a : Addr} {e e' : Ent} {u : Led} : Set1 ((a, e) :: u) a e e' ((a, e') :: u)
  | there {p : Addr × Ent} {u u' : Led} {a : Addr} {e e' : Ent} : Set1 u a e e' u' → Set1 (p :: u) a e e' (p :: u')
theorem Set1.keys {u u' : Led} {a : Addr} {e e' : Ent} (h : Set1 u a e e' u') : u'.map (·.1) = u.map (·.1) := by
  induction h with
  | here => rfl
  | there _ ih => simp only [List.map_cons, ih]
theorem Set1.mem {u u' : Led} {a : Addr} {e e' : Ent} (h : Set1 u a e e' u') : (a, e) ∈ u := by
  induction h with
  | here => exact .head _
  | there _ ih => exact .tail _ ih
theorem Set1.mem' {u u' : Led} {a : Addr} {e e' : Ent} (h : Set1 u a e e' u') (nd : (u.map (·.1)).Nodup) : ∀ p ∈ u', p = (a, e') ∨ (p ∈ u ∧ p.1 ≠ a) := by
  induction h with
  | @here a e e' u =>
    intro p hp
    rw [List.map_cons, List.nodup_cons] at nd
    rcases List.mem_cons.mp hp with rfl | hp
    · exact .inl rfl
    · exact .inr ⟨.tail _ hp, fun q => nd.1 (q ▸ List.mem_map_of_mem (f := (·.1)) hp)⟩
  | @there p u u' a e e' h ih =>
    rw [List.map_cons, List.nodup_cons] at nd
    intro q hq
    rcases List.mem_cons.mp hq with rfl | hq
    · exact .inr ⟨.head _, fun z => nd.1 (z ▸ List.mem_map_of_mem (f := (·.1)) h.mem)⟩
    · rcases ih nd.2 q hq with r | ⟨r, r'⟩
      · exact .inl r
      · exact .inr ⟨.tail _ r, r'⟩

/-- the state behind a change of one object of the ledger -/
theorem Own.set {Γ : Cx} {g : Heap} {u u' : Led} {h h' : Heap} (o : Own Γ g u h) {a : Addr} {e e' : Ent} (s : Set1 u a e e' u') (hs : ∀ b ob, b ≠ a → h.get? b = some ob → h'.get? b = some ob) (ok : e'.Ok Γ.w.params g h' a) : Own Γ g u' h' := by
  refine ⟨o.base, fun b ob q => ?_, by rw [s.keys]; exact o.nodup, fun p hp => ?_⟩
  · refine hs b ob (fun z => ?_) (o.keep b ob q)
    have := (o.ok _ s.mem).2; rw [z] at q; rw [this] at q; cases q
  · rcases s.mem' o.nodup p hp with rfl | ⟨hp, hne⟩
    · exact ⟨ok, (o.ok _ s.mem).2⟩
    · exact ⟨(o.ok _ hp).1.at fun ob q => hs _ _ hne q, (o.ok _ hp).2⟩
theorem Step.set {gs : Array GenState} {g : Heap} {u u' : Led} {h h' : Heap} {a : Addr} {e e' : Ent} (s : Set1 u a e e' u') (hs : ∀ b ob, b ≠ a → h.get? b = some ob → h'.get? b = some ob) : Step ⟨gs, g, u, h⟩ ⟨gs, g, u', h'⟩ :=
  ⟨.refl _, .refl _, fun q o e n => ⟨hs q o (fun z => n (z ▸ List.mem_map_of_mem (f := (·.1)) s.mem)) e, by show q ∉ u'.map (·.1); rw [s.keys]; exact n, id⟩⟩

section
variable {Γ : Cx} {n : Nat} {env : Env} {u : Led} {x : Str} {pos : Pos}

theorem store_ {d : D} {m m' : List (Str × Option D)} {u' : Led} {Q : Unit → Led → Prop} {names : List (Str × NameKind)} {L : Addr} {cs : List (Str × Addr)} (he : EnvI env names L cs) (hk : (x, NameKind.local) ∈ names) (hs : Set1 u L (.ns m) (.ns m') u') (hp : Put m x d m') (hQ : Q () u') :
    On1 Γ (fun _ (_ _ : Unit) => True) n (fun v => storeName env x v) d Q u := by
  rintro a ho rfl v hv A dr os tk hA
  obtain ⟨μ, hn, nd, hsl⟩ := ho.ns hs.mem
  have hloc := he.loc
  subst hloc
  refine wpAny_storeName_local (he.kind hk) hn (fun h' hn' hb => ?_) (by rw [he.fn]; rfl)
  refine ⟨⟨a.gs, a.g, u', h'⟩, _, (), rfl, Step.set hs fun b ob ne q => (hb.2 b ne).trans q, ho.set hs (fun b ob ne q => (hb.2 b ne).trans q) ⟨_, hn', by rw [hp.keys]; exact nd, fun y => ?_⟩, trivial, hQ⟩
  rw [hp.look nd]
  by_cases e : y = x
  · simp only [e, if_true]; exact ⟨v, rfl, hv⟩
  · simp only [e, if_false]; exact hsl y

theorem storeC_ {c : Addr} {d : D} {od : Option D} {u' : Led} {Q : Unit → Led → Prop} {names : List (Str × NameKind)} {L : Addr} {cs : List (Str × Addr)} (he : EnvI env names L cs) (hk : (x, NameKind.cell) ∈ names) (hc : (x, c) ∈ cs) (hs : Set1 u c (.cell od) (.cell (some d)) u') (hQ : Q () u') :
    On1 Γ (fun _ (_ _ : Unit) => True) n (fun v => storeName env x v) d Q u := by
  rintro a ho rfl v hv A dr os tk hA
  obtain ⟨v0, hc0, _⟩ := (ho.ok _ hs.mem).1
  refine wpAny_storeName_cell he.fn (he.kind hk) (he.cell hc) hc0 (fun h' hn' hb => ?_)
  exact ⟨⟨a.gs, a.g, u', h'⟩, _, (), rfl, Step.set hs fun b ob ne q => (hb.2 b ne).trans q, ho.set hs (fun b ob ne q => (hb.2 b ne).trans q) ⟨_, hn', v, rfl, hv⟩, trivial, hQ⟩

theorem Assign_ {e : Expr} {p : Pos} {Q : Fl → Led → Prop} (h : Ev Γ n (eval e env) (fun d u1 => On1 Γ (fun _ (_ _ : Unit) => True) n (fun v => storeName env x v) d (fun _ u2 => Q .next u2) u1) u)
    (hs : swapsWith e (some (.Name x p)) pos.line env = pure false := by with_unfolding_all rfl) : Ex Γ n (exec (.Assign [.Name x p] e pos) env) Q u := by
  rintro a ho rfl A dr os tk hA
  refine wpAny_Assign_Name ((h a ho rfl).to hA fun b tk v d st ob r q => ?_) hs
  exact (q b ob rfl v r).to hA fun c tk v2 d2 st2 oc r2 q2 => ⟨c, tk, .next, rfl, st.trans st2, oc, .next, q2⟩

theorem args_nil {Q : List D → Led → Prop} (hQ : Q [] u) : As Γ n (spliced []) Q u := by
  rintro a ho rfl A dr os tk hA
  exact spliced_nil (Out.same ho .nil hQ)
theorem args_cons {t : Sem Value} {rest : List (Bool × Sem Value)} {Q : List D → Led → Prop} (h : Ev Γ n t (fun d u1 => As Γ n (spliced rest) (fun ds u2 => Q (d :: ds) u2) u1) u) : As Γ n (spliced ((false, t) :: rest)) Q u := by
  rintro a ho rfl A dr os tk hA
  refine Calls.spliced_cons ((h a ho rfl).to hA fun b tk v d st ob r q => (q b ob rfl).to hA fun c tk v2 d2 st2 oc r2 q2 => ?_)
  exact ⟨c, tk, _, rfl, st.trans st2, oc, .cons (r.keep st2.keep) r2, q2⟩
end
end Mine

namespace Mine
open PySem PySem.W PySem.Calls
open PyProof.Rows (Subscript_ subscriptTail tail_any)

/-- a change of the view alone -/
theorem WL.ghost {α β : Type} {Γ : Cx} {R : Heap → α → β → Prop} {n : Nat} {t : Sem α} {Q : β → Led → Prop} {u u' : Led}
    (v : ∀ (gs : Array GenState) (g h : Heap), Own Γ g u h → ∃ g', Own Γ g' u' h ∧ Step ⟨gs, g, u, h⟩ ⟨gs, g', u', h⟩) (h : WL Γ R n t Q u') : WL Γ R n t Q u := by
  rintro ⟨gs, g, uu, hp⟩ ho hu A dr os tk hA
  obtain rfl : uu = u := hu
  obtain ⟨g', ho', st⟩ := v gs g hp ho
  exact (h ⟨gs, g', u', hp⟩ ho' rfl).to hA fun b tk x y s2 ow r q => ⟨b, tk, y, rfl, st.trans s2, ow, r, q⟩

/-- some objects more are taken as fixed -/
def addTo (g h : Heap) (S : List Addr) : Heap := hideAll h ((List.range h.objs.size).filter fun b => (g.get? b).isNone && !S.contains b)
theorem addTo_get {g h : Heap} {S : List Addr} {b : Addr} {o : Obj} (e : h.get? b = some o) (q : (∃ o', g.get? b = some o') ∨ b ∈ S) : (addTo g h S).get? b = some o := by
  refine hideAll_get _ e fun hm => ?_
  have := (List.mem_filter.mp hm).2
  rw [Bool.and_eq_true, Bool.not_eq_true'] at this
  rcases q with ⟨o', q⟩ | q
  · rw [q] at this; cases this.1
  · rw [List.contains_iff_mem.mpr q] at this; cases this.2
theorem addTo_of {g h : Heap} {S : List Addr} {b : Addr} {o : Obj} (e : (addTo g h S).get? b = some o) : h.get? b = some o := of_hideAll _ e
theorem addTo_none {g h : Heap} {S : List Addr} {b : Addr} (e : g.get? b = none) (n : b ∉ S) : (addTo g h S).get? b = none := by
  cases q : (addTo g h S).get? b with
  | none => rfl
  | some o =>
    have hb := Heap.lt_size (addTo_of q)
    have : b ∈ (List.range h.objs.size).filter fun b => (g.get? b).isNone && !S.contains b := List.mem_filter.mpr ⟨List.mem_range.mpr hb, by rw [e]; simp [n]⟩
    have z := hideAll_none ((List.range h.objs.size).filter fun b => (g.get? b).isNone && !S.contains b) (h := h) this
    unfold addTo at q; rw [z] at q; cases q
theorem addTo_keep {g h : Heap} {S : List Addr} (k : Keep g h) : Keep g (addTo g h S) := fun b o e => addTo_get (k _ _ e) (.inl ⟨o, e⟩)
theorem Own.add {Γ : Cx} {g : Heap} {u : Led} {h : Heap} (o : Own Γ g u h) {S : List Addr} (d : ∀ a ∈ S, a ∉ u.map (·.1)) : Own Γ (addTo g h S) u h :=
  ⟨o.base.trans (addTo_keep o.keep), fun b ob e => addTo_of e, o.nodup, fun p hp => ⟨(o.ok p hp).1.keep (addTo_keep o.keep), addTo_none (o.ok p hp).2 fun hm => d _ hm (List.mem_map_of_mem (f := (·.1)) hp)⟩⟩

theorem Own.lt {Γ : Cx} {g : Heap} {u : Led} {h : Heap} (o : Own Γ g u h) : ∀ a ∈ u.map (·.1), a < h.objs.size := fun a ha => by
  obtain ⟨p, hp, rfl⟩ := List.mem_map.mp ha
  obtain ⟨ob, e⟩ := (o.ok p hp).1.lt
  exact Heap.lt_size e
theorem Own.grow {Γ : Cx} {g : Heap} {u : Led} {h h' : Heap} (o : Own Γ g u h) (k : Keep h h') : Own Γ g u h' :=
  ⟨o.base, o.keep.trans k, o.nodup, fun p hp => ⟨(o.ok p hp).1.at fun _ e => k _ _ e, (o.ok p hp).2⟩⟩
theorem Step.grow {gs : Array GenState} {g : Heap} {u : Led} {h h' : Heap} {S : List Addr} (o : Own Γ g u h') (k : Keep h h') (f : ∀ a ∈ S, h.get? a = none) : Step ⟨gs, g, u, h⟩ ⟨gs, addTo g h' S, u, h'⟩ :=
  ⟨.refl _, addTo_keep o.keep, fun q ob e nq => ⟨k _ _ e, nq, fun z => addTo_none z fun hm => by rw [f q hm] at e; cases e⟩⟩

theorem fresh_size (h : Heap) : h.get? h.objs.size = none := by
  cases q : h.get? h.objs.size with
  | none => rfl
  | some z => exact absurd (Heap.lt_size q) (Nat.lt_irrefl _)
/-- a fresh object that is fixed at once -/
theorem Own.alloc {Γ : Cx} {gs : Array GenState} {g : Heap} {u : Led} {h : Heap} (o : Own Γ g u h) (ob : Obj) (hf : ob.isFreed = false) :
    ∃ g', Step ⟨gs, g, u, h⟩ ⟨gs, g', u, h.push ob⟩ ∧ Own Γ g' u (h.push ob) ∧ g'.get? h.objs.size = some ob := by
  have o' := o.grow (Keep.push h ob)
  have nm : ∀ a ∈ [h.objs.size], a ∉ u.map (·.1) := fun a ha hm => by rw [List.mem_singleton.mp ha] at hm; exact Nat.lt_irrefl _ (o.lt _ hm)
  exact ⟨addTo g (h.push ob) [h.objs.size], Step.grow o' (Keep.push h ob) (fun a ha => by rw [List.mem_singleton.mp ha]; exact fresh_size h), o'.add nm, addTo_get (Heap.get?_push_size _ hf) (.inr (.head _))⟩
/-- a fresh object of the ledger -/
theorem Own.alloc1 {Γ : Cx} {g : Heap} {u : Led} {h : Heap} (o : Own Γ g u h) {ob : Obj} {e : Ent} (he : ∀ g', g'.get? h.objs.size = some ob → e.Ok Γ.w.params g g' h.objs.size) (hf : ob.isFreed = false) :
    Own Γ g ((h.objs.size, e) :: u) (h.push ob) := by
  have o' := o.grow (Keep.push h ob)
  refine ⟨o'.base, o'.keep, List.nodup_cons.mpr ⟨fun hm => Nat.lt_irrefl _ (o.lt _ hm), o.nodup⟩, fun p hp => ?_⟩
  rcases List.mem_cons.mp hp with rfl | hp
  · refine ⟨he _ (Heap.get?_push_size _ hf), ?_⟩
    cases q : g.get? h.objs.size with
    | none => rfl
    | some z => exact absurd (Heap.lt_size (o.keep _ _ q)) (Nat.lt_irrefl _)
  · exact o'.ok p hp
theorem Step.alloc1 {gs : Array GenState} {g : Heap} {u : Led} {h : Heap} (ob : Obj) (e : Ent) : Step ⟨gs, g, u, h⟩ ⟨gs, g, (h.objs.size, e) :: u, h.push ob⟩ :=
  ⟨.refl _, .refl _, fun q o e nq => ⟨Keep.push h ob _ _ e, fun hm => by
    rcases List.mem_cons.mp hm with z | z
    · dsimp only at z e; rw [z] at e; exact Nat.lt_irrefl _ (Heap.lt_size e)
    · exact nq z, id⟩⟩

theorem IsAll.length {P : Params} {g : Heap} : ∀ {vs : List Value} {ds : List D}, IsAll P g vs ds → vs.length = ds.length
  | _, _, .nil => rfl
  | _, _, .cons _ r => congrArg (· + 1) r.length
theorem IsAll.append {P : Params} {g : Heap} : ∀ {vs ws : List Value} {ds es : List D}, IsAll P g vs ds → IsAll P g ws es → IsAll P g (vs ++ ws) (ds ++ es)
  | _, _, _, _, .nil, h => h
  | _, _, _, _, .cons h r, k => .cons h (r.append k)
theorem IsAll.get {P : Params} {g : Heap} : ∀ {vs : List Value} {ds : List D}, IsAll P g vs ds → ∀ {i : Nat} {d : D}, ds[i]? = some d → ∃ v, vs[i]? = some v ∧ Is P g v d
  | _, _, .nil, i, d, e => by simp at e
  | _, _, .cons h r, 0, d, e => by simp at e; subst e; exact ⟨_, rfl, h⟩
  | _, _, .cons h r, i + 1, d, e => by simp at e; simpa using r.get e

section
variable {Γ : Cx} {n : Nat} {env : Env} {u : Led} {x : Str} {pos : Pos}

theorem newTuple_ {ds : List D} {Q : D → Led → Prop} (hQ : Q (.tup ds) u) (hz : ds.length ≤ sizeLine) : OnL Γ (Is Γ.w.params) n newTuple ds Q u := by
  rintro ⟨gs, g, _, h⟩ ho rfl vs hv A dr os tk hA
  obtain ⟨g', st, o', e⟩ := ho.alloc (gs := gs) { cls := .type "tuple", data := .seq vs.toArray } rfl
  exact wpAny_newTuple ⟨⟨gs, g', _, _⟩, tk, _, rfl, st, o', .tup e (hv.keep st.keep), hQ⟩ (by rw [hv.length]; exact hz)
theorem newListF_ {ds : List D} {Q : D → Led → Prop} (hQ : Q (.list ds) u) (hz : ds.length ≤ sizeLine) : OnL Γ (Is Γ.w.params) n newList ds Q u := by
  rintro ⟨gs, g, _, h⟩ ho rfl vs hv A dr os tk hA
  obtain ⟨g', st, o', e⟩ := ho.alloc (gs := gs) { cls := .type "list", data := .seq vs.toArray } rfl
  exact wpAny_newList ⟨⟨gs, g', _, _⟩, tk, _, rfl, st, o', .list e (hv.keep st.keep), hQ⟩ (by rw [hv.length]; exact hz)
theorem newListM_ {ds : List D} {Q : D → Led → Prop} (hQ : ∀ l, Q (.raw (.ref l)) ((l, .list ds) :: u)) (hz : ds.length ≤ sizeLine) : OnL Γ (Is Γ.w.params) n newList ds Q u := by
  rintro ⟨gs, g, _, h⟩ ho rfl vs hv A dr os tk hA
  exact wpAny_newList ⟨⟨gs, g, _, _⟩, tk, _, rfl, Step.alloc1 _ (.list ds), ho.alloc1 (fun g' e => ⟨vs, _, e, hv⟩) rfl, .raw _, hQ _⟩ (by rw [hv.length]; exact hz)

theorem argE_nil {Q : List D → Led → Prop} (hQ : Q [] u) : As Γ n (spliced (backTo pos (starEach [] env))) Q u := args_nil hQ
theorem argE_cons {e : Expr} {rest : List Expr} {Q : List D → Led → Prop} (h : Ev Γ n (eval e env) (fun d u1 => As Γ n (spliced (backTo pos (starEach rest env))) (fun ds u2 => Q (d :: ds) u2) u1) u)
    (hs : starEach (e :: rest) env = (false, eval e env) :: starEach rest env := by rfl) : As Γ n (spliced (backTo pos (starEach (e :: rest) env))) Q u := by
  rw [hs]; exact args_cons h

theorem Tuple_ {es : List Expr} {k : Nat} {Q : D → Led → Prop} (h : As Γ n (spliced (backTo pos (starEach es env))) (fun ds u1 => OnL Γ (Is Γ.w.params) n newTuple ds Q u1) u) : Ev Γ n (eval (.Tuple es k pos) env) Q u := by
  rintro a ho rfl A dr os tk hA
  refine PyProof.Rows.Tuple_ ((h a ho rfl).to hA fun b tk v d st ob r q => ?_)
  exact (q b ob rfl v r).to hA fun c tk v2 d2 st2 oc r2 q2 => ⟨c, tk, d2, rfl, st.trans st2, oc, r2, q2⟩
theorem List_ {es : List Expr} {Q : D → Led → Prop} (h : As Γ n (spliced (backTo pos (starEach es env))) (fun ds u1 => OnL Γ (Is Γ.w.params) n newList ds Q u1) u) : Ev Γ n (eval (.List es pos) env) Q u := by
  rintro a ho rfl A dr os tk hA
  refine PyProof.Rows.List_ ((h a ho rfl).to hA fun b tk v d st ob r q => ?_)
  exact (q b ob rfl v r).to hA fun c tk v2 d2 st2 oc r2 q2 => ⟨c, tk, d2, rfl, st.trans st2, oc, r2, q2⟩

/-- numbers, texts -/
theorem addI {a b : Int} {Q : D → Led → Prop} (hQ : Q (.int (a + b)) u) : On2 Γ (Is Γ.w.params) n (binaryOp .Add) (.int a) (.int b) Q u := by
  rintro s ho rfl v x hv hx A dr os tk hA; cases hv; cases hx; exact PyProof.Rows.add_int (Out.same ho (.int _ _) hQ)
theorem subI {a b : Int} {Q : D → Led → Prop} (hQ : Q (.int (a - b)) u) : On2 Γ (Is Γ.w.params) n (binaryOp .Sub) (.int a) (.int b) Q u := by
  rintro s ho rfl v x hv hx A dr os tk hA; cases hv; cases hx; exact PyProof.Rows.sub_int (Out.same ho (.int _ _) hQ)
theorem mulI {a b : Int} {Q : D → Led → Prop} (hb : IntMulOk a b) (hQ : Q (.int (a * b)) u) : On2 Γ (Is Γ.w.params) n (binaryOp .Mult) (.int a) (.int b) Q u := by
  rintro s ho rfl v x hv hx A dr os tk hA; cases hv; cases hx; exact PyProof.Rows.mul_int (Out.same ho (.int _ _) hQ) hb
theorem fdivI {a b : Int} {Q : D → Led → Prop} (hb : b ≠ 0) (hp : Builtin.divisionGoesByPylong a b = false) (hQ : Q (.int (a.fdiv b)) u) : On2 Γ (Is Γ.w.params) n (binaryOp .FloorDiv) (.int a) (.int b) Q u := by
  rintro s ho rfl v x hv hx A dr os tk hA; cases hv; cases hx; exact PyProof.Rows.floordiv_int hb (Out.same ho (.int _ _) hQ) (.inl hp)
theorem modI {a b : Int} {Q : D → Led → Prop} (hb : b ≠ 0) (hQ : Q (.int (a.fmod b)) u) : On2 Γ (Is Γ.w.params) n (binaryOp .Mod) (.int a) (.int b) Q u := by
  rintro s ho rfl v x hv hx A dr os tk hA; cases hv; cases hx; exact PyProof.Rows.mod_int' hb (Out.same ho (.int _ _) hQ)
theorem negI {a : Int} {Q : D → Led → Prop} (hQ : Q (.int (-a)) u) : On1 Γ (Is Γ.w.params) n (unaryOp .USub) (.int a) Q u := by
  rintro s ho rfl v hv A dr os tk hA; cases hv; exact PyProof.Rows.neg_int (Out.same ho (.int _ _) hQ)
theorem ltI {a b : Int} {Q : D → Led → Prop} (hQ : Q (.bool (decide (a < b))) u) : On2 Γ (Is Γ.w.params) n (compareOp .Lt) (.int a) (.int b) Q u := by
  rintro s ho rfl v x hv hx A dr os tk hA; cases hv; cases hx; exact PyProof.Rows.lt_int (Out.same ho (.bool _) hQ)
theorem gtI {a b : Int} {Q : D → Led → Prop} (hQ : Q (.bool (decide (b < a))) u) : On2 Γ (Is Γ.w.params) n (compareOp .Gt) (.int a) (.int b) Q u := by
  rintro s ho rfl v x hv hx A dr os tk hA; cases hv; cases hx; exact PyProof.Rows.gt_int (Out.same ho (.bool _) hQ)
theorem geI {a b : Int} {Q : D → Led → Prop} (hQ : Q (.bool (decide (b ≤ a))) u) : On2 Γ (Is Γ.w.params) n (compareOp .GtE) (.int a) (.int b) Q u := by
  rintro s ho rfl v x hv hx A dr os tk hA; cases hv; cases hx; exact PyProof.Rows.ge_int (Out.same ho (.bool _) hQ)
theorem eqI {a b : Int} {Q : D → Led → Prop} (hQ : Q (.bool (a == b)) u) : On2 Γ (Is Γ.w.params) n (compareOp .Eq) (.int a) (.int b) Q u := by
  rintro s ho rfl v x hv hx A dr os tk hA; cases hv; cases hx; exact PyProof.Rows.eq_int (Out.same ho (.bool _) hQ)
theorem eqS {a b : Str} {Q : D → Led → Prop} (hQ : Q (.bool (a == b)) u) : On2 Γ (Is Γ.w.params) n (compareOp .Eq) (.str a) (.str b) Q u := by
  rintro s ho rfl v x hv hx A dr os tk hA; cases hv; cases hx; exact PyProof.Rows.eq_str (Out.same ho (.bool _) hQ)
theorem addS {a b : Str} {Q : D → Led → Prop} (hz : a.length + b.length ≤ sizeLine) (hQ : Q (.str (a ++ b)) u) : On2 Γ (Is Γ.w.params) n (binaryOp .Add) (.str a) (.str b) Q u := by
  rintro s ho rfl v x hv hx A dr os tk hA; cases hv; cases hx; exact PyProof.Rows.add_str (fun t' tk' => Out.same ho (.str _ _) hQ) hz

/-- items -/
theorem Sub_ {e i : Expr} {Q : D → Led → Prop} (h : Ev Γ n (eval e env) (fun d1 u1 => Ev Γ n (eval i env) (fun d2 u2 => On2 Γ (Is Γ.w.params) n (subscriptTail e i) d1 d2 Q u2) u1) u) : Ev Γ n (eval (.Subscript e i pos) env) Q u := by
  rintro a ho rfl A dr os tk hA
  refine Subscript_ ((h a ho rfl).to hA fun b tk v d st ob r q => (q b ob rfl).to hA fun c tk v2 d2 st2 oc r2 q2 => ?_)
  exact (q2 c oc rfl v v2 (r.keep st2.keep) r2).to hA fun e tk v3 d3 st3 oe r3 q3 => ⟨e, tk, d3, rfl, (st.trans st2).trans st3, oe, r3, q3⟩

/-- an item of a row: of a fixed list, a tuple, a list of the ledger -/
theorem itemL {e i : Expr} {ds : List D} {k : Int} {d : D} {Q : D → Led → Prop} (h0 : 0 ≤ k) (h1 : k < 2 ^ 63) (hd : ds[k.toNat]? = some d) (hQ : Q d u)
    (hs : ∀ o t, subscripted i false o (.int k t) = operate [o, .int k t] (getItem o (.int k t)) := by intros; with_unfolding_all rfl) : On2 Γ (Is Γ.w.params) n (subscriptTail e i) (.list ds) (.int k) Q u := by
  rintro s ho rfl v x hv hx A dr os tk hA
  cases hx with | int _ t => ?_
  cases hv with | list hl hr => ?_
  obtain ⟨y, hy, hi⟩ := hr.get hd
  have hl' := ho.keep _ _ hl
  have hL : s.h.IsList _ _ := ⟨_, hl', rfl, _, rfl⟩
  exact tail_any ⟨_, hl', rfl⟩ slot_list_getitem.lookup (wpAny_getItem_list hL h0 h1 (by simpa using hy) (Out.same ho hi hQ)) (hs _ _)
theorem itemT {e i : Expr} {ds : List D} {k : Int} {j : Nat} {d : D} {Q : D → Led → Prop} (h0 : -(2 ^ 63) ≤ k) (h1 : k < 2 ^ 63) (hj : seqIndex? k ds.length = some j) (hd : ds[j]? = some d) (hQ : Q d u)
    (hs : ∀ o t, subscripted i false o (.int k t) = operate [o, .int k t] (getItem o (.int k t)) := by intros; with_unfolding_all rfl) : On2 Γ (Is Γ.w.params) n (subscriptTail e i) (.tup ds) (.int k) Q u := by
  rintro s ho rfl v x hv hx A dr os tk hA
  cases hx with | int _ t => ?_
  cases hv with | tup hl hr => ?_
  obtain ⟨y, hy, hi⟩ := hr.get hd
  have hl' := ho.keep _ _ hl
  exact PyProof.Rows.item_tupleT ⟨_, hl', rfl, _, rfl⟩ h0 h1 (by rw [hr.length]; exact hj) hy (Out.same ho hi hQ) (hs _ _)
theorem itemM {e i : Expr} {l : Addr} {ds : List D} {k : Int} {d : D} {Q : D → Led → Prop} (hL : (l, Ent.list ds) ∈ u) (h0 : 0 ≤ k) (h1 : k < 2 ^ 63) (hd : ds[k.toNat]? = some d) (hQ : Q d u)
    (hs : ∀ o t, subscripted i false o (.int k t) = operate [o, .int k t] (getItem o (.int k t)) := by intros; with_unfolding_all rfl) : On2 Γ (Is Γ.w.params) n (subscriptTail e i) (.raw (.ref l)) (.int k) Q u := by
  rintro s ho rfl v x hv hx A dr os tk hA
  cases hx with | int _ t => ?_
  cases hv
  obtain ⟨vs, m, hl, hr⟩ := (ho.ok _ hL).1
  obtain ⟨y, hy, hi⟩ := hr.get hd
  have hL : s.h.IsList _ _ := ⟨_, hl, rfl, _, rfl⟩
  exact tail_any ⟨_, hl, rfl⟩ slot_list_getitem.lookup (wpAny_getItem_list hL h0 h1 (by simpa using hy) (Out.same ho hi hQ)) (hs _ _)
theorem itemS {e i : Expr} {x : Str} {k : Int} {c : Nat} {Q : D → Led → Prop} (h0 : -(2 ^ 63) ≤ k) (h1 : k < 2 ^ 63) (hd : ((seqIndex? k x.length).bind fun j => x.cps[j]?) = some c) (hQ : Q (.str ⟨#[c]⟩) u)
    (hs : ∀ o t, subscripted i false o (.int k t) = operate [o, .int k t] (getItem o (.int k t)) := by intros; with_unfolding_all rfl) : On2 Γ (Is Γ.w.params) n (subscriptTail e i) (.str x) (.int k) Q u := by
  rintro s ho rfl v y hv hx A dr os tk hA
  cases hx with | int _ t => ?_
  cases hv with | str _ t' => ?_
  exact tail_any (show typeOf _ = _ from rfl) F.slot_str_getitem.lookup (PyProof.Rows.getItem_str (by simp; omega) hd (Out.same ho (.str _ _) hQ)) (hs _ _)

/-- list[k] = v of the ledger -/
theorem append_ {l : Addr} {ds : List D} {d : D} {u' : Led} {Q : D → Led → Prop} (hs : Set1 u l (.list ds) (.list (ds ++ [d])) u') (hz : ds.length ≤ sizeLine) (hQ : Q .none u') :
    OnL Γ (Is Γ.w.params) n (fun vs => call (.builtin "list.append") vs) [.raw (.ref l), d] Q u := by
  rintro ⟨gs, g, _, h⟩ ho rfl vs hv A dr os tk hA
  cases hv with | cons h1 h2 => ?_
  cases h2 with | cons h2 h3 => ?_
  cases h3
  cases h1
  obtain ⟨vs, m, hl, hr⟩ := (ho.ok _ hs.mem).1
  refine wpAny_list_append_plain (items := vs.toArray) ⟨_, hl⟩ (fun h' hp hb => ?_) (by rw [List.size_toArray, hr.length]; exact hz)
  have hb' : ∀ b ob, b ≠ l → h.get? b = some ob → h'.get? b = some ob := fun b ob ne q => (hb.2 b ne).trans q
  obtain ⟨m', hp⟩ := hp
  exact ⟨⟨gs, g, u', h'⟩, tk, _, rfl, Step.set hs hb', ho.set hs hb' ⟨vs ++ [_], m', by rw [hp]; simp, hr.append (.cons h2 .nil)⟩, .none, hQ⟩
end
end Mine

namespace Mine
open PySem PySem.W PySem.Calls
open PyProof.Rows (Subscript_ subscriptTail tail_any)

/-- the names of a frame that is entered: those bound, then the rest -/
inductive Init : List (Str × D) → List Str → List (Str × Option D) → Prop
  | nil : Init [] [] []
  | rest {r : Str} {rs : List Str} {m : List (Str × Option D)} : Init [] rs m → Init [] (r :: rs) ((r, none) :: m)
  | bind {x : Str} {d : D} {bs : List (Str × D)} {rs : List Str} {m : List (Str × Option D)} : Init bs rs m → Init ((x, d) :: bs) rs ((x, some d) :: m)

theorem IsF.look {P : Params} {g : Heap} : ∀ {fs : List (Str × Value)} {bs : List (Str × D)}, IsF P g fs bs → ∀ x, (∃ d v, bs.lookup x = some d ∧ fs.lookup x = some v ∧ Is P g v d) ∨ (bs.lookup x = none ∧ fs.lookup x = none)
  | _, _, .nil, x => .inr ⟨rfl, rfl⟩
  | _, _, .cons (x := y) h r, x => by
    simp only [List.lookup_cons]
    cases x == y with
    | true => exact .inl ⟨_, _, rfl, rfl, h⟩
    | false => exact r.look x
theorem IsF.keys {P : Params} {g : Heap} : ∀ {fs : List (Str × Value)} {bs : List (Str × D)}, IsF P g fs bs → fs.map (·.1) = bs.map (·.1)
  | _, _, .nil => rfl
  | _, _, .cons h r => by simp only [List.map_cons, r.keys]
theorem Init.look {bs : List (Str × D)} {rs : List Str} {m : List (Str × Option D)} (h : Init bs rs m) (x : Str) : (∃ d, bs.lookup x = some d ∧ m.lookup x = some (some d)) ∨ (bs.lookup x = none ∧ (m.lookup x = none ∨ m.lookup x = some none)) := by
  induction h with
  | nil => exact .inr ⟨rfl, .inl rfl⟩
  | rest _ ih =>
    rename_i r rs m _
    simp only [List.lookup_cons]
    cases x == r with
    | true => exact .inr ⟨rfl, .inr rfl⟩
    | false => exact ih
  | bind _ ih =>
    rename_i y d bs rs m _
    simp only [List.lookup_cons]
    cases x == y with
    | true => exact .inl ⟨_, rfl, rfl⟩
    | false => exact ih
theorem Init.keys {bs : List (Str × D)} {rs : List Str} {m : List (Str × Option D)} (h : Init bs rs m) : m.map (·.1) = bs.map (·.1) ++ rs := by
  induction h with
  | nil => rfl
  | rest _ ih => simp only [List.map_cons, ih]; rfl
  | bind _ ih => simp only [List.map_cons, ih]; rfl
theorem lookup_reverse {α : Type} {l : List (Str × α)} (nd : (l.map (·.1)).Nodup) (x : Str) : l.reverse.lookup x = l.lookup x := by
  induction l with
  | nil => rfl
  | cons p r ih =>
    obtain ⟨y, v⟩ := p
    rw [List.map_cons, List.nodup_cons] at nd
    rw [List.reverse_cons, List.lookup_append, ih nd.2, List.lookup_cons, List.lookup_cons]
    by_cases e : x = y
    · subst e
      have : r.lookup x = none := by
        cases q : r.lookup x with
        | none => rfl
        | some z => exact absurd (by obtain ⟨a, ha, rfl⟩ := lookup_some q; exact List.mem_map_of_mem (f := (·.1)) ha) nd.1
      simp [this]
    · have : (x == y) = false := beq_eq_false_iff_ne.mpr e
      simp [this]
where
  lookup_some {α : Type} {x : Str} {z : α} : ∀ {l : List (Str × α)}, l.lookup x = some z → ∃ a ∈ l, a.1 = x
    | [], h => by cases h
    | (y, v) :: r, h => by
      rw [List.lookup_cons] at h
      by_cases e : x = y
      · exact ⟨_, .head _, e.symm⟩
      · have : (x == y) = false := beq_eq_false_iff_ne.mpr e
        rw [this] at h
        obtain ⟨a, ha, e⟩ := lookup_some h
        exact ⟨a, .tail _ ha, e⟩

/-- the slots of a frame that is entered -/
theorem slots_of {P : Params} {g : Heap} {fs : List (Str × Value)} {bs : List (Str × D)} {rs : List Str} {m : List (Str × Option D)} (hf : IsF P g fs bs) (hm : Init bs rs m) (nd : (m.map (·.1)).Nodup) (x : Str) :
    SlotOk P g (m.lookup x) (fs.reverse.lookup x) := by
  have nd' : (fs.map (·.1)).Nodup := by
    rw [hm.keys] at nd
    rw [hf.keys]
    exact (List.nodup_append.mp nd).1
  rw [lookup_reverse nd']
  rcases hm.look x with ⟨d, h1, h2⟩ | ⟨h1, h2⟩
  · rcases hf.look x with ⟨d', v, h3, h4, h5⟩ | ⟨h3, h4⟩
    · rw [h1] at h3; cases h3
      rw [h2, h4]; exact ⟨v, rfl, h5⟩
    · rw [h1] at h3; cases h3
  · rcases hf.look x with ⟨d', v, h3, h4, h5⟩ | ⟨h3, h4⟩
    · rw [h1] at h3; cases h3
    · rw [h4]
      rcases h2 with h2 | h2 <;> rw [h2] <;> rfl

inductive Del : Led → Addr → Ent → Led → Prop
  | here {a : Addr} {e : Ent} {u : Led} : Del ((a, e) :: u) a e u
  | there {p : Addr × Ent} {u u' : Led} {a : Addr} {e : Ent} : Del u a e u' → Del (p :: u) a e (p :: u')
theorem Del.sub {u u' : Led} {a : Addr} {e : Ent} (h : Del u a e u') : (∀ p ∈ u', p ∈ u) ∧ (a, e) ∈ u ∧ ((u.map (·.1)).Nodup → (u'.map (·.1)).Nodup ∧ a ∉ u'.map (·.1)) := by
  induction h with
  | here => exact ⟨fun p hp => .tail _ hp, .head _, fun nd => by rw [List.map_cons, List.nodup_cons] at nd; exact ⟨nd.2, nd.1⟩⟩
  | @there p u u' a e h ih =>
    refine ⟨fun q hq => ?_, .tail _ ih.2.1, fun nd => ?_⟩
    · rcases List.mem_cons.mp hq with rfl | hq
      · exact .head _
      · exact .tail _ (ih.1 _ hq)
    · rw [List.map_cons, List.nodup_cons] at nd
      obtain ⟨a1, a2⟩ := ih.2.2 nd.2
      rw [List.map_cons, List.nodup_cons]
      refine ⟨⟨fun hm => nd.1 ?_, a1⟩, fun hm => ?_⟩
      · obtain ⟨q, hq, e⟩ := List.mem_map.mp hm
        exact List.mem_map.mpr ⟨q, ih.1 _ hq, e⟩
      · rcases List.mem_cons.mp hm with z | z
        · exact nd.1 (z ▸ List.mem_map_of_mem (f := (·.1)) ih.2.1)
        · exact a2 z
theorem Own.del {Γ : Cx} {g : Heap} {u u' : Led} {h : Heap} {a : Addr} {e : Ent} (o : Own Γ g u h) (d : Del u a e u') : Own Γ g u' h :=
  ⟨o.base, o.keep, (d.sub.2.2 o.nodup).1, fun p hp => o.ok p (d.sub.1 p hp)⟩
theorem Step.del {gs : Array GenState} {g : Heap} {u u' : Led} {h : Heap} {a : Addr} {e : Ent} (d : Del u a e u') : Step ⟨gs, g, u, h⟩ ⟨gs, g, u', h⟩ :=
  ⟨.refl _, .refl _, fun q o e n => ⟨e, fun hm => n (by obtain ⟨p, hp, z⟩ := List.mem_map.mp hm; exact List.mem_map.mpr ⟨p, d.sub.1 p hp, z⟩), id⟩⟩

/-- what a def's body must come to: its frame goes, the rest is asked -/
def Back (L : Addr) (Q : D → Led → Prop) (f : Fl) (u : Led) : Prop := match f with
  | .ret d => ∃ e u', Del u L e u' ∧ Q d u'
  | .next => ∃ e u', Del u L e u' ∧ Q .none u'
  | _ => False

/-- a def that is run, as code -/
def CodeL (Γ : Cx) (n : Nat) (f : Addr) (kw : List (Str × Value)) (ds : List D) (Q : D → Led → Prop) (u : Led) : Prop :=
  ∀ a, Own Γ a.g a.u a.h → a.u = u → ∀ vs, IsAll Γ.w.params a.g vs ds → ∀ A dr os tk, Ok n A →
    codeAny (model Γ.prog Γ.w) A (.call (.ref f) ⟨vs, kw⟩) (fun r s' => match r with | .ok (.ret v) => Out Γ (Is Γ.w.params) Q a dr os v s' | _ => False) (sh a dr tk os)
theorem CodeL.call {Γ : Cx} {n : Nat} {f : Addr} {kw : List (Str × Value)} {ds : List D} {Q : D → Led → Prop} {u : Led} (h : CodeL Γ n f kw ds Q u) : OnL Γ (Is Γ.w.params) n (fun vs => call (.ref f) vs kw) ds Q u := by
  intro a ho hu vs hv A dr os tk hA
  refine wpAny_call (codeAny_mono (h a ho hu vs hv A dr os tk hA) fun r s' x => ?_)
  rcases r with e | (v | _ | _ | _) <;> first | exact x | exact x.elim
section
variable {Γ : Cx} {n : Nat} {env : Env} {u : Led} {x : Str} {pos : Pos}

theorem defK_ {K : Frag} {f : Addr} {oc : Value} {od : Option Addr} {osl : Array (Option Value)} {fd : FuncData} {body : List Stmt} {ds : List D} {kw : List (Str × Value)} {bs : List (Str × D)} {rs : List Str} {m : List (Str × Option D)} {Q : D → Led → Prop}
    (hΓ : Γ.K = K) (hK : K.lookup f = some ⟨oc, od, .func fd, osl⟩) (hcd : codeIn K fd.code fd.qualname = true) (hb : fd.body = .stmts body)
    (hbind : ∀ (s : Shared) (g : Heap) (vs : List Value), Γ.K.In s.heap → Keep Γ.H0 g → IsAll Γ.w.params g vs ds → ∃ fs, BindsTo s fd ⟨vs, kw⟩ fs ∧ IsF Γ.w.params g fs bs)
    (hm : Init bs rs m) (hnd' : decide ((m.map (·.1)).Nodup) = true) (hloc' : ((bs.map (·.1)).all fun y => decide (fd.scope.names.lookup y = some .local)) = true)
    (hcell' : (fd.scope.names.all fun y => decide (y.2 ≠ .cell)) = true) (hco : fd.scope.isCoroutine = false) (hgen : fd.scope.isGenerator = false) (hk : fd.scope.kind = .function)
    (hE : envChk fd.scope.names (fd.closure.map (·.1)) = true) (hG : fd.globals = mainGlobals) (hB : fd.builtins = builtinsNs)
    (h : ∀ L, let env := callEnv fd L f; EnvI env fd.scope.names L fd.closure → Ex Γ n (execs body env) (Back L Q) ((L, .ns m) :: u)) : CodeL Γ (n + 1) f kw ds Q u := by
  have hnd := of_decide_eq_true hnd'
  have hloc : ∀ y ∈ bs.map (·.1), fd.scope.names.lookup y = some .local := fun y hy => of_decide_eq_true (List.all_eq_true.mp hloc' y hy)
  have hcell : ∀ y ∈ fd.scope.names, y.2 ≠ .cell := fun y hy => of_decide_eq_true (List.all_eq_true.mp hcell' y hy)
  subst hΓ
  rintro ⟨gs, g, uu, hp⟩ ho hu vs hv A dr os tk hA
  obtain rfl : uu = u := hu
  obtain ⟨fs, hbt, hf⟩ := hbind (sh ⟨gs, g, uu, hp⟩ dr tk os) g vs ho.K ho.base hv
  refine codeAny_mono (codeAny_call_def (R := fun r s' => match r with | .ok (.ret v) => Out Γ (Is Γ.w.params) Q ⟨gs, g, uu, hp⟩ dr os v s' | _ => False) (fd := fd) (body := body) (binds := fs) hA.room (ho.K _ _ hK) rfl (Γ.nolimit.keeps ho.H0) (codeRec_of ho.K hcd) hb hbt hcell (fun y hy => hloc _ (hf.keys ▸ List.mem_map_of_mem (f := (·.1)) hy)) (fun h₀ hns hk₀ => ?_) hco hgen hk) (fun r s' h => h)
  have o1 : Own Γ g ((hp.objs.size, .ns m) :: uu) h₀ := by
    have o' := ho.grow hk₀
    refine ⟨o'.base, o'.keep, List.nodup_cons.mpr ⟨fun hm => Nat.lt_irrefl _ (ho.lt _ hm), ho.nodup⟩, fun p hp' => ?_⟩
    rcases List.mem_cons.mp hp' with rfl | hp'
    · refine ⟨⟨_, hns, hnd, fun y => slots_of hf hm hnd y⟩, ?_⟩
      cases q : g.get? hp.objs.size with
      | none => rfl
      | some z => exact absurd (Heap.lt_size (ho.keep _ _ q)) (Nat.lt_irrefl _)
    · exact o'.ok p hp'
  have st : Step ⟨gs, g, uu, hp⟩ ⟨gs, g, (hp.objs.size, .ns m) :: uu, h₀⟩ := ⟨.refl _, .refl _, fun q o e nq => ⟨hk₀ _ _ e, fun hm => by
    rcases List.mem_cons.mp hm with z | z
    · dsimp only at z e; rw [z] at e; exact Nat.lt_irrefl _ (Heap.lt_size e)
    · exact nq z, id⟩⟩
  refine (h hp.objs.size ⟨hk, rfl, rfl, rfl, hG, hB, hE⟩ ⟨gs, g, _, h₀⟩ o1 rfl).to (hA.deeper _) fun b tk fl df s2 ob r q => ?_
  cases r with
  | next =>
    obtain ⟨e, u', d, q⟩ := q
    exact ⟨⟨b.gs, b.g, u', b.h⟩, tk, _, rfl, (st.trans s2).trans (Step.del d), ob.del d, .none, q⟩
  | brk => exact q.elim
  | cont => exact q.elim
  | ret i =>
    obtain ⟨e, u', d, q⟩ := q
    exact ⟨⟨b.gs, b.g, u', b.h⟩, tk, _, rfl, (st.trans s2).trans (Step.del d), ob.del d, i, q⟩

theorem def_ {K : Frag} {f : Addr} {oc : Value} {od : Option Addr} {osl : Array (Option Value)} {fd : FuncData} {body : List Stmt} {ds : List D} {kw : List (Str × Value)} {bs : List (Str × D)} {rs : List Str} {m : List (Str × Option D)} {Q : D → Led → Prop}
    (hΓ : Γ.K = K) (hK : K.lookup f = some ⟨oc, od, .func fd, osl⟩) (hcd : codeIn K fd.code fd.qualname = true) (hb : fd.body = .stmts body)
    (hbind : ∀ (s : Shared) (g : Heap) (vs : List Value), Γ.K.In s.heap → Keep Γ.H0 g → IsAll Γ.w.params g vs ds → ∃ fs, BindsTo s fd ⟨vs, kw⟩ fs ∧ IsF Γ.w.params g fs bs)
    (hm : Init bs rs m) (hnd' : decide ((m.map (·.1)).Nodup) = true) (hloc' : ((bs.map (·.1)).all fun y => decide (fd.scope.names.lookup y = some .local)) = true)
    (hcell' : (fd.scope.names.all fun y => decide (y.2 ≠ .cell)) = true) (hco : fd.scope.isCoroutine = false) (hgen : fd.scope.isGenerator = false) (hk : fd.scope.kind = .function)
    (hE : envChk fd.scope.names (fd.closure.map (·.1)) = true) (hG : fd.globals = mainGlobals) (hB : fd.builtins = builtinsNs)
    (h : ∀ L, let env := callEnv fd L f; EnvI env fd.scope.names L fd.closure → Ex Γ n (execs body env) (Back L Q) ((L, .ns m) :: u)) : OnL Γ (Is Γ.w.params) (n + 1) (fun vs => call (.ref f) vs kw) ds Q u :=
  (defK_ hΓ hK hcd hb hbind hm hnd' hloc' hcell' hco hgen hk hE hG hB h).call

/-- calls: what kind of thing is called -/
def Callee (Γ : Cx) (df : D) : Prop := ∀ g h v, Keep Γ.H0 g → Keep g h → Is Γ.w.params g v df → ∃ k, (k = Keeper.frame ∨ k = Keeper.machine ∨ k = Keeper.boundFrame) ∧ Looks (model Γ.prog Γ.w) h (keeperOf v) k
theorem Callee.fn {K : Frag} {v : Value} (hΓ : Γ.K = K) (hk : keepIn K v = true) : Callee Γ (.raw v) := fun g h _ k1 k2 i => by
  subst hΓ
  cases i
  exact keeps_K hk h fun a ob e => k2 _ _ (k1 _ _ (Γ.X a ob e))
theorem Callee.builtin {i : String} : Callee Γ (.raw (.builtin i)) := fun g h _ k1 k2 i => by
  cases i
  exact ⟨.machine, .inr (.inl rfl), Looks.of_pure rfl⟩
theorem Callee.type {i : String} : Callee Γ (.raw (.type i)) := fun g h _ k1 k2 i => by
  cases i
  exact ⟨.machine, .inr (.inl rfl), Looks.of_pure rfl⟩

def OnC (Γ : Cx) (n : Nat) (df : D) (ds : List D) (Q : D → Led → Prop) (u : Led) : Prop :=
  ∀ a, Own Γ a.g a.u a.h → a.u = u → ∀ vf vs, Is Γ.w.params a.g vf df → IsAll Γ.w.params a.g vs ds → Wg Γ (Is Γ.w.params) n (call vf vs) Q a
theorem onC_raw {v : Value} {ds : List D} {Q : D → Led → Prop} (h : OnL Γ (Is Γ.w.params) n (fun vs => call v vs) ds Q u) : OnC Γ n (.raw v) ds Q u := by
  rintro a ho rfl vf vs hf hv
  cases hf
  exact h a ho rfl vs hv

theorem callW_ {first : List Value} {fs : List D} {df : D} {es : List Expr} {Q : D → Led → Prop} (hc : Callee Γ df)
    (h : As Γ n (spliced (backTo pos (starEach es env))) (fun ds u1 => OnC Γ n df (fs ++ ds) Q u1) u) (a : Sg) (ho : Own Γ a.g a.u a.h) (hu : a.u = u) (vf : Value) (hf : Is Γ.w.params a.g vf df) (hfs : IsAll Γ.w.params a.g first fs)
    (he : es = [] ∨ ∃ e r, es = e :: r ∧ starEach es env = (false, eval e env) :: starEach r env) (hp : ((backTo pos (starEach es env)).any (·.1)) = false) :
    Wg Γ (Is Γ.w.params) n (callWith pos vf first (backTo pos (starEach es env)) []) Q a := by
  subst hu
  intro A dr os tk hA
  have key : wpAny (model Γ.prog Γ.w) A (spliced (backTo pos (starEach es env))) (fun vs s₁ => (∃ g, Keep Γ.H0 g ∧ Keep g s₁.heap ∧ Is Γ.w.params g vf df) ∧ wpAny (model Γ.prog Γ.w) A (call vf (first ++ vs)) (Out Γ (Is Γ.w.params) Q a dr os) (fun _ _ => False) s₁) (fun _ _ => False) (sh a dr tk os) := by
    refine (h a ho rfl).to hA fun b tk vs ds st ob r q => ⟨⟨b.g, ob.base, ob.keep, hf.keep st.keep⟩, ?_⟩
    exact (q b ob rfl vf _ (hf.keep st.keep) ((hfs.keep st.keep).append r)).to hA fun c tk v3 d3 st3 oe r3 q3 => ⟨c, tk, d3, rfl, st.trans st3, oe, r3, q3⟩
  refine callWith_of (P := fun h => ∃ g, Keep Γ.H0 g ∧ Keep g h ∧ Is Γ.w.params g vf df) (by rw [hp]; rfl) (fun h ⟨g, k1, k2, i⟩ => hc g h vf k1 k2 i) ?_
  rcases he with rfl | ⟨e, r, rfl, he⟩
  · refine PyProof.Rows.evalArgs_nil3 ?_
    have k2 := key
    obtain ⟨k3, k4⟩ : (∃ g, Keep Γ.H0 g ∧ Keep g (sh a dr tk os).heap ∧ Is Γ.w.params g vf df) ∧ wpAny (model Γ.prog Γ.w) A (call vf (first ++ [])) (Out Γ (Is Γ.w.params) Q a dr os) (fun _ _ => False) (sh a dr tk os) := by
      refine ⟨⟨a.g, ho.base, ho.keep, hf⟩, ?_⟩
      intro G p hG
      have := k2 G p hG
      exact (this).2 G p hG
    exact ⟨k3, k4⟩
  · have e2 : backTo pos (starEach (e :: r) env) = (false, eval e env) :: backTo pos (starEach r env) := by rw [he]; rfl
    rw [e2] at key ⊢
    exact evalArgs_plain key

theorem Call_ {fn : Expr} {es : List Expr} {Q : D → Led → Prop}
    (h : Ev Γ n (eval fn env) (fun df u1 => Callee Γ df ∧ As Γ n (spliced (backTo pos (starEach es env))) (fun ds u2 => OnC Γ n df ds Q u2) u1) u)
    (hq : eval (.Call fn es [] pos) env = (do let f ← eval fn env; callWith pos f [] (backTo pos (starEach es env)) (backToKw pos (keywordEach [] env))) := by rfl)
    (he : es = [] ∨ ∃ e r, es = e :: r ∧ starEach es env = (false, eval e env) :: starEach r env := by first | exact .inl rfl | exact .inr ⟨_, _, rfl, rfl⟩) (hp : ((backTo pos (starEach es env)).any (·.1)) = false := by rfl) :
    Ev Γ n (eval (.Call fn es [] pos) env) Q u := by
  rintro a ho rfl A dr os tk hA
  refine PyProof.Rows.Call_ ((h a ho rfl).to hA fun b tk v d st ob r q => ?_) hq
  exact (callW_ (fs := []) q.1 q.2 b ob rfl v r .nil he hp).to hA fun c tk v3 d3 st3 oe r3 q3 => ⟨c, tk, d3, rfl, st.trans st3, oe, r3, q3⟩

/-- methods of built-in types -/
def MethOf (Γ : Cx) (T id : String) (name : Str) (d : D) (u : Led) : Prop := ∀ a, Own Γ a.g a.u a.h → a.u = u → ∀ dr tk os v, Is Γ.w.params a.g v d → (sh a dr tk os).TypeIs v T ∧ ∀ q, v = .ref q → ∃ o, a.h.get? q = some o ∧ o.dict = none
theorem methM {l : Addr} {ds : List D} {id : String} {name : Str} (hL : (l, Ent.list ds) ∈ u) : MethOf Γ "list" id name (.raw (.ref l)) u := by
  rintro a ho rfl dr tk os v hv
  cases hv
  obtain ⟨vs, m, hl, hr⟩ := (ho.ok _ hL).1
  exact ⟨⟨_, hl, rfl⟩, fun q e => by cases e; exact ⟨_, hl, rfl⟩⟩
theorem methS {s : Str} {id : String} {name : Str} : MethOf Γ "str" id name (.str s) u := by
  rintro a ho rfl dr tk os v hv
  cases hv
  exact ⟨rfl, fun q e => by cases e⟩
theorem methD {ds : List (Str × D)} {id : String} {name : Str} : MethOf Γ "dict" id name (.dict ds) u := by
  rintro a ho rfl dr tk os v hv
  cases hv with | dict h _ => ?_
  obtain ⟨o, e, h1, h2, _⟩ := (h.at fun _ e => ho.keep _ _ e).1
  exact ⟨⟨_, e, h1⟩, fun q e' => by cases e'; exact ⟨_, e, h2⟩⟩
theorem methDM {l : Addr} {ds : List (Str × D)} {id : String} {name : Str} (hL : (l, Ent.dict ds) ∈ u) : MethOf Γ "dict" id name (.raw (.ref l)) u := by
  rintro a ho rfl dr tk os v hv
  cases hv
  obtain ⟨fs, hl, hr⟩ := (ho.ok _ hL).1
  obtain ⟨o, e, h1, h2, _⟩ := hl.1
  exact ⟨⟨_, e, h1⟩, fun q e' => by cases e'; exact ⟨_, e, h2⟩⟩

theorem CallM_ {o : Expr} {name : Str} {apos : Pos} {es : List Expr} {T id : String} {pl : Sem Bool} {Q : D → Led → Prop} (pa : PlainAttrs T) (sl : Slot T name id) (ty : typeOf (.builtin id) = pure (.type "method_descriptor"))
    (h : Ev Γ n (eval o env) (fun d u1 => MethOf Γ T id name d u1 ∧ As Γ n (spliced (backTo pos (starEach es env))) (fun ds u2 => OnL Γ (Is Γ.w.params) n (fun vs => call (.builtin id) vs) (d :: ds) Q u2) u1) u)
    (hq : eval (.Call (.Attribute o name apos) es [] pos) env = (do
          let ov ← eval o env
          standAt apos.atName
          let (f, first) ← holding [ov] (getMethod ov name pl)
          callWith pos f first (backTo pos (starEach es env)) []) := by rfl)
    (he : es = [] ∨ ∃ e r, es = e :: r ∧ starEach es env = (false, eval e env) :: starEach r env := by first | exact .inl rfl | exact .inr ⟨_, _, rfl, rfl⟩) (hp : ((backTo pos (starEach es env)).any (·.1)) = false := by rfl) :
    Ev Γ n (eval (.Call (.Attribute o name apos) es [] pos) env) Q u := by
  rintro a ho rfl A dr os tk hA
  refine PyProof.Rows.MethodCall_ (pl := pl) ((h a ho rfl).to hA fun b tk v d st ob r q => ?_) hq
  obtain ⟨t1, t2⟩ := q.1 b ob rfl dr tk os v r
  refine getMethod_builtin t1 pa sl ty t2 ?_
  refine (callW_ (df := .raw (.builtin id)) (first := [v]) (fs := [d]) .builtin (q.2.mono fun ds u2 q2 => ?_) b ob rfl (.builtin id) (.raw _) (.cons r .nil) he hp).to hA fun c tk v3 d3 st3 oe r3 q3 => ⟨c, tk, d3, rfl, st.trans st3, oe, r3, q3⟩
  exact onC_raw q2

/-- o[i] = v -/
theorem AssignSub_ {o i e : Expr} {p : Pos} {Q : Fl → Led → Prop}
    (h : Ev Γ n (eval e env) (fun dv u1 => Ev Γ n (eval o env) (fun d_o u2 => Ev Γ n (eval i env) (fun di u3 => OnL Γ (fun _ (_ _ : Unit) => True) n (fun vs => match vs with | [a, b, c] => setItem a b c | _ => unsupported "") [d_o, di, dv] (fun _ u4 => Q .next u4) u3) u2) u1) u)
    (hs : swapsWith e (some (.Subscript o i p)) pos.line env = pure false := by with_unfolding_all rfl) : Ex Γ n (exec (.Assign [.Subscript o i p] e pos) env) Q u := by
  rintro a ho rfl A dr os tk hA
  refine wpAny_Assign_Subscript ((h a ho rfl).to hA fun b tk v d st ob r q => (q b ob rfl).to hA fun c tk v2 d2 st2 oc r2 q2 => (q2 c oc rfl).to hA fun b3 tk v3 d3 st3 ob3 r3 q3 => ?_) hs
  exact (q3 b3 ob3 rfl [v2, v3, v] (.cons (r2.keep st3.keep) (.cons r3 (.cons (r.keep (st2.keep.trans st3.keep)) .nil)))).to hA fun b4 tk v4 d4 st4 ob4 r4 q4 => ⟨b4, tk, .next, rfl, ((st.trans st2).trans st3).trans st4, ob4, .next, q4⟩

theorem IsAll.set {P : Params} {g : Heap} : ∀ {vs : List Value} {ds : List D}, IsAll P g vs ds → ∀ {i : Nat} {v : Value} {d : D}, Is P g v d → IsAll P g (vs.set i v) (ds.set i d)
  | _, _, .nil, i, v, d, _ => .nil
  | _, _, .cons h r, 0, v, d, hi => .cons hi r
  | _, _, .cons h r, i + 1, v, d, hi => .cons h (r.set hi)

theorem setL_ {l : Addr} {ds : List D} {k : Int} {d : D} {u' : Led} {Q : Unit → Led → Prop} (h0 : 0 ≤ k) (h1 : k < 2 ^ 63) (h2 : k < ds.length) (hs : Set1 u l (.list ds) (.list (ds.set k.toNat d)) u') (hQ : Q () u') :
    OnL Γ (fun _ (_ _ : Unit) => True) n (fun vs => match vs with | [a, b, c] => setItem a b c | _ => unsupported "") [.raw (.ref l), .int k, d] Q u := by
  rintro ⟨gs, g, _, h⟩ ho rfl vs hv A dr os tk hA
  cases hv with | cons a1 hv => ?_
  cases hv with | cons a2 hv => ?_
  cases hv with | cons a3 hv => ?_
  cases hv
  cases a1
  cases a2
  obtain ⟨vs, m, hl, hr⟩ := (ho.ok _ hs.mem).1
  refine setItem_plain hl h0 h1 (by rw [hr.length]; exact h2) fun h' m' hp hb => ?_
  exact ⟨⟨gs, g, u', h'⟩, tk, (), rfl, Step.set hs hb, ho.set hs hb ⟨_, m', hp, hr.set a3⟩, trivial, hQ⟩
where
  setItem_plain {prog : Program} {w : World} {A : Around} {E : Value → Shared → Prop} {s : Shared} {l : Addr} {vs : List Value} {m : Nat} {k : Int} {t : Tok} {v : Value} {Q : Unit → Shared → Prop} (hl : s.heap.get? l = some (PySem.W.listOf vs.toArray m)) (h0 : 0 ≤ k) (h1 : k < 2 ^ 63) (h2 : k < vs.length)
      (h : ∀ h' m', h'.get? l = some (PySem.W.listOf (vs.set k.toNat v).toArray m') → (∀ b ob, b ≠ l → s.heap.get? b = some ob → h'.get? b = some ob) → Q () { s with heap := h' }) :
      wpAny (model prog w) A (setItem (.ref l) (.int k t) v) Q E s := by
    have hls : s.heap.IsList l vs.toArray := ⟨_, hl, rfl, _, rfl⟩
    unfold setItem
    try with_reducible refine wpAny_holding ?_
    first | refine wpAny_bind (wpAny_pure ?_) | skip
    refine wpAny_bind (wpAny_sequenceKey hls.typeIs (by decide) ?_)
    refine wpAny_bind (wpAny_callSpecial?_slot (name := Str.ofString "__setitem__") hls.typeIs slot_list_setitem
      (wpAny_call_entry slot_list_setitem hls.typeIs entry_list_setitem ?_ (args_list_setitem _ _ _)))
    show wpAny _ _ (Builtin.List.listSubscript? (.int k t) >>= _) _ _ s
    refine wpAny_bind (wpAny_listSubscript_int (fitsIndex_of h0 h1) ?_)
    clear h1
    obtain ⟨j, rfl⟩ := Int.eq_ofNat_of_zero_le h0
    have hj : j < vs.toArray.size := by simp; omega
    have hx' : vs.toArray[j]? = some vs.toArray[j] := Array.getElem?_eq_getElem hj
    show wpAny _ _ ((seqItemAt l j >>= fun r => pure (r.map (j, ·))) >>= _) _ _ s
    refine wpAny_bind (wpAny_bind (wpAny_seqItemAt hl rfl (wpAny_pure ?_)))
    rw [hx']
    show wpAny _ _ (setSeqItemAt l j v >>= _) _ _ s
    have e : Obj.mapSeq (·.setIfInBounds j v) (PySem.W.listOf vs.toArray m) = PySem.W.listOf (vs.set j v).toArray m := by
      simp [Obj.mapSeq, PySem.W.listOf]
    have hfin : (s.heap.update l (Obj.mapSeq (·.setIfInBounds j v))).get? l = some (PySem.W.listOf (vs.set j v).toArray m) := by
      rw [Heap.get?_update_self _ hl (by rw [e]; rfl), e]
    have hb : ∀ b ob, b ≠ l → s.heap.get? b = some ob → (s.heap.update l (Obj.mapSeq (·.setIfInBounds j v))).get? b = some ob := fun b ob ne q => ((Heap.SameBut.update ..).2 b ne).trans q
    refine wpAny_bind (wpAny_setSeqItemAt hl rfl ?_)
    first
      | exact wpAny_pure ⟨.none, rfl, wpAny_pure (h _ _ hfin hb)⟩
      | exact wpAny_pure ⟨.none, rfl, h _ _ hfin hb⟩
end
end Mine

namespace Mine
open PySem PySem.W PySem.Calls
open PyProof.Rows (Subscript_ subscriptTail tail_any)


def ownedKinds : List String := ["enumerate", "zip", "dict_itemiterator", "dict_reverseitemiterator", "odict_iterator", "itertools.zip_longest", "itertools.pairwise"]
def GoSkip (h : Heap) (I : Addr) : Prop := ∃ o n vs, h.get? I = some o ∧ o.cls = .type n ∧ o.data = .fields vs ∧ ownedKinds.contains n = false
theorem go_skip {prog : Program} {w : World} {A : Around} {E : Value → Shared → Prop} {s : Shared} {t : Expr} {I : Addr} {v : Value} {Q : Unit → Shared → Prop} (g : GoSkip s.heap I) (h : Q () s) : wpAny (model prog w) A (letOwnedTupleGo t (.ref I) v) Q E s := by
  obtain ⟨o, n, vs, ho, hc, hd, hn⟩ := g
  have key : wpAny (model prog w) A (do
    let (.ref r, .ref a) := ((Value.ref I : Value), v) | return
    let o ← load r
    match o.cls, o.data with
    | .type n, .fields vs =>
      if ["enumerate", "zip", "dict_itemiterator", "dict_reverseitemiterator", "odict_iterator", "itertools.zip_longest", "itertools.pairwise"].contains n && vs[0]? == some (rawInt a) then
        rule "for.unpacks-the-owned-tuple"
        updateField r 0 .none
    | _, _ => pure ()) Q E s := by
    cases v with
    | ref a =>
      dsimp only
      refine wpAny_bind (wpAny_load ho ?_)
      rw [hc, hd]
      dsimp only
      rw [if_neg (by rw [show (["enumerate", "zip", "dict_itemiterator", "dict_reverseitemiterator", "odict_iterator", "itertools.zip_longest", "itertools.pairwise"] : List String).contains n = false from hn]; simp)]
      exact wpAny_pure h
    | _ => exact wpAny_pure h
  cases t <;> first | exact key | exact wpAny_pure h

/-- what a thing gives when it is gone through -/
def Iter (Γ : Cx) (d : D) (items : List D) : Prop :=
  ∀ (A : Around) (gs : Array GenState) (g : Heap) (u : Led) (h : Heap) (v : Value) (dr : Drawn) (tk : Nat) (os : OsState) (Q : Value → Shared → Prop), A.handled = none → Own Γ g u h → Is Γ.w.params g v d →
    (∀ I fp wr P St h' tk', Walks Γ.prog Γ.w A I fp wr items.length P St → St 0 h' → Keep h h' → (∀ b ∈ wr, h.get? b = none) → (∀ i h, St i h → GoSkip h I ∧ ∀ b ∈ wr, ∃ o, h.get? b = some o) → (∀ b ∈ fp, b ∈ wr ∨ ∃ o, g.get? b = some o) →
      (∀ i v, i < items.length → P i v → ∃ d, items[i]? = some d ∧ Is Γ.w.params g v d) → Q (.ref I) (sh ⟨gs, g, u, h'⟩ dr tk' os)) →
    wpAny (model Γ.prog Γ.w) A (pyIter v) Q (fun _ _ => False) (sh ⟨gs, g, u, h⟩ dr tk os)

theorem iterList {Γ : Cx} {ds : List D} : Iter Γ (.list ds) ds := by
  intro A gs g u h v dr tk os Q hh ho hv k
  cases hv with | list hl hr => ?_
  rename_i l vs m
  have hl' := ho.keep _ _ hl
  have hL : h.IsList l vs.toArray := ⟨_, hl', rfl, _, rfl⟩
  have ne : l ≠ h.objs.size := Nat.ne_of_lt (Heap.lt_size hl')
  refine wpAny_pyIter_list hL ?_
  have W := Walks.list (prog := Γ.prog) (w := Γ.w) hh h.objs.size l ne vs.toArray
  have e : vs.toArray.size = ds.length := by rw [List.size_toArray, hr.length]
  rw [e] at W
  refine k _ _ _ _ _ _ _ W ⟨⟨_, Heap.get?_push_size _ rfl, rfl, rfl⟩, hL.at fun o q => Heap.get?_push_of_some _ q⟩ (Keep.push _ _) ?_ ?_ ?_ ?_
  · intro b hb; rw [List.mem_singleton.mp hb]; exact fresh_size h
  · rintro i hp ⟨⟨o, ho, hc, hd⟩, _⟩
    exact ⟨⟨o, _, _, ho, hc, hd, by decide⟩, fun b hb => by rw [List.mem_singleton.mp hb]; exact ⟨o, ho⟩⟩
  · intro b hb
    rcases List.mem_cons.mp hb with rfl | hb
    · exact .inl (.head _)
    · rw [List.mem_singleton.mp hb]; exact .inr ⟨_, hl⟩
  · intro i v hi hp
    obtain ⟨v', hv', hi'⟩ := hr.get (List.getElem?_eq_getElem hi)
    have : vs[i]? = some v := by simpa using hp
    rw [hv'] at this; cases this
    exact ⟨_, List.getElem?_eq_getElem hi, hi'⟩

theorem iterTup {Γ : Cx} {ds : List D} : Iter Γ (.tup ds) ds := by
  intro A gs g u h v dr tk os Q hh ho hv k
  cases hv with | tup hl hr => ?_
  rename_i l vs m
  have hl' := ho.keep _ _ hl
  have hL : h.IsTuple l vs.toArray := ⟨_, hl', rfl, _, rfl⟩
  have ne : l ≠ h.objs.size := Nat.ne_of_lt (Heap.lt_size hl')
  refine wpAny_pyIter_tuple hL ?_
  have W := Walks.tuple (prog := Γ.prog) (w := Γ.w) hh h.objs.size l ne vs.toArray
  have e : vs.toArray.size = ds.length := by rw [List.size_toArray, hr.length]
  rw [e] at W
  refine k _ _ _ _ _ _ _ W ⟨⟨_, Heap.get?_push_size _ rfl, rfl, rfl⟩, ⟨_, Heap.get?_push_of_some _ hl', rfl, _, rfl⟩⟩ (Keep.push _ _) ?_ ?_ ?_ ?_
  · intro b hb; rw [List.mem_singleton.mp hb]; exact fresh_size h
  · rintro i hp ⟨⟨o, ho, hc, hd⟩, _⟩
    exact ⟨⟨o, _, _, ho, hc, hd, by decide⟩, fun b hb => by rw [List.mem_singleton.mp hb]; exact ⟨o, ho⟩⟩
  · intro b hb
    rcases List.mem_cons.mp hb with rfl | hb
    · exact .inl (.head _)
    · rw [List.mem_singleton.mp hb]; exact .inr ⟨_, hl⟩
  · intro i v hi hp
    obtain ⟨v', hv', hi'⟩ := hr.get (List.getElem?_eq_getElem hi)
    have : vs[i]? = some v := by simpa using hp
    rw [hv'] at this; cases this
    exact ⟨_, List.getElem?_eq_getElem hi, hi'⟩

def rangeD (a : Int) (n : Nat) : List D := (List.range n).map fun i => D.int (a + (i : Nat))
theorem rangeD_length (a : Int) (n : Nat) : (rangeD a n).length = n := by simp [rangeD]
theorem rangeD_get {a : Int} {n i : Nat} {d : D} (h : (rangeD a n)[i]? = some d) : i < n ∧ d = .int (a + (i : Nat)) := by
  simp only [rangeD, List.getElem?_map, Option.map_eq_some_iff] at h
  obtain ⟨j, h1, rfl⟩ := h
  obtain ⟨h2, h3⟩ := List.getElem?_eq_some_iff.mp h1
  simp at h2 h3
  subst h3; exact ⟨h2, rfl⟩
theorem iterRange {Γ : Cx} {a b : Int} (ha : -(2 ^ 62) ≤ a) (ha' : a < 2 ^ 62) (hb : -(2 ^ 62) ≤ b) (hb' : b < 2 ^ 62) : Iter Γ (.range a b) (rangeD a (b - a).toNat) := by
  intro A gs g u h v dr tk os Q hh ho hv k
  cases hv with | range hl => ?_
  rename_i l t t' t''
  have hl' := ho.keep _ _ hl
  refine wpAny_pyIter_range (show IsRange h l a b 1 t t' t'' from hl') (PySem.small_one ha ha' hb hb') ?_
  have W := Walks.range (prog := Γ.prog) (w := Γ.w) hh h.objs.size a 1 (b - a).toNat
  have e := PyProof.Rows.rangeSize_nat a b
  have len : (rangeD a (b - a).toNat).length = (b - a).toNat := rangeD_length _ _
  rw [e]
  refine k _ _ _ _ (fun i h_1 => IsRangeIter h_1 h.objs.size (a + ↑i * 1) (↑(b - a).toNat - ↑i) 1) _ _ (by rw [len]; exact W) ?_ (Keep.push _ _) ?_ ?_ ?_ ?_
  · show IsRangeIter _ _ _ _ _
    have : a + ((0 : Nat) : Int) * 1 = a := by omega
    have e2 : (((b - a).toNat : Nat) : Int) - ((0 : Nat) : Int) = ((b - a).toNat : Int) := by omega
    rw [this, e2]
    exact Heap.get?_push_size _ rfl
  · intro b hb; rw [List.mem_singleton.mp hb]; exact fresh_size h
  · intro i hp ho
    exact ⟨⟨_, _, _, ho, rfl, rfl, by decide⟩, fun b hb => by rw [List.mem_singleton.mp hb]; exact ⟨_, ho⟩⟩
  · intro b hb; exact .inl hb
  · rintro i v hi ⟨t, rfl⟩
    rw [len] at hi
    refine ⟨.int (a + (i : Nat)), by simp [rangeD, hi], ?_⟩
    have : a + (i : Int) * 1 = a + (i : Nat) := by omega
    rw [this]; exact .int _ _

theorem forLoopG {prog : Program} {w : World} {A : Around} {s : Shared} {R : Result → Shared → Prop} {target : Expr} {it : Value} {body orelse : List Stmt} {env : Env} (I : Nat → Shared → Prop)
    (turn : ∀ n s, I n s → wpAny (model prog w) A (pyNext it) (fun r s₁ => match r with
      | none => wpAny (model prog w) A (execs orelse env) (fun f s₃ => R (.ok f) s₃) (fun _ _ => False) s₁
      | some v => wpAny (model prog w) A (letOwnedTupleGo target it v) (fun _ s₁' => wpAny (model prog w) A (assign target env v) (fun _ s₂ => wpAny (model prog w) A (execs body env) (fun f s₃ => match f with
          | .next | .cont => ∃ m, m < n ∧ I m s₃
          | .brk => R (.ok .next) s₃
          | .ret v => R (.ok (.ret v)) s₃) (fun _ _ => False) s₂) (fun _ _ => False) s₁') (fun _ _ => False) s₁) (fun _ _ => False) s)
    (n : Nat) (h : I n s) : codeAny (model prog w) A (.forLoop target it body orelse env) R s := by
  refine codeAny_loop' rfl I (fun n s hI => ?_) n h
  show wpAny _ _ ((forTurn target it body orelse env).onRaise (fun x => do noteFrame x env; theTreesLotGoes x)) _ _ s
  refine wpAny_noted ?_
  simp only [forTurn]
  refine wpAny_bind (wpAny_standAt (wpAny_bind (wpAny_onRaise (wpAny_mono (turn n s hI) (fun r s₁ h₁ => ?_) fun _ _ h' => h'.elim))))
  cases r with
  | none => exact wpAny_pure (.inr ⟨rfl, codeAny_block (wpAny_mono h₁ (fun _ _ x => x) fun _ _ f => f.elim)⟩)
  | some v =>
    refine wpAny_bind (wpAny_mono h₁ (fun _ s₁' h₁ => ?_) fun _ _ f => f.elim)
    refine wpAny_bind (wpAny_mono h₁ (fun _ s₂ h₂ => wpAny_bind (wpAny_mono h₂ (fun f s₃ h₃ => ?_) fun _ _ h' => h'.elim)) fun _ _ h' => h'.elim)
    cases f with
    | next => exact wpAny_pure (.inl ⟨rfl, h₃⟩)
    | cont => exact wpAny_pure (.inl ⟨rfl, h₃⟩)
    | brk => exact wpAny_pure h₃
    | ret v => exact wpAny_pure h₃

/-- the state of a loop: the walk's own state, and the iterator beside it -/
structure LoopAt (Γ : Cx) (b c : Sg) (fp wr : List Addr) : Prop where
  step : Step b c
  own : Own Γ c.g c.u c.h
  off : ∀ q ∈ wr, c.g.get? q = none ∧ q ∉ c.u.map (·.1)
theorem LoopAt.start {Γ : Cx} {b : Sg} {h' : Heap} {fp wr : List Addr} (ob : Own Γ b.g b.u b.h) (k : Keep b.h h') (w : ∀ q ∈ wr, b.h.get? q = none) : LoopAt Γ b ⟨b.gs, b.g, b.u, h'⟩ fp wr :=
by
  refine ⟨⟨.refl _, .refl _, fun q o e n => ⟨k _ _ e, n, id⟩⟩, ob.grow k, fun q hq => ⟨?_, fun hm => ?_⟩⟩
  · cases z : b.g.get? q with
    | none => rfl
    | some z' => have := ob.keep _ _ z; rw [w q hq] at this; cases this
  · obtain ⟨p, hp, e⟩ := List.mem_map.mp hm
    obtain ⟨o', e'⟩ := (ob.ok p hp).1.lt
    rw [e, w q hq] at e'; cases e'
theorem LoopAt.next {Γ : Cx} {b c : Sg} {h'' : Heap} {fp wr : List Addr} (l : LoopAt Γ b c fp wr) (w : ∀ q ∈ wr, b.h.get? q = none) (k : ∀ q o, q ∉ wr → c.h.get? q = some o → h''.get? q = some o) : LoopAt Γ b ⟨c.gs, c.g, c.u, h''⟩ fp wr := by
  refine ⟨⟨l.step.gens, l.step.keep, fun q o e n => ?_⟩, ⟨l.own.base, fun q o e => k q o (fun hm => by rw [(l.off q hm).1] at e; cases e) (l.own.keep q o e), l.own.nodup, fun p hp => ⟨(l.own.ok p hp).1.at fun o e => k _ o (fun hm => (l.off _ hm).2 (List.mem_map_of_mem (f := (·.1)) hp)) e, (l.own.ok p hp).2⟩⟩, l.off⟩
  obtain ⟨z1, z2, z3⟩ := l.step.fram q o e n
  exact ⟨k q o (fun hm => by rw [w q hm] at e; cases e) z1, z2, z3⟩
theorem LoopAt.body {Γ : Cx} {b c f : Sg} {fp wr : List Addr} (l : LoopAt Γ b c fp wr) (ex : ∀ q ∈ wr, ∃ o, c.h.get? q = some o) (st : Step c f) (of : Own Γ f.g f.u f.h) (hfp : ∀ q ∈ fp, q ∈ wr ∨ ∃ o, b.g.get? q = some o) :
    LoopAt Γ b f fp wr ∧ ∀ q ∈ fp, ∀ o, c.h.get? q = some o → f.h.get? q = some o := by
  have tr : ∀ q ∈ wr, ∀ o, c.h.get? q = some o → f.h.get? q = some o ∧ q ∉ f.u.map (·.1) ∧ f.g.get? q = none := fun q hq o e => by
    obtain ⟨z1, z2, z3⟩ := st.fram q o e (l.off q hq).2
    exact ⟨z1, z2, z3 (l.off q hq).1⟩
  refine ⟨⟨l.step.trans st, of, fun q hq => ?_⟩, fun q hq o e => ?_⟩
  · obtain ⟨o, e⟩ := ex q hq
    exact ⟨(tr q hq o e).2.2, (tr q hq o e).2.1⟩
  · rcases hfp q hq with hw | ⟨o', e'⟩
    · exact (tr q hw o e).1
    · have c1 := l.own.keep _ _ (l.step.keep _ _ e')
      rw [e] at c1; cases c1
      exact of.keep _ _ (st.keep _ _ (l.step.keep _ _ e'))

theorem Step.view (a : Sg) {h' : Heap} (k : Keep a.h h') : Step a ⟨a.gs, a.g, a.u, h'⟩ := ⟨.refl _, .refl _, fun q o e n => ⟨k _ _ e, n, id⟩⟩
section
variable {Γ : Cx} {n : Nat} {env : Env} {u : Led} {x : Str} {pos : Pos}

def Turn (I : Led → Prop) (Q : Fl → Led → Prop) (f : Fl) (u : Led) : Prop := match f with
  | .next => I u
  | .cont => I u
  | .brk => Q .next u
  | .ret d => Q (.ret d) u

theorem For2_ {t e : Expr} {body orelse : List Stmt} {Q : Fl → Led → Prop}
    (h : Ev Γ n (eval e env) (fun d u1 => ∃ (items : List D) (I : Nat → Led → Prop), Iter Γ d items ∧ I 0 u1 ∧
      (∀ i di u2, items[i]? = some di → I i u2 → On1 Γ (fun _ (_ _ : Unit) => True) n (fun v => assign t env v) di (fun _ u3 => Ex Γ n (execs body env) (Turn (I (i + 1)) Q) u3) u2) ∧
      (∀ u2, I items.length u2 → Ex Γ n (execs orelse env) Q u2)) u)
    (hs : ∀ x, foldedSetIterable e env x = pure x := by intro _; with_unfolding_all rfl) : Ex Γ n (exec (.For t e body orelse pos) env) Q u := by
  rintro a ho rfl A dr os tk hA
  refine wpAny_For (wpAny_mono (h a ho rfl A dr os tk hA) ?_ (fun _ _ f => f.elim)) hs
  rintro v _ ⟨b, tk1, d, rfl, st, ob, r, items, I, hI, h0, turn, done⟩
  refine wpAny_mono (hI A b.gs b.g b.u b.h v dr tk1 os _ hA.1 ob r (fun I' fp wr P St h' tk' W hst hk hwr hex hfp hP => ?_)) (fun _ _ x => x) (fun _ _ f => f.elim)
  let Inv : Nat → Shared → Prop := fun k s => ∃ i c tkc, i + k = items.length ∧ s = sh c dr tkc os ∧ LoopAt Γ b c fp wr ∧ St i c.h ∧ I i c.u
  refine forLoopG Inv ?_ items.length ⟨0, ⟨b.gs, b.g, b.u, h'⟩, tk', by omega, rfl, LoopAt.start ob hk hwr, hst, h0⟩
  rintro k s ⟨i, c, tkc, hik, rfl, lc, hstc, hIc⟩
  by_cases hi : i < items.length
  · refine W.item i _ _ _ hi hstc fun v' h'' tk'' hPv hst'' hk'' => ?_
    obtain ⟨di, hdi, hIs⟩ := hP i v' hi hPv
    have l2 := lc.next (h'' := h'') hwr hk''
    refine go_skip (hex _ _ hst'').1 ?_
    refine (turn i di c.u hdi hIc ⟨c.gs, c.g, c.u, h''⟩ l2.own rfl v' (hIs.keep lc.step.keep)).to hA (dr := dr) (os := os) (tk := tk'') fun e tke _ _ st2 oe _ q2 => ?_
    refine (q2 e oe rfl).to hA fun f tkf fl df st3 of r3 q3 => ?_
    obtain ⟨l3, hfp3⟩ := l2.body (hex _ _ hst'').2 (st2.trans st3) of hfp
    have st3' : St (i + 1) f.h := W.frame _ _ _ hst'' hfp3
    cases r3 with
    | next => exact ⟨k - 1, by omega, i + 1, f, tkf, by omega, rfl, l3, st3', q3⟩
    | cont => exact ⟨k - 1, by omega, i + 1, f, tkf, by omega, rfl, l3, st3', q3⟩
    | brk => exact ⟨f, tkf, _, rfl, st.trans l3.step, of, .next, q3⟩
    | ret iv => exact ⟨f, tkf, _, rfl, st.trans l3.step, of, .ret iv, q3⟩
  · have : i = items.length := by omega
    subst this
    refine W.done _ _ _ hstc fun h'' tk'' hk'' => ?_
    have l2 := lc.next (h'' := h'') hwr hk''
    refine (done c.u hIc ⟨c.gs, c.g, c.u, h''⟩ l2.own rfl).to hA (dr := dr) (os := os) (tk := tk'') fun e tke fl df st2 oe r2 q2 => ?_
    exact ⟨e, tke, df, rfl, (st.trans l2.step).trans st2, oe, r2, q2⟩

theorem For_ {t e : Expr} {body orelse : List Stmt} {Q : Fl → Led → Prop} {items : List D} (I : Nat → Led → Prop)
    (h : Ev Γ n (eval e env) (fun d u1 => Iter Γ d items ∧ I 0 u1) u)
    (turn : ∀ i di u2, items[i]? = some di → I i u2 → On1 Γ (fun _ (_ _ : Unit) => True) n (fun v => assign t env v) di (fun _ u3 => Ex Γ n (execs body env) (Turn (I (i + 1)) Q) u3) u2)
    (done : ∀ u2, I items.length u2 → Ex Γ n (execs orelse env) Q u2)
    (hs : ∀ x, foldedSetIterable e env x = pure x := by intro _; with_unfolding_all rfl) : Ex Γ n (exec (.For t e body orelse pos) env) Q u :=
  For2_ (h.mono fun d u1 ⟨h1, h2⟩ => ⟨items, I, h1, h2, turn, done⟩) hs

theorem While_ {t : Expr} {body orelse : List Stmt} {Q : Fl → Led → Prop} (I : Nat → Led → Prop) (m : Nat) (h0 : I m u)
    (turn : ∀ k u2, I k u2 → Ts Γ n (PySem.isTrue t env (eval t env)) (fun b u3 => if b = true then Ex Γ n (execs body env) (Turn (fun u4 => ∃ j, j < k ∧ I j u4) Q) u3 else Ex Γ n (execs orelse env) Q u3) u2) :
    Ex Γ n (exec (.While t body orelse pos) env) Q u := by
  rintro a ho rfl A dr os tk hA
  refine wpAny_While ?_
  let Inv : Nat → Shared → Prop := fun k s => ∃ c tkc, s = sh c dr tkc os ∧ Step a c ∧ Own Γ c.g c.u c.h ∧ I k c.u
  refine codeAny_whileLoop Inv ?_ m ⟨a, tk, rfl, .refl _, ho, h0⟩
  rintro k s ⟨c, tkc, rfl, st, oc, hI⟩
  refine (turn k c.u hI c oc rfl).to hA fun e tke b b' st2 oe r2 q2 => ?_
  subst r2
  cases b with
  | true =>
    refine (q2 e oe rfl).to hA fun f tkf fl df st3 of r3 q3 => ?_
    cases r3 with
    | next => obtain ⟨j, hj, q3⟩ := q3; exact ⟨j, hj, f, tkf, rfl, (st.trans st2).trans st3, of, q3⟩
    | cont => obtain ⟨j, hj, q3⟩ := q3; exact ⟨j, hj, f, tkf, rfl, (st.trans st2).trans st3, of, q3⟩
    | brk => exact ⟨f, tkf, _, rfl, (st.trans st2).trans st3, of, .next, q3⟩
    | ret iv => exact ⟨f, tkf, _, rfl, (st.trans st2).trans st3, of, .ret iv, q3⟩
  | false =>
    refine (q2 e oe rfl).to hA fun f tkf fl df st3 of r3 q3 => ?_
    exact ⟨f, tkf, df, rfl, (st.trans st2).trans st3, of, r3, q3⟩

theorem asgName_ {p : Pos} {d : D} {Q : Unit → Led → Prop} (h : On1 Γ (fun _ (_ _ : Unit) => True) n (fun v => storeName env x v) d Q u) : On1 Γ (fun _ (_ _ : Unit) => True) n (fun v => assign (.Name x p) env v) d Q u := by
  rintro a ho rfl v hv A dr os tk hA
  exact wpAny_assign_Name (h a ho rfl v hv A dr os tk hA)

/-- a row of targets -/
def AsgAll (Γ : Cx) (n : Nat) (ts : List (Value → Sem Unit)) (ds : List D) (Q : Unit → Led → Prop) (u : Led) : Prop := OnL Γ (fun _ (_ _ : Unit) => True) n (fun vs => assignInOrder ts vs) ds Q u
theorem asgAll_nil {Q : Unit → Led → Prop} (hQ : Q () u) : AsgAll Γ n [] [] Q u := by
  rintro a ho rfl vs hv A dr os tk hA
  cases hv
  exact wpAny_assignInOrder_none (Out.same ho trivial hQ)
theorem asgAll_cons {t : Value → Sem Unit} {ts : List (Value → Sem Unit)} {d : D} {ds : List D} {Q : Unit → Led → Prop} (h : On1 Γ (fun _ (_ _ : Unit) => True) n t d (fun _ u1 => AsgAll Γ n ts ds Q u1) u) : AsgAll Γ n (t :: ts) (d :: ds) Q u := by
  rintro a ho rfl vs hv A dr os tk hA
  cases hv with | cons h1 h2 => ?_
  refine wpAny_assignInOrder_more ((h a ho rfl _ h1).to hA fun b tk _ _ st ob _ q => ?_)
  exact (q b ob rfl _ (h2.keep st.keep)).to hA fun c tk _ _ st2 oc _ q2 => ⟨c, tk, (), rfl, st.trans st2, oc, trivial, q2⟩
theorem extBut_keep {h h' : Heap} (e : Heap.ExtBut h.objs.size h h') : Keep h h' := fun b o q => e b o (Nat.ne_of_lt (Heap.lt_size q)) q
theorem asgTuple_ {es : List Expr} {k : Nat} {p : Pos} {ds : List D} {Q : Unit → Led → Prop} (hl : (assignEach es env).length = ds.length) (hf : (assignEach es env).findIdx? (·.1) = none)
    (h : AsgAll Γ n ((assignEach es env).map (·.2)) ds Q u) : On1 Γ (fun _ (_ _ : Unit) => True) n (fun v => assign (.Tuple es k p) env v) (.tup ds) Q u := by
  rintro a ho rfl v hv A dr os tk hA
  cases hv with | tup ht hr => ?_
  have ht' := ho.keep _ _ ht
  refine wpAny_assign_Tuple hA.1 (items := _) ⟨_, ht', rfl, _, rfl⟩ (by rw [hl, List.size_toArray, hr.length]) hf fun h' he => ?_
  have k := extBut_keep he
  exact (h ⟨a.gs, a.g, a.u, h'⟩ (ho.grow k) rfl _ hr).to hA (dr := dr) (os := os) (tk := tk) fun c tk _ _ st2 oc _ q2 => ⟨c, tk, (), rfl, (Step.trans (Step.view a k) st2), oc, trivial, q2⟩
theorem AssignTuple_ {es : List Expr} {k : Nat} {p : Pos} {e : Expr} {Q : Fl → Led → Prop}
    (h : Ev Γ n (eval e env) (fun d u1 => On1 Γ (fun _ (_ _ : Unit) => True) n (fun v => assign (.Tuple es k p) env v) d (fun _ u2 => Q .next u2) u1) u)
    (hs : swapsWithSole [.Tuple es k p] e pos.line env = pure false := by with_unfolding_all rfl) (hw : swappedStores [.Tuple es k p] e env = pure none := by with_unfolding_all rfl) : Ex Γ n (exec (.Assign [.Tuple es k p] e pos) env) Q u := by
  rintro a ho rfl A dr os tk hA
  refine PyProof.Rows.Assign_Tuple ((h a ho rfl).to hA fun b tk v d st ob r q => ?_) hs hw
  exact (q b ob rfl v r).to hA fun c tk v2 d2 st2 oc r2 q2 => ⟨c, tk, .next, rfl, st.trans st2, oc, .next, q2⟩
theorem AssignSwap_ {es : List Expr} {k : Nat} {p : Pos} {e : Expr} {names : List Str} {Q : Fl → Led → Prop}
    (h : Ev Γ n (eval e env) (fun d u1 => ∃ ds, d = .tup ds ∧ names.length = ds.length ∧ AsgAll Γ n (names.reverse.map fun x => bindName env x) ds.reverse (fun _ u2 => Q .next u2) u1) u)
    (hw : swappedStores [.Tuple es k p] e env = pure (some names) := by with_unfolding_all rfl) (hs : swapsWithSole [.Tuple es k p] e pos.line env = pure false := by with_unfolding_all rfl) : Ex Γ n (exec (.Assign [.Tuple es k p] e pos) env) Q u := by
  rintro a ho rfl A dr os tk hA
  refine PyProof.Rows.Assign_Tuple_swapped ((h a ho rfl).to hA fun b tk v d st ob r q => ?_) hs hw
  obtain ⟨ds, rfl, hl, q⟩ := q
  cases r with | tup ht hr => ?_
  rename_i t vs m
  have ht' := ob.keep _ _ ht
  have hT : b.h.IsTuple t vs.toArray := ⟨_, ht', rfl, _, rfl⟩
  have e1 : names.length = vs.toArray.size := by rw [hl, List.size_toArray, hr.length]
  rw [e1]
  refine wpAny_unpackItems_tuple hA.1 hT fun h' he => ?_
  have kk := extBut_keep he
  have bn : (names.reverse.map fun n => bindName env n) = names.reverse.map fun n => bindName env n := rfl
  have rev : ∀ {vs : List Value} {ds : List D}, IsAll Γ.w.params b.g vs ds → IsAll Γ.w.params b.g vs.reverse ds.reverse := by
    intro vs ds h
    induction vs generalizing ds with
    | nil => cases h; exact .nil
    | cons v vs ih => cases h with | cons h1 h2 => rw [List.reverse_cons, List.reverse_cons]; exact (ih h2).append (.cons h1 .nil)
  have main := (q ⟨b.gs, b.g, b.u, h'⟩ (ob.grow kk) rfl _ (rev hr)).to hA (dr := dr) (os := os) (tk := tk) (P := fun _ s' => Out Γ (IsFl Γ.w.params) Q a dr os .next s') (E := fun _ _ => False) fun c tk _ _ st2 oc _ q2 => ⟨c, tk, .next, rfl, st.trans (Step.trans (Step.view b kk) st2), oc, .next, q2⟩
  exact main
theorem bindN_ {d : D} {Q : Unit → Led → Prop} (h : On1 Γ (fun _ (_ _ : Unit) => True) n (fun v => storeName env x v) d Q u) : On1 Γ (fun _ (_ _ : Unit) => True) n (bindName env x) d Q u := by
  rintro a ho rfl v hv A dr os tk hA
  exact wpAny_bindName (h a ho rfl v hv A dr os tk hA)

/-- len, range, abs -/
theorem lenL {ds : List D} {Q : D → Led → Prop} (hz : ds.length < 2 ^ 62) (hQ : Q (.int ds.length) u) : OnL Γ (Is Γ.w.params) n (fun vs => call (.builtin "len") vs) [.list ds] Q u := by
  rintro a ho rfl vs hv A dr os tk hA
  cases hv with | cons h1 h2 => ?_
  cases h2
  cases h1 with | list hl hr => ?_
  have hl' := ho.keep _ _ hl
  have e := hr.length
  refine PyProof.Rows.len_list ⟨_, hl', rfl, _, rfl⟩ (by rw [List.size_toArray, e]; omega) ?_
  rw [List.size_toArray, e]
  exact Out.same ho (.int _ _) hQ
theorem lenM {l : Addr} {ds : List D} {Q : D → Led → Prop} (hL : (l, Ent.list ds) ∈ u) (hz : ds.length < 2 ^ 62) (hQ : Q (.int ds.length) u) : OnL Γ (Is Γ.w.params) n (fun vs => call (.builtin "len") vs) [.raw (.ref l)] Q u := by
  rintro a ho rfl vs hv A dr os tk hA
  cases hv with | cons h1 h2 => ?_
  cases h2
  cases h1
  obtain ⟨vs, m, hl, hr⟩ := (ho.ok _ hL).1
  have e := hr.length
  refine PyProof.Rows.len_list ⟨_, hl, rfl, _, rfl⟩ (by rw [List.size_toArray, e]; omega) ?_
  rw [List.size_toArray, e]
  exact Out.same ho (.int _ _) hQ
theorem lenS {s : Str} {Q : D → Led → Prop} (hz : s.length < 2 ^ 62) (hQ : Q (.int s.length) u) : OnL Γ (Is Γ.w.params) n (fun vs => call (.builtin "len") vs) [.str s] Q u := by
  rintro a ho rfl vs hv A dr os tk hA
  cases hv with | cons h1 h2 => ?_
  cases h2
  cases h1
  exact PyProof.Rows.len_str (by omega) (Out.same ho (.int _ _) hQ)
theorem range1 {b : Int} {Q : D → Led → Prop} (hQ : Q (.range 0 b) u) : OnL Γ (Is Γ.w.params) n (fun vs => call (.type "range") vs) [.int b] Q u := by
  rintro ⟨gs, g, uu, h⟩ ho hu vs hv A dr os tk hA
  obtain rfl : uu = u := hu
  cases hv with | cons h1 h2 => ?_
  cases h2
  cases h1
  obtain ⟨g', st, o', e⟩ := ho.alloc (gs := gs) { cls := .type "range", data := .fields #[.int 0 tk, .int b _, .int 1 (tk + 1)] } rfl
  exact PySem.call_range_1 ⟨⟨gs, g', _, _⟩, _, _, rfl, st, o', .range e, hQ⟩
end
end Mine

namespace Mine
open PySem PySem.W PySem.Calls
open PyProof.Rows (Subscript_ subscriptTail tail_any)

theorem Own.sub {Γ : Cx} {g : Heap} {u u' : Led} {h : Heap} (o : Own Γ g u h) (d : u'.Sublist u) : Own Γ g u' h :=
  ⟨o.base, o.keep, (d.map (·.1)).nodup o.nodup, fun p hp => o.ok p (d.subset hp)⟩
theorem Step.sub {gs : Array GenState} {g : Heap} {u u' : Led} {h : Heap} (d : u'.Sublist u) : Step ⟨gs, g, u, h⟩ ⟨gs, g, u', h⟩ :=
  ⟨.refl _, .refl _, fun q o e n => ⟨e, fun hm => n ((d.map (·.1)).subset hm), id⟩⟩
theorem WL.sub {α β : Type} {Γ : Cx} {R : Heap → α → β → Prop} {n : Nat} {t : Sem α} {Q : β → Led → Prop} {u u' : Led} (d : u'.Sublist u) (h : WL Γ R n t Q u') : WL Γ R n t Q u :=
  WL.ghost (fun gs g h o => ⟨g, o.sub d, Step.sub d⟩) h
def BackS (Q : D → Led → Prop) (f : Fl) (u : Led) : Prop := match f with
  | .ret d => ∃ u', u'.Sublist u ∧ Q d u'
  | .next => ∃ u', u'.Sublist u ∧ Q .none u'
  | _ => False

/-- frames with cells -/
inductive InitC (names : List (Str × NameKind)) : List (Str × D) → List Str → List (Str × Option D) → Prop
  | nil : InitC names [] [] []
  | rest {r : Str} {rs : List Str} {m : List (Str × Option D)} : InitC names [] rs m → InitC names [] (r :: rs) ((r, none) :: m)
  | bind {x : Str} {d : D} {bs : List (Str × D)} {rs : List Str} {m : List (Str × Option D)} (h : names.lookup x = some .local) : InitC names bs rs m → InitC names ((x, d) :: bs) rs ((x, some d) :: m)
  | cell {x : Str} {d : D} {bs : List (Str × D)} {rs : List Str} {m : List (Str × Option D)} (h : names.lookup x = some .cell) : InitC names bs rs m → InitC names ((x, d) :: bs) rs m
/-- the cells' part of the ledger -/
inductive CellLed (bs : List (Str × D)) : List (Str × Addr) → Led → Prop
  | nil : CellLed bs [] []
  | bound {x : Str} {c : Addr} {d : D} {r : List (Str × Addr)} {t : Led} (h : (x, d) ∈ bs) : CellLed bs r t → CellLed bs ((x, c) :: r) ((c, .cell (some d)) :: t)
  | free {x : Str} {c : Addr} {r : List (Str × Addr)} {t : Led} (h : (bs.map (·.1)).contains x = false) : CellLed bs r t → CellLed bs ((x, c) :: r) ((c, .cell none) :: t)
theorem CellLed.keys {bs : List (Str × D)} {cs : List (Str × Addr)} {t : Led} (h : CellLed bs cs t) : t.map (·.1) = cs.map (·.2) := by
  induction h with
  | nil => rfl
  | bound _ _ ih => simp only [List.map_cons, ih]
  | free _ _ ih => simp only [List.map_cons, ih]
theorem CellLed.look {bs : List (Str × D)} {cs : List (Str × Addr)} {t : Led} (h : CellLed bs cs t) : ∀ p ∈ t, ∃ x c, (x, c) ∈ cs ∧ p.1 = c ∧ ((∃ d, (x, d) ∈ bs ∧ p.2 = .cell (some d)) ∨ (x ∉ bs.map (·.1) ∧ p.2 = .cell none)) := by
  induction h with
  | nil => exact fun p hp => nomatch hp
  | @bound x c d r t h _ ih =>
    intro p hp
    rcases List.mem_cons.mp hp with rfl | hp
    · exact ⟨x, c, .head _, rfl, .inl ⟨d, h, rfl⟩⟩
    · obtain ⟨x, c, h1, h2⟩ := ih p hp; exact ⟨x, c, .tail _ h1, h2⟩
  | @free x c r t h _ ih =>
    intro p hp
    rcases List.mem_cons.mp hp with rfl | hp
    · exact ⟨x, c, .head _, rfl, .inr ⟨fun hm => (by rw [List.contains_iff_mem.mpr hm] at h; cases h), rfl⟩⟩
    · obtain ⟨x, c, h1, h2⟩ := ih p hp; exact ⟨x, c, .tail _ h1, h2⟩

theorem lookup_none_of {α : Type} {x : Str} : ∀ {l : List (Str × α)}, x ∉ l.map (·.1) → l.lookup x = none
  | [], _ => rfl
  | (y, v) :: r, h => by
    rw [List.map_cons, List.mem_cons, not_or] at h
    have : (x == y) = false := beq_eq_false_iff_ne.mpr h.1
    rw [List.lookup_cons, this]; exact lookup_none_of h.2
theorem bindL_eq {k : Str → Option NameKind} : ∀ {fs : List (Str × Value)} {m : Str → Option Value} {x : Str}, (fs.map (·.1)).Nodup →
    bindL k fs m x = match (if k x = some .local then fs.lookup x else none) with | some v => some v | none => m x
  | [], m, x, _ => by simp [bindL]
  | (y, v) :: r, m, x, nd => by
    rw [List.map_cons, List.nodup_cons] at nd
    unfold bindL
    rw [bindL_eq nd.2]
    by_cases e : x = y
    · subst e
      rw [lookup_none_of nd.1]
      by_cases hk : k x = some .local
      · simp [hk, List.lookup_cons]
      · simp [hk]
    · have hb : (x == y) = false := beq_eq_false_iff_ne.mpr e
      rw [List.lookup_cons, hb]
      dsimp only
      by_cases hk : k y = some .local
      · simp only [hk, if_true, e, if_false]
      · simp only [hk, if_false]
theorem bindC_eq {k : Str → Option NameKind} : ∀ {fs : List (Str × Value)} {m : Str → Option Value} {x : Str}, (fs.map (·.1)).Nodup →
    bindC k fs m x = match (if k x = some .local then none else fs.lookup x) with | some v => some v | none => m x
  | [], m, x, _ => by simp [bindC]
  | (y, v) :: r, m, x, nd => by
    rw [List.map_cons, List.nodup_cons] at nd
    unfold bindC
    rw [bindC_eq nd.2]
    by_cases e : x = y
    · subst e
      rw [lookup_none_of nd.1]
      by_cases hk : k x = some .local
      · simp [hk]
      · simp [hk, List.lookup_cons]
    · have hb : (x == y) = false := beq_eq_false_iff_ne.mpr e
      rw [List.lookup_cons, hb]
      dsimp only
      by_cases hk : k y = some .local
      · simp only [hk, if_true]
      · simp only [hk, if_false, e]
theorem InitC.look {names : List (Str × NameKind)} {bs : List (Str × D)} {rs : List Str} {m : List (Str × Option D)} (h : InitC names bs rs m) (x : Str) :
    (names.lookup x = some .local ∧ ∃ d, bs.lookup x = some d ∧ m.lookup x = some (some d)) ∨ ((names.lookup x = some .local → bs.lookup x = none) ∧ (m.lookup x = none ∨ m.lookup x = some none)) := by
  induction h with
  | nil => exact .inr ⟨fun _ => rfl, .inl rfl⟩
  | rest _ ih =>
    rename_i r rs m _
    simp only [List.lookup_cons]
    cases x == r with
    | true => exact .inr ⟨fun _ => rfl, .inr rfl⟩
    | false => exact ih
  | bind hl _ ih =>
    rename_i y d bs rs m _
    simp only [List.lookup_cons]
    cases e : x == y with
    | true => exact .inl ⟨by rw [beq_iff_eq.mp e]; exact hl, _, rfl, rfl⟩
    | false => exact ih
  | cell hl _ ih =>
    rename_i y d bs rs m _
    simp only [List.lookup_cons]
    cases e : x == y with
    | true =>
      have e' := beq_iff_eq.mp e
      subst e'
      refine .inr ⟨fun z => (by rw [hl] at z; cases z), ?_⟩
      rcases ih with ⟨h1, _⟩ | ⟨_, h2⟩
      · rw [hl] at h1; cases h1
      · exact h2
    | false => exact ih

section
variable {Γ : Cx} {n : Nat} {env : Env} {u : Led} {x : Str} {pos : Pos}

theorem defC_ {K : Frag} {f : Addr} {oc : Value} {od : Option Addr} {osl : Array (Option Value)} {fd : FuncData} {body : List Stmt} {ds : List D} {bs : List (Str × D)} {rs : List Str} {m : List (Str × Option D)} {cs : Addr → List (Str × Addr)} {led : Addr → Led} {Q : D → Led → Prop}
    (hΓ : Γ.K = K) (hK : K.lookup f = some ⟨oc, od, .func fd, osl⟩) (hcd : codeIn K fd.code fd.qualname = true) (hb : fd.body = .stmts body)
    (hbind : ∀ (g : Heap) (vs : List Value), IsAll Γ.w.params g vs ds → ∃ fs, bindArgs fd ⟨vs, []⟩ = pure fs ∧ IsF Γ.w.params g fs bs)
    (hm : InitC fd.scope.names bs rs m) (hnd' : decide ((m.map (·.1)).Nodup ∧ (bs.map (·.1)).Nodup) = true)
    (hkinds : ((bs.map (·.1)).all fun y => decide (fd.scope.names.lookup y = some .local) || decide (fd.scope.names.lookup y = some .cell)) = true)
    (hcs : ∀ L, cellsFrom (L + 1) fd.scope.names [] = cs L) (hcl : ∀ L, CellLed bs (cs L) (led L))
    (hcin : ((bs.map (·.1)).all fun y => decide (fd.scope.names.lookup y = some .local) || ((cellsFrom 0 fd.scope.names []).lookup y).isSome) = true)
    (hcin2 : ((cellsFrom 0 fd.scope.names []).all fun y => decide (fd.scope.names.lookup y.1 = some .cell)) = true) (hcn : decide ((((cellsFrom 0 fd.scope.names [])).map (·.1)).Nodup) = true)
    (hclo : fd.closure = []) (hco : fd.scope.isCoroutine = false) (hgen : fd.scope.isGenerator = false) (hk : fd.scope.kind = .function)
    (hE : envChk fd.scope.names ((cellsFrom 0 fd.scope.names []).map (·.1)) = true) (hG : fd.globals = mainGlobals) (hB : fd.builtins = builtinsNs)
    (h : ∀ L, let env := callEnvC fd L f; EnvI env fd.scope.names L (cs L) → Ex Γ n (execs body env) (BackS Q) ((L, .ns m) :: (led L ++ u))) : OnL Γ (Is Γ.w.params) (n + 1) (fun vs => call (.ref f) vs) ds Q u := by
  obtain ⟨hnd, hndb⟩ := of_decide_eq_true hnd'
  -- the cells' names do not hang on the addresses
  have hnames : ∀ (ns : List (Str × NameKind)) (L L' : Addr) (acc acc' : List (Str × Addr)), acc.map (·.1) = acc'.map (·.1) → (cellsFrom L ns acc).map (·.1) = (cellsFrom L' ns acc').map (·.1) := by
    intro ns
    induction ns with
    | nil => intro L L' acc acc' e; exact e
    | cons p r ih =>
      intro L L' acc acc' e
      unfold cellsFrom
      split
      · exact ih _ _ _ _ (by simp only [List.map_cons, e])
      · exact ih _ _ _ _ e
  have hlk : ∀ {l l' : List (Str × Addr)} {y : Str}, l.map (·.1) = l'.map (·.1) → (l.lookup y).isSome = (l'.lookup y).isSome := by
    intro l
    induction l with
    | nil =>
      intro l' y e
      cases l' with
      | nil => rfl
      | cons => cases e
    | cons p r ih =>
      intro l' y e
      cases l' with
      | nil => cases e
      | cons p' r' =>
        obtain ⟨a, b⟩ := p; obtain ⟨a', b'⟩ := p'
        simp only [List.map_cons, List.cons.injEq] at e
        obtain ⟨rfl, e⟩ := e
        simp only [List.lookup_cons]
        cases y == a
        · exact ih e
        · rfl
  have hcs1 : ∀ L, (cs L).map (·.1) = (cellsFrom 0 fd.scope.names []).map (·.1) := fun L => by rw [← hcs L]; exact hnames _ _ _ _ _ rfl
  subst hΓ
  rintro ⟨gs, g, uu, hp⟩ ho hu vs hv A dr os tk hA
  obtain rfl : uu = u := hu
  obtain ⟨fs, hbt, hf⟩ := hbind g vs hv
  have hlookf : ∀ y ∈ fs, y.1 ∈ bs.map (·.1) := fun y hy => hf.keys ▸ List.mem_map_of_mem (f := (·.1)) hy
  have hndf : (fs.map (·.1)).Nodup := by rw [hf.keys]; exact hndb
  refine wpAny_call (codeAny_call_cells (fd := fd) (body := body) (binds := fs) hA.room (ho.K _ _ hK) rfl (Γ.nolimit.keeps ho.H0) (codeRec_of ho.K hcd) hb hbt hclo (fun y hy => ?_) (fun s₁ x => ?_) hco hgen hk)
  · have h1 := List.all_eq_true.mp hkinds _ (hlookf y hy)
    have h2 := List.all_eq_true.mp hcin _ (hlookf y hy)
    simp only [Bool.or_eq_true, decide_eq_true_eq] at h1 h2
    rcases h1 with h1 | h1
    · exact .inl h1
    · rcases h2 with h2 | h2
      · exact .inl h2
      · exact .inr ⟨h1, by rw [← h2]; exact hlk (hnames _ _ _ _ _ rfl)⟩
  · obtain ⟨h₀, tk₀, rfl⟩ := x.toInCall.same
    have hLeq : (callEnvC fd hp.objs.size f).locals = hp.objs.size := rfl
    have hceq : (callEnvC fd hp.objs.size f).cells = cs hp.objs.size := hcs _
    have hkeq : ∀ y, (callEnvC fd hp.objs.size f).kindOf y = fd.scope.names.lookup y := fun _ => rfl
    have x' := x
    rw [show (sh ⟨gs, g, uu, hp⟩ dr tk os).heap.objs.size = hp.objs.size from rfl] at x'
    have hk₀ : Keep hp h₀ := x'.toInCall.keep
    have hns := x'.toInCall.ns
    have hap := x'.apart
    have habove := x'.above
    have hcell := x'.cell
    rw [hceq] at hap habove hcell
    have o' := ho.grow hk₀
    have fresh : ∀ q, hp.objs.size ≤ q → q ∉ uu.map (·.1) ∧ g.get? q = none := fun q hq => ⟨fun hm => Nat.lt_irrefl _ (Nat.lt_of_lt_of_le (ho.lt _ hm) hq), by
      cases e : g.get? q with
      | none => rfl
      | some z => exact absurd (Heap.lt_size (ho.keep _ _ e)) (Nat.not_lt.mpr hq)⟩
    have hledk := (hcl hp.objs.size).keys
    have hlo : ∀ q ∈ (led hp.objs.size).map (·.1), hp.objs.size < q := fun q hq => by
      rw [hledk] at hq
      obtain ⟨p, hp', rfl⟩ := List.mem_map.mp hq
      exact habove p.1 p.2 hp'
    have hcsn : ((cs hp.objs.size).map (·.1)).Nodup := by rw [hcs1]; exact of_decide_eq_true hcn
    have o1 : Own Γ g ((hp.objs.size, .ns m) :: (led hp.objs.size ++ uu)) h₀ := by
      refine ⟨o'.base, o'.keep, ?_, ?_⟩
      · rw [List.map_cons, List.nodup_cons, List.map_append, List.mem_append, not_or, List.nodup_append]
        refine ⟨⟨fun hm => Nat.lt_irrefl _ (hlo _ hm), (fresh _ (Nat.le_refl _)).1⟩, ?_, ho.nodup, fun a ha b hb e => ?_⟩
        · rw [hledk]; exact List.pairwise_map.mpr hap
        · subst e; exact (fresh _ (Nat.le_of_lt (hlo _ ha))).1 hb
      · intro p hp'
        rcases List.mem_cons.mp hp' with rfl | hp'
        · refine ⟨⟨_, hns, hnd, fun y => ?_⟩, (fresh _ (Nat.le_refl _)).2⟩
          rw [bindL_eq hndf, hkeq]
          rcases hm.look y with ⟨h1, d, h2, h3⟩ | ⟨h1, h3⟩
          · rw [if_pos h1, h3]
            rcases hf.look y with ⟨d', v, h4, h5, h6⟩ | ⟨h4, _⟩
            · rw [h2] at h4; cases h4; rw [h5]; exact ⟨v, rfl, h6⟩
            · rw [h2] at h4; cases h4
          · have : (if fd.scope.names.lookup y = some .local then fs.lookup y else none) = none := by
              by_cases hl : fd.scope.names.lookup y = some .local
              · rw [if_pos hl]
                rcases hf.look y with ⟨d', v, h4, h5, h6⟩ | ⟨_, h4⟩
                · rw [h1 hl] at h4; cases h4
                · exact h4
              · rw [if_neg hl]
            rw [this]
            rcases h3 with h3 | h3 <;> rw [h3] <;> rfl
        · rcases List.mem_append.mp hp' with hp' | hp'
          · obtain ⟨y, c, hyc, e1, hd⟩ := (hcl hp.objs.size).look p hp'
            have hlc : (cs hp.objs.size).lookup y = some c := lookup_of_mem hcsn hyc
            have hic := hcell y c hlc
            rw [bindC_eq hndf, hkeq] at hic
            have hck : fd.scope.names.lookup y = some .cell := by
              have hmem : y ∈ (cellsFrom 0 fd.scope.names []).map (·.1) := by rw [← hcs1 hp.objs.size]; exact List.mem_map_of_mem (f := (·.1)) hyc
              obtain ⟨z, hz, rfl⟩ := List.mem_map.mp hmem
              exact of_decide_eq_true (List.all_eq_true.mp hcin2 z hz)
            rw [hck] at hic
            simp only [reduceCtorEq, if_false] at hic
            refine ⟨?_, (fresh _ (Nat.le_of_lt (hlo _ (List.mem_map_of_mem (f := (·.1)) hp')))).2⟩
            obtain ⟨p1, p2⟩ := p
            dsimp only at e1 hd ⊢
            subst e1
            rcases hd with ⟨d, hd, rfl⟩ | ⟨hd, rfl⟩
            · rcases hf.look y with ⟨d', v, h4, h5, h6⟩ | ⟨h4, _⟩
              · rw [lookup_of_mem hndb hd] at h4; cases h4
                rw [h5] at hic
                exact ⟨some v, hic, v, rfl, h6⟩
              · rw [lookup_of_mem hndb hd] at h4; cases h4
            · rcases hf.look y with ⟨d', v, h4, h5, h6⟩ | ⟨_, h4⟩
              · exact absurd (List.mem_map.mpr ⟨_, mem_of_lookup h4, rfl⟩) hd
              · rw [h4] at hic
                exact ⟨none, hic, rfl⟩
          · exact o'.ok p hp'
    have st : Step ⟨gs, g, uu, hp⟩ ⟨gs, g, (hp.objs.size, .ns m) :: (led hp.objs.size ++ uu), h₀⟩ := ⟨.refl _, .refl _, fun q o e nq => ⟨hk₀ _ _ e, fun hm => by
      have hq : q < hp.objs.size := Heap.lt_size e
      rw [List.map_cons, List.map_append] at hm
      rcases List.mem_cons.mp hm with z | z
      · dsimp only at z; rw [z] at hq; exact Nat.lt_irrefl _ hq
      · rcases List.mem_append.mp z with z | z
        · exact Nat.lt_irrefl _ (Nat.lt_trans hq (hlo _ z))
        · exact nq z, id⟩⟩
    refine (h hp.objs.size ⟨hk, rfl, rfl, hceq, hG, hB, by rw [hcs1]; exact hE⟩ ⟨gs, g, _, h₀⟩ o1 rfl).to (hA.deeper _) fun b tk fl df s2 ob r q => ?_
    cases r with
    | next =>
      obtain ⟨u', d, q⟩ := q
      exact ⟨⟨b.gs, b.g, u', b.h⟩, tk, _, rfl, (st.trans s2).trans (Step.sub d), ob.sub d, .none, q⟩
    | brk => exact q.elim
    | cont => exact q.elim
    | ret i =>
      obtain ⟨u', d, q⟩ := q
      exact ⟨⟨b.gs, b.g, u', b.h⟩, tk, _, rfl, (st.trans s2).trans (Step.sub d), ob.sub d, i, q⟩
end

/-- freezing: what is done is fixed, and seen as data -/
inductive ReD (v : Value) (d : D) : D → D → Prop
  | hit : ReD v d (.raw v) d
  | same {x : D} : ReD v d x x
inductive ReO (v : Value) (d : D) : Option D → Option D → Prop
  | hit : ReO v d (some (.raw v)) (some d)
  | same {x : Option D} : ReO v d x x
inductive ReM (v : Value) (d : D) : List (Str × Option D) → List (Str × Option D) → Prop
  | same {m : List (Str × Option D)} : ReM v d m m
  | cons {x : Str} {o o' : Option D} {m m' : List (Str × Option D)} : ReO v d o o' → ReM v d m m' → ReM v d ((x, o) :: m) ((x, o') :: m')
inductive ReL (v : Value) (d : D) : List D → List D → Prop
  | same {m : List D} : ReL v d m m
  | cons {o o' : D} {m m' : List D} : ReD v d o o' → ReL v d m m' → ReL v d (o :: m) (o' :: m')
  | snoc {o o' : D} {m m' : List D} : ReD v d o o' → ReL v d m m' → ReL v d (m ++ [o]) (m' ++ [o'])
inductive ReK (v : Value) (d : D) : List (Str × D) → List (Str × D) → Prop
  | same {m : List (Str × D)} : ReK v d m m
  | cons {x : Str} {o o' : D} {m m' : List (Str × D)} : ReD v d o o' → ReK v d m m' → ReK v d ((x, o) :: m) ((x, o') :: m')
  | snoc {x : Str} {o o' : D} {m m' : List (Str × D)} : ReD v d o o' → ReK v d m m' → ReK v d (m ++ [(x, o)]) (m' ++ [(x, o')])
inductive ReE (v : Value) (d : D) : Ent → Ent → Prop
  | ns {m m' : List (Str × Option D)} : ReM v d m m' → ReE v d (.ns m) (.ns m')
  | list {m m' : List D} : ReL v d m m' → ReE v d (.list m) (.list m')
  | dict {m m' : List (Str × D)} : ReK v d m m' → ReE v d (.dict m) (.dict m')
  | cell {m m' : Option D} : ReO v d m m' → ReE v d (.cell m) (.cell m')
  | attrs {m m' : List (Str × D)} : ReK v d m m' → ReE v d (.attrs m) (.attrs m')
  | same {e : Ent} : ReE v d e e
inductive ReU (v : Value) (d : D) : Led → Led → Prop
  | same {u : Led} : ReU v d u u
  | cons {a : Addr} {e e' : Ent} {u u' : Led} : ReE v d e e' → ReU v d u u' → ReU v d ((a, e) :: u) ((a, e') :: u')

theorem IsF.append {P : Params} {g : Heap} : ∀ {vs ws : List (Str × Value)} {ds es : List (Str × D)}, IsF P g vs ds → IsF P g ws es → IsF P g (vs ++ ws) (ds ++ es)
  | _, _, _, _, .nil, h => h
  | _, _, _, _, .cons h r, k => .cons h (r.append k)
theorem IsAll.unsnoc {P : Params} {g : Heap} {d : D} : ∀ {ds : List D} {vs : List Value}, IsAll P g vs (ds ++ [d]) → ∃ ws v, vs = ws ++ [v] ∧ IsAll P g ws ds ∧ Is P g v d
  | [], _, .cons h .nil => ⟨[], _, rfl, .nil, h⟩
  | _ :: ds, _, .cons h r => by obtain ⟨ws, v, rfl, h1, h2⟩ := IsAll.unsnoc r; exact ⟨_ :: ws, v, rfl, .cons h h1, h2⟩
theorem IsF.unsnoc {P : Params} {g : Heap} {x : Str} {d : D} : ∀ {ds : List (Str × D)} {vs : List (Str × Value)}, IsF P g vs (ds ++ [(x, d)]) → ∃ ws v, vs = ws ++ [(x, v)] ∧ IsF P g ws ds ∧ Is P g v d
  | [], vs, h => by
    cases h with | cons h r => ?_
    cases r
    exact ⟨[], _, rfl, .nil, h⟩
  | _ :: ds, vs, h => by
    cases h with | cons h r => ?_
    obtain ⟨ws, v, rfl, h1, h2⟩ := IsF.unsnoc r
    exact ⟨_ :: ws, v, rfl, .cons h h1, h2⟩

theorem IsE.append {P : Params} {g : Heap} : ∀ {vs ws : List DictEntry} {ds es : List (Str × D)}, IsE P g vs ds → IsE P g ws es → IsE P g (vs ++ ws) (ds ++ es)
  | _, _, _, _, .nil, h => h
  | _, _, _, _, .cons h r, k => .cons h (r.append k)
theorem IsE.unsnoc {P : Params} {g : Heap} {x : Str} {d : D} : ∀ {ds : List (Str × D)} {vs : List DictEntry}, IsE P g vs (ds ++ [(x, d)]) → ∃ ws t hs v, vs = ws ++ [⟨hs, .str x t, v⟩] ∧ IsE P g ws ds ∧ Is P g v d
  | [], vs, h => by
    cases h with | cons h r => ?_
    cases r
    exact ⟨[], _, _, _, rfl, .nil, h⟩
  | _ :: ds, vs, h => by
    cases h with | cons h r => ?_
    obtain ⟨ws, t, hs, v, rfl, h1, h2⟩ := IsE.unsnoc r
    exact ⟨_ :: ws, t, hs, v, rfl, .cons h h1, h2⟩
section
variable {P : Params} {g : Heap} {v : Value} {d : D} (hv : Is P g v d)
include hv
theorem ReD.is {o o' : D} (r : ReD v d o o') {y : Value} (h : Is P g y o) : Is P g y o' := by
  cases r with
  | hit => cases h; exact hv
  | same => exact h
theorem ReO.slot {o o' : Option D} (r : ReO v d o o') {y : Option Value} (h : SlotOk P g (some o) y) : SlotOk P g (some o') y := by
  cases r with
  | hit => obtain ⟨z, e, i⟩ := h; exact ⟨z, e, by cases i; exact hv⟩
  | same => exact h
theorem ReO.cell {o o' : Option D} (r : ReO v d o o') {y : Option Value} (h : CellOk P g o y) : CellOk P g o' y := by
  cases r with
  | hit => obtain ⟨z, e, i⟩ := h; exact ⟨z, e, by cases i; exact hv⟩
  | same => exact h
omit hv in
theorem ReM.keys {m m' : List (Str × Option D)} (r : ReM v d m m') : m'.map (·.1) = m.map (·.1) := by
  induction r with
  | same => rfl
  | cons _ _ ih => simp only [List.map_cons, ih]
theorem ReM.slot {m m' : List (Str × Option D)} (r : ReM v d m m') : ∀ {x : Str} {y : Option Value}, SlotOk P g (m.lookup x) y → SlotOk P g (m'.lookup x) y := by
  induction r with
  | same => exact fun h => h
  | @cons x o o' m m' ho _ ih =>
    intro z y h
    simp only [List.lookup_cons] at h ⊢
    cases e : z == x with
    | true => rw [e] at h; exact ho.slot hv h
    | false => rw [e] at h; exact ih h
theorem ReL.all {m m' : List D} (r : ReL v d m m') : ∀ {vs : List Value}, IsAll P g vs m → IsAll P g vs m' := by
  induction r with
  | same => exact fun h => h
  | cons ho _ ih => intro vs h; cases h with | cons h1 h2 => exact .cons (ho.is hv h1) (ih h2)
  | snoc ho _ ih => intro vs h; obtain ⟨ws, w, rfl, h1, h2⟩ := h.unsnoc; exact (ih h1).append (.cons (ho.is hv h2) .nil)
theorem ReK.all {m m' : List (Str × D)} (r : ReK v d m m') : m'.map (·.1) = m.map (·.1) ∧ ∀ {vs : List (Str × Value)}, IsF P g vs m → IsF P g vs m' := by
  induction r with
  | same => exact ⟨rfl, fun h => h⟩
  | cons ho _ ih => exact ⟨by simp only [List.map_cons, ih.1], fun h => by cases h with | cons h1 h2 => exact .cons (ho.is hv h1) (ih.2 h2)⟩
  | snoc ho _ ih => exact ⟨by simp only [List.map_append, ih.1]; rfl, fun h => by obtain ⟨ws, w, rfl, h1, h2⟩ := h.unsnoc; exact (ih.2 h1).append (.cons (ho.is hv h2) .nil)⟩
theorem ReK.allE {m m' : List (Str × D)} (r : ReK v d m m') : ∀ {vs : List DictEntry}, IsE P g vs m → IsE P g vs m' := by
  induction r with
  | same => exact fun h => h
  | cons ho _ ih => intro vs h; cases h with | cons h1 h2 => exact .cons (ho.is hv h1) (ih h2)
  | snoc ho _ ih => intro vs h; obtain ⟨ws, t, hs, w, rfl, h1, h2⟩ := h.unsnoc; exact (ih h1).append (.cons (ho.is hv h2) .nil)
theorem ReE.ok {h : Heap} {a : Addr} {e e' : Ent} (r : ReE v d e e') (x : e.Ok P g h a) : e'.Ok P g h a := by
  cases r with
  | ns r => obtain ⟨μ, h1, h2, h3⟩ := x; exact ⟨μ, h1, by rw [r.keys]; exact h2, fun x => r.slot hv (h3 x)⟩
  | list r => obtain ⟨vs, n, h1, h2⟩ := x; exact ⟨vs, n, h1, r.all hv h2⟩
  | dict r => obtain ⟨fs, h1, h2⟩ := x; exact ⟨fs, h1, (r.all hv).2 h2⟩
  | cell r => obtain ⟨y, h1, h2⟩ := x; exact ⟨y, h1, r.cell hv h2⟩
  | attrs r => obtain ⟨es, n, h1, h2⟩ := x; exact ⟨es, n, h1, r.allE hv h2⟩
  | same => exact x
end
theorem ReU.keys {v : Value} {d : D} {u u' : Led} (r : ReU v d u u') : u'.map (·.1) = u.map (·.1) := by
  induction r with
  | same => rfl
  | cons _ _ ih => simp only [List.map_cons, ih]
theorem ReU.ok {P : Params} {g h : Heap} {v : Value} {d : D} (hv : Is P g v d) {u u' : Led} (r : ReU v d u u') : (∀ p ∈ u, p.2.Ok P g h p.1 ∧ g.get? p.1 = none) → ∀ p ∈ u', p.2.Ok P g h p.1 ∧ g.get? p.1 = none := by
  induction r with
  | same => exact fun h => h
  | cons he _ ih =>
    intro h p hp
    rcases List.mem_cons.mp hp with rfl | hp
    · exact ⟨he.ok hv (h _ (.head _)).1, (h _ (.head _)).2⟩
    · exact ih (fun p hp => h p (.tail _ hp)) p hp
theorem Own.re {Γ : Cx} {g : Heap} {u u' : Led} {h : Heap} {v : Value} {d : D} (o : Own Γ g u h) (hv : Is Γ.w.params g v d) (r : ReU v d u u') : Own Γ g u' h :=
  ⟨o.base, o.keep, by rw [r.keys]; exact o.nodup, r.ok hv o.ok⟩
theorem Step.re {gs : Array GenState} {g h : Heap} {u u' : Led} {v : Value} {d : D} (r : ReU v d u u') : Step ⟨gs, g, u, h⟩ ⟨gs, g, u', h⟩ :=
  ⟨.refl _, .refl _, fun q o e n => ⟨e, by show q ∉ u'.map (·.1); rw [r.keys]; exact n, id⟩⟩
/-- a list or a dict that will not change more -/
inductive Frz (a : Addr) : Ent → D → Prop
  | list {ds : List D} : Frz a (.list ds) (.list ds)
  | dict {ds : List (Str × D)} : Frz a (.dict ds) (.dict ds)
theorem Own.frz {Γ : Cx} {gs : Array GenState} {g : Heap} {u u1 : Led} {h : Heap} {a : Addr} {e : Ent} {d : D} (o : Own Γ g u h) (hd : Del u a e u1) (hf : Frz a e d) :
    ∃ g', Own Γ g' u1 h ∧ Step ⟨gs, g, u, h⟩ ⟨gs, g', u1, h⟩ ∧ Is Γ.w.params g' (.ref a) d := by
  have hna := (hd.sub.2.2 o.nodup).2
  have hok := o.ok _ hd.sub.2.1
  refine ⟨addTo g h [a], (o.del hd).add fun q hq => by rw [List.mem_singleton.mp hq]; exact hna, ⟨.refl _, addTo_keep o.keep, fun q ob e n => ⟨e, fun hm => n (by obtain ⟨p, hp, z⟩ := List.mem_map.mp hm; exact List.mem_map.mpr ⟨p, hd.sub.1 p hp, z⟩), fun z => addTo_none z fun hm => n (by rw [List.mem_singleton.mp hm]; exact List.mem_map_of_mem (f := (·.1)) hd.sub.2.1)⟩⟩, ?_⟩
  have hk := addTo_keep (S := [a]) o.keep
  cases hf with
  | list => obtain ⟨vs, n, h1, h2⟩ := hok.1; exact .list (addTo_get h1 (.inr (.head _))) (h2.keep hk)
  | dict => obtain ⟨fs, h1, h2⟩ := hok.1; exact .dict (h1.at fun o e => addTo_get e (.inr (.head _))) (h2.keep hk)
theorem freeze_ {α β : Type} {Γ : Cx} {R : Heap → α → β → Prop} {n : Nat} {t : Sem α} {Q : β → Led → Prop} {u u1 u2 : Led} {a : Addr} {e : Ent} {d : D} (hd : Del u a e u1) (hf : Frz a e d) (r : ReU (.ref a) d u1 u2) (h : WL Γ R n t Q u2) : WL Γ R n t Q u :=
  WL.ghost (fun gs g hp o => by
    obtain ⟨g', o', st, i⟩ := o.frz (gs := gs) hd hf
    exact ⟨g', o'.re i r, st.trans (Step.re r)⟩) h
/-- an object that will not change more -/
theorem Own.frzI {Γ : Cx} {gs : Array GenState} {g : Heap} {u u1 u2 : Led} {h : Heap} {a da C : Addr} {ds : List (Str × D)} (o : Own Γ g u h) (hd : Del u a (.inst C da) u1) (hd2 : Del u1 da (.attrs ds) u2) :
    ∃ g', Own Γ g' u2 h ∧ Step ⟨gs, g, u, h⟩ ⟨gs, g', u2, h⟩ ∧ Is Γ.w.params g' (.ref a) (.inst C ds) := by
  have n1 := hd.sub.2.2 o.nodup
  have n2 := hd2.sub.2.2 n1.1
  have ok1 := o.ok _ hd.sub.2.1
  have ok2 := o.ok _ (hd.sub.1 _ hd2.sub.2.1)
  have m2 : ∀ p ∈ u2, p ∈ u := fun p hp => hd.sub.1 p (hd2.sub.1 p hp)
  have na : a ∉ u2.map (·.1) := fun hm => n1.2 (by obtain ⟨p, hp, z⟩ := List.mem_map.mp hm; exact List.mem_map.mpr ⟨p, hd2.sub.1 p hp, z⟩)
  have o2 := (o.del hd).del hd2
  refine ⟨addTo g h [a, da], o2.add fun q hq => ?_, ⟨.refl _, addTo_keep o.keep, fun q ob e n => ⟨e, fun hm => n (by obtain ⟨p, hp, z⟩ := List.mem_map.mp hm; exact List.mem_map.mpr ⟨p, m2 p hp, z⟩), fun z => addTo_none z fun hm => n ?_⟩⟩, ?_⟩
  · rcases List.mem_cons.mp hq with rfl | hq
    · exact na
    · rw [List.mem_singleton.mp hq]; exact n2.2
  · rcases List.mem_cons.mp hm with rfl | hm
    · exact List.mem_map_of_mem (f := (·.1)) hd.sub.2.1
    · rw [List.mem_singleton.mp hm]; exact List.mem_map_of_mem (f := (·.1)) (hd.sub.1 _ hd2.sub.2.1)
  · have hk := addTo_keep (S := [a, da]) o.keep
    obtain ⟨es, n, h1, h2⟩ := ok2.1
    exact .inst (addTo_get ok1.1 (.inr (.head _))) (addTo_get h1 (.inr (.tail _ (.head _)))) (h2.keep hk)
theorem freezeI_ {α β : Type} {Γ : Cx} {R : Heap → α → β → Prop} {n : Nat} {t : Sem α} {Q : β → Led → Prop} {u u1 u2 u3 : Led} {a da C : Addr} {ds : List (Str × D)} (hd : Del u a (.inst C da) u1) (hd2 : Del u1 da (.attrs ds) u2) (r : ReU (.ref a) (.inst C ds) u2 u3) (h : WL Γ R n t Q u3) : WL Γ R n t Q u :=
  WL.ghost (fun gs g hp o => by
    obtain ⟨g', o', st, i⟩ := o.frzI (gs := gs) hd hd2
    exact ⟨g', o'.re i r, st.trans (Step.re r)⟩) h
end Mine

namespace Mine
open PySem PySem.W PySem.Calls
open PyProof.Rows (Subscript_ subscriptTail tail_any)

section
variable {prog : Program} {w : World} {A : Around} {R : Result → Shared → Prop} {s : Shared}
theorem codeAny_compLoopG {elt target iter : Expr} {ifs : List Expr} {scope : Scope} {pos : Pos} {it acc : Value} {env : Env} (I : Nat → Shared → Prop)
    (turn : ∀ n s, I n s → wpAny (model prog w) A (pyNext it) (fun r s₁ => match r with
      | none => R (.ok .next) s₁
      | some v => wpAny (model prog w) A (letOwnedTupleGo target it v) (fun _ s₁' => wpAny (model prog w) A (assign target env v) (fun _ s₂ =>
          wpAny (model prog w) A (forIn ifs true fun c r => if r = true then do let ok ← isTrue c env (eval c env); pure (ForInStep.yield ok) else pure (ForInStep.yield r)) (fun ok s₃ =>
            if ok = true then wpAny (model prog w) A (eval elt env) (fun x s₄ =>
              wpAny (model prog w) A (call (.builtin "list.append") [acc, x]) (fun _ s₅ => ∃ m, m < n ∧ I m s₅) (fun _ _ => False) s₄) (fun _ _ => False) s₃
            else ∃ m, m < n ∧ I m s₃) (fun _ _ => False) s₂) (fun _ _ => False) s₁') (fun _ _ => False) s₁) (fun _ _ => False) s)
    (n : Nat) (h : I n s) :
    codeAny (model prog w) A (.compLoop (.ListComp elt [⟨target, iter, ifs, 0⟩] scope pos) 0 it acc env) R s := by
  refine codeAny_loop rfl I (fun n s hI => ?_) n h
  show wpAny _ A ((compTurn (.ListComp elt [⟨target, iter, ifs, 0⟩] scope pos) 0 it acc env).onRaise (fun x => do noteFrame x env; theTreesLotGoes x)) _ _ s
  refine wpAny_noted ?_
  rw [compTurn_list]
  refine wpAny_bind (wpAny_standAt (wpAny_bind (wpAny_mono (turn n s hI) (fun r s₁ h₁ => ?_) fun _ _ h' => h'.elim)))
  cases r with
  | none => exact wpAny_pure h₁
  | some v =>
    refine wpAny_bind (wpAny_mono h₁ (fun _ s₁' h₁ => ?_) fun _ _ f => f.elim)
    refine wpAny_bind (wpAny_mono h₁ (fun _ s₂ h₂ => wpAny_bind (wpAny_mono h₂ (fun ok s₃ h₃ => ?_) fun _ _ h' => h'.elim)) fun _ _ h' => h'.elim)
    cases ok with
    | false => exact wpAny_pure ⟨rfl, h₃⟩
    | true =>
      exact wpAny_bind (wpAny_bind (wpAny_mono h₃ (fun x s₄ h₄ => wpAny_bind (wpAny_mono h₄ (fun _ s₅ h₅ => wpAny_pure (wpAny_pure ⟨rfl, h₅⟩)) fun _ _ h' => h'.elim)) fun _ _ h' => h'.elim))
end

/-- the tests of a comprehension -/
abbrev Tests (Γ : Cx) (n : Nat) (ifs : List Expr) (env : Env) (Q : Bool → Led → Prop) (u : Led) :=
  Ts Γ n (forIn ifs true fun c r => if r = true then do let ok ← isTrue c env (eval c env); pure (ForInStep.yield ok) else pure (ForInStep.yield r)) Q u
theorem tests0_ {Γ : Cx} {n : Nat} {env : Env} {Q : Bool → Led → Prop} {u : Led} (h : Q true u) : Tests Γ n [] env Q u := by
  rintro a ho rfl A dr os tk hA
  exact wpAny_pure (Out.same ho rfl h)
theorem tests1_ {Γ : Cx} {n : Nat} {env : Env} {c : Expr} {Q : Bool → Led → Prop} {u : Led} (h : Ts Γ n (PySem.isTrue c env (eval c env)) Q u) : Tests Γ n [c] env Q u := by
  rintro a ho rfl A dr os tk hA
  exact wpAny_tests_one (h a ho rfl A dr os tk hA)

def CompEnd (C Dd : Addr) (rs : List Str) (acc : List D) (P : Led → Prop) (u : Led) : Prop := ∃ m' v1 v2 u6, Del u C (.ns m') v1 ∧ m'.map (·.1) = rs ∧ Del v1 Dd (.list acc) v2 ∧ u6.Sublist v2 ∧ P u6
def CompTurn (Γ : Cx) (n : Nat) (elt target : Expr) (ifs : List Expr) (scope : Scope) (cl : List (Str × Addr)) (names : List (Str × NameKind)) (env : Env) (rs : List Str) (items : List D) (I : Nat → List D → Led → Prop) : Prop :=
  ∀ i di acc u2 C Dd m, items[i]? = some di → i < items.length → acc.length ≤ i → I i acc u2 → m.map (·.1) = rs → let cenv := compEnvC scope cl C env; EnvI cenv names C cl →
    On1 Γ (fun _ (_ _ : Unit) => True) n (fun v => assign target cenv v) di (fun _ u3 => Tests Γ n ifs cenv (fun ok u4 =>
      if ok = true then Ev Γ n (eval elt cenv) (fun d u5 => CompEnd C Dd rs acc (I (i + 1) (acc ++ [d])) u5) u4 else CompEnd C Dd rs acc (I (i + 1) acc) u4) u3) ((C, .ns m) :: (Dd, .list acc) :: u2)

theorem Own.perm {Γ : Cx} {g : Heap} {u u' : Led} {h : Heap} (o : Own Γ g u h) (p : u'.Perm u) : Own Γ g u' h :=
  ⟨o.base, o.keep, (p.map (·.1)).nodup_iff.mpr o.nodup, fun q hq => o.ok q (p.subset hq)⟩
theorem Step.perm {gs : Array GenState} {g : Heap} {u u' : Led} {h : Heap} (p : u'.Perm u) : Step ⟨gs, g, u, h⟩ ⟨gs, g, u', h⟩ :=
  ⟨.refl _, .refl _, fun q o e n => ⟨e, fun hm => n ((p.map (·.1)).subset hm), id⟩⟩
theorem Del.perm {u u' : Led} {a : Addr} {e : Ent} (d : Del u a e u') : ((a, e) :: u').Perm u := by
  induction d with
  | here => exact .refl _
  | there _ ih => exact (List.Perm.swap _ _ _).trans (ih.cons _)
theorem CompEnd.out {C Dd : Addr} {rs : List Str} {acc : List D} {P : Led → Prop} {u : Led} (h : CompEnd C Dd rs acc P u) : ∃ m' u6, m'.map (·.1) = rs ∧ P u6 ∧ (∀ {Γ : Cx} {g : Heap} {h : Heap}, Own Γ g u h → Own Γ g ((C, .ns m') :: (Dd, .list acc) :: u6) h) ∧ ∀ {gs : Array GenState} {g h : Heap}, Step ⟨gs, g, u, h⟩ ⟨gs, g, (C, .ns m') :: (Dd, .list acc) :: u6, h⟩ := by
  obtain ⟨m', v1, v2, u6, d1, hm, d2, hs, hP⟩ := h
  have p : ((C, Ent.ns m') :: (Dd, Ent.list acc) :: v2).Perm u := ((d2.perm).cons _).trans d1.perm
  have sl : ((C, Ent.ns m') :: (Dd, Ent.list acc) :: u6).Sublist ((C, Ent.ns m') :: (Dd, Ent.list acc) :: v2) := (hs.cons_cons _).cons_cons _
  exact ⟨m', u6, hm, hP, fun o => (o.perm p).sub sl, (Step.perm p).trans (Step.sub sl)⟩

/-- an object outside of the ledger and of what is fixed may change -/
theorem Own.off {Γ : Cx} {g : Heap} {u : Led} {h h' : Heap} {C : Addr} (o : Own Γ g u h) (hg : g.get? C = none) (hu : C ∉ u.map (·.1)) (hs : ∀ b ob, b ≠ C → h.get? b = some ob → h'.get? b = some ob) : Own Γ g u h' :=
  ⟨o.base, fun b ob e => hs b ob (fun z => by rw [z, hg] at e; cases e) (o.keep b ob e), o.nodup, fun p hp => ⟨(o.ok p hp).1.at fun ob e => hs _ ob (fun z => hu (z ▸ List.mem_map_of_mem (f := (·.1)) hp)) e, (o.ok p hp).2⟩⟩
theorem Step.off {a b : Sg} {h' : Heap} {C : Addr} (st : Step a b) (hC : a.h.get? C = none) (hs : ∀ q ob, q ≠ C → b.h.get? q = some ob → h'.get? q = some ob) : Step a ⟨b.gs, b.g, b.u, h'⟩ :=
  ⟨st.gens, st.keep, fun q o e n => let ⟨z1, z2, z3⟩ := st.fram q o e n; ⟨hs q o (fun z => by rw [z, hC] at e; cases e) z1, z2, z3⟩⟩

theorem keysNone (rs : List Str) : (rs.map fun y => ((y, none) : Str × Option D)).map (·.1) = rs := by
  induction rs with
  | nil => rfl
  | cons a r ih => simp only [List.map_cons, ih]
theorem lookNone (rs : List Str) (y : Str) : (rs.map fun y => ((y, none) : Str × Option D)).lookup y = none ∨ (rs.map fun y => ((y, none) : Str × Option D)).lookup y = some none := by
  induction rs with
  | nil => exact .inl rfl
  | cons a r ih =>
    rw [List.map_cons, List.lookup_cons]
    cases y == a
    · exact ih
    · exact .inr rfl
def compChk (scope : Scope) (rs : List Str) : Bool := (scope.names.all fun y => decide (y.2 ≠ .cell) && (!decide (y.2 = .local) || decide (scope.names.lookup y.1 = some .local))) && decide (rs.Nodup)

section
variable {Γ : Cx} {n : Nat} {env : Env} {u : Led} {x : Str} {pos : Pos}

theorem comp_block {elt target iter : Expr} {ifs : List Expr} {scope : Scope} {cl : List (Str × Addr)} {names : List (Str × NameKind)} {rs : List Str} {items : List D} {I : Nat → List D → Led → Prop} {b : Sg} {dr : Drawn} {os : OsState} {tk' : Nat} {A : Around} {it : Addr}
    {fp wr : List Addr} {P : Nat → Value → Prop} {St : Nat → Heap → Prop} {h' : Heap} {RR : Value → Addr → Result → Shared → Prop} {E : Value → Shared → Prop} (hA : Ok n A)
    (hch : compChk scope rs = true) (hkind : scope.kind = .function) (hn : (relabel scope env).names = names) (hE : envChk names (cl.map (·.1)) = true) (hG : env.globals = mainGlobals) (hB : env.builtins = builtinsNs) (hz : items.length ≤ sizeLine)
    (turn : CompTurn Γ n elt target ifs scope cl names env rs items I)
    (ob : Own Γ b.g b.u b.h) (h0 : I 0 [] b.u) (W : Walks Γ.prog Γ.w A it fp wr items.length P St) (hst : St 0 h') (hk : Keep b.h h') (hwr : ∀ q ∈ wr, b.h.get? q = none) (hex : ∀ i h, St i h → GoSkip h it ∧ ∀ q ∈ wr, ∃ o, h.get? q = some o)
    (hfp : ∀ q ∈ fp, q ∈ wr ∨ ∃ o, b.g.get? q = some o) (hP : ∀ i v, i < items.length → P i v → ∃ d, items[i]? = some d ∧ Is Γ.w.params b.g v d)
    (hRR : ∀ C Dd c tk acc, Step b c → Own Γ c.g c.u c.h → Is Γ.w.params c.g (.ref Dd) (.list acc) → I items.length acc c.u → acc.length ≤ items.length → b.h.get? C = none → C ∉ c.u.map (·.1) → c.g.get? C = none → (∃ μ, c.h.Ns C μ) → RR (.ref Dd) C (.ok .next) (sh c dr tk os)) :
    wpAny (model Γ.prog Γ.w) A (newList []) (fun acc s₃ => wpAny (model Γ.prog Γ.w) A (newFunctionEnv scope env.globals cl [] env.qual none .none (some env)) (fun cenv s₄ =>
      codeAny (model Γ.prog Γ.w) A (.compStart (.ListComp elt [⟨target, iter, ifs, 0⟩] scope pos) 0 (.ref it) acc { cenv with scope := relabel scope env }) (RR acc cenv.locals) s₄) E s₃) E (sh ⟨b.gs, b.g, b.u, h'⟩ dr tk' os) := by
  simp only [compChk, Bool.and_eq_true, decide_eq_true_eq, List.all_eq_true] at hch
  obtain ⟨hch, hnd⟩ := hch
  have hcell : ∀ y ∈ scope.names, y.2 ≠ .cell := fun y hy => (hch y hy).1
  refine wpAny_newObj_type (wpAny_newFunctionEnv hcell (by intro y hy; simp at hy) (fun h₁ hns₁ hsb₁ => ?_) hkind)
  dsimp only [sh] at hns₁ hsb₁ ⊢
  generalize hH2 : h'.push { cls := .type "list", dict := none, data := .seq ([] : List Value).toArray } = H2 at hns₁ hsb₁ ⊢
  have hC : H2.objs.size = h'.objs.size + 1 := by rw [← hH2, Heap.size_push]
  have old : ∀ q o, h'.get? q = some o → h₁.get? q = some o := fun q o e => by
    have hlt := Heap.lt_size e
    exact hsb₁.extBut q o (by rw [hC]; exact Nat.ne_of_lt (Nat.lt_succ_of_lt hlt)) (Heap.get?_push_of_some _ (hH2 ▸ Heap.get?_push_of_some _ e))
  have hDC : h'.objs.size ≠ H2.objs.size := by omega
  have hD₁ : h₁.get? h'.objs.size = some (PySem.W.listOf ([] : List Value).toArray 0) := hsb₁.extBut _ _ hDC (Heap.get?_push_of_some _ (hH2 ▸ Heap.get?_push_size _ rfl))
  have l0 : LoopAt Γ b ⟨b.gs, b.g, b.u, h'⟩ fp wr := LoopAt.start ob hk hwr
  have fresh' : ∀ q, h'.objs.size ≤ q → b.h.get? q = none ∧ b.g.get? q = none ∧ q ∉ b.u.map (·.1) ∧ q ∉ wr := fun q hq => by
    have e0 : h'.get? q = none := by
      cases e : h'.get? q with
      | none => rfl
      | some o => exact absurd (Heap.lt_size e) (Nat.not_lt.mpr hq)
    have e1 : b.h.get? q = none := by
      cases e : b.h.get? q with
      | none => rfl
      | some o => rw [hk _ _ e] at e0; cases e0
    refine ⟨e1, ?_, fun hm => ?_, fun hw => ?_⟩
    · cases e : b.g.get? q with
      | none => rfl
      | some o => rw [ob.keep _ _ e] at e1; cases e1
    · obtain ⟨p, hp, rfl⟩ := List.mem_map.mp hm
      obtain ⟨o, e⟩ := (ob.ok p hp).1.lt
      rw [e1] at e; cases e
    · obtain ⟨o, e⟩ := (hex _ _ hst).2 q hw
      rw [e0] at e; cases e
  have fD := fresh' h'.objs.size (Nat.le_refl _)
  have fC := fresh' H2.objs.size (by omega)
  -- the ledger with the frame and the list that grows
  have o1 : Own Γ b.g ((H2.objs.size, .ns (rs.map fun y => (y, none))) :: (h'.objs.size, .list []) :: b.u) h₁ := by
    have o0 : Own Γ b.g b.u h₁ := ob.grow (hk.trans old)
    refine ⟨o0.base, o0.keep, ?_, ?_⟩
    · rw [List.map_cons, List.map_cons, List.nodup_cons, List.nodup_cons, List.mem_cons, not_or]
      exact ⟨⟨fun e => hDC e.symm, fC.2.2.1⟩, fD.2.2.1, ob.nodup⟩
    · intro p hp
      rcases List.mem_cons.mp hp with rfl | hp
      · refine ⟨⟨_, hns₁, by rw [keysNone]; exact hnd, fun y => ?_⟩, fC.2.1⟩
        rcases lookNone rs y with e | e <;> rw [e] <;> rfl
      · rcases List.mem_cons.mp hp with rfl | hp
        · exact ⟨⟨[], 0, hD₁, .nil⟩, fD.2.1⟩
        · exact o0.ok p hp
  have hst₁ : St 0 h₁ := W.frame _ _ _ hst fun q _ o e => old q o e
  have l1 : LoopAt Γ b ⟨b.gs, b.g, (H2.objs.size, .ns (rs.map fun y => (y, none))) :: (h'.objs.size, .list []) :: b.u, h₁⟩ fp wr := by
    refine ⟨⟨.refl _, .refl _, fun q o e nq => ⟨old _ _ (hk _ _ e), fun hm => ?_, id⟩⟩, o1, fun q hq => ⟨(l0.off q hq).1, fun hm => ?_⟩⟩
    · rw [List.map_cons, List.map_cons] at hm
      rcases List.mem_cons.mp hm with z | hm
      · dsimp only at z; rw [z, fC.1] at e; cases e
      · rcases List.mem_cons.mp hm with z | hm
        · dsimp only at z; rw [z, fD.1] at e; cases e
        · exact nq hm
    · rw [List.map_cons, List.map_cons] at hm
      rcases List.mem_cons.mp hm with z | hm
      · dsimp only at z; exact fC.2.2.2 (z ▸ hq)
      · rcases List.mem_cons.mp hm with z | hm
        · dsimp only at z; exact fD.2.2.2 (z ▸ hq)
        · exact (l0.off q hq).2 hm
  have envi : EnvI (compEnvC scope cl H2.objs.size env) names H2.objs.size cl := ⟨hkind, hn, rfl, rfl, hG, hB, hE⟩
  let Inv : Nat → Shared → Prop := fun k s => ∃ i c tkc acc m' u2, i + k = items.length ∧ s = sh c dr tkc os ∧ LoopAt Γ b c fp wr ∧ St i c.h ∧ c.u = (H2.objs.size, .ns m') :: (h'.objs.size, .list acc) :: u2 ∧ m'.map (·.1) = rs ∧ I i acc u2 ∧ acc.length ≤ i
  have loop : codeAny (model Γ.prog Γ.w) A (.compLoop (.ListComp elt [⟨target, iter, ifs, 0⟩] scope pos) 0 (.ref it) (.ref h'.objs.size) (compEnvC scope cl H2.objs.size env)) (RR (.ref h'.objs.size) H2.objs.size) (sh ⟨b.gs, b.g, (H2.objs.size, .ns (rs.map fun y => (y, none))) :: (h'.objs.size, .list []) :: b.u, h₁⟩ dr (tk' + 0) os) := by
    refine codeAny_compLoopG Inv ?_ items.length ⟨0, _, _, [], _, b.u, by omega, rfl, l1, hst₁, rfl, by simp [Function.comp_def], h0, by simp⟩
    rintro k s ⟨i, c, tkc, acc, m', u2, hik, rfl, lc, hstc, hcu, hm', hIc, hacc⟩
    by_cases hi : i < items.length
    · refine W.item i _ _ _ hi hstc fun v' h'' tk'' hPv hst'' hk'' => ?_
      obtain ⟨di, hdi, hIs⟩ := hP i v' hi hPv
      have l2 := lc.next (h'' := h'') hwr hk''
      refine go_skip (hex _ _ hst'').1 ?_
      refine (turn i di acc u2 _ _ m' hdi hi hacc hIc hm' envi ⟨c.gs, c.g, c.u, h''⟩ l2.own hcu v' (hIs.keep lc.step.keep)).to hA (dr := dr) (os := os) (tk := tk'') fun e tke _ _ st2 oe _ q2 => ?_
      refine (q2 e oe rfl).to hA fun f tkf ok ok' st3 of r3 q3 => ?_
      subst r3
      cases ok with
      | false =>
        obtain ⟨l3, hfp3⟩ := l2.body (hex _ _ hst'').2 (st2.trans st3) of hfp
        have st3' : St (i + 1) f.h := W.frame _ _ _ hst'' hfp3
        obtain ⟨m2, u6, hm2, hI6, oo, ss⟩ := CompEnd.out q3
        obtain ⟨l4, _⟩ := l3.body (hex _ _ st3').2 (ss (gs := f.gs) (g := f.g) (h := f.h)) (oo of) hfp
        exact ⟨k - 1, by omega, i + 1, ⟨f.gs, f.g, (H2.objs.size, .ns m2) :: (h'.objs.size, .list acc) :: u6, f.h⟩, tkf, acc, m2, u6, by omega, rfl, l4, st3', rfl, hm2, hI6, by omega⟩
      | true =>
        refine (q3 f of rfl).to hA fun e2 tke2 x d st4 oe2 r4 q4 => ?_
        obtain ⟨l3, hfp3⟩ := l2.body (hex _ _ hst'').2 ((st2.trans st3).trans st4) oe2 hfp
        have st3' : St (i + 1) e2.h := W.frame _ _ _ hst'' hfp3
        obtain ⟨m2, u6, hm2, hI6, oo, ss⟩ := CompEnd.out q4
        have o5 := oo oe2
        have key := append_ (Γ := Γ) (n := n) (l := h'.objs.size) (ds := acc) (d := d) (u := (H2.objs.size, .ns m2) :: (h'.objs.size, .list acc) :: u6) (Q := fun _ u7 => u7 = (H2.objs.size, .ns m2) :: (h'.objs.size, .list (acc ++ [d])) :: u6) (Set1.there Set1.here) (by omega) rfl
        refine (key ⟨e2.gs, e2.g, _, e2.h⟩ o5 rfl [.ref h'.objs.size, x] (.cons (.raw _) (.cons r4 .nil))).to hA (dr := dr) (os := os) (tk := tke2) fun e3 tke3 _ _ st5 oe3 _ q5 => ?_
        obtain ⟨l5, hfp5⟩ := l3.body (hex _ _ st3').2 ((ss (gs := e2.gs) (g := e2.g) (h := e2.h)).trans st5) oe3 hfp
        exact ⟨k - 1, by omega, i + 1, e3, tke3, acc ++ [d], m2, u6, by omega, rfl, l5, W.frame _ _ _ st3' hfp5, q5, hm2, hI6, by simp; omega⟩
    · have : i = items.length := by omega
      subst this
      refine W.done _ _ _ hstc fun h'' tk'' hk'' => ?_
      have l2 := lc.next (h'' := h'') hwr hk''
      have oc := l2.own
      obtain ⟨gs2, g2, u', hc⟩ := c
      dsimp only at hcu oc l2 hstc
      subst hcu
      have o2 := oc.del Del.here
      obtain ⟨g', o3, st3, is3⟩ := o2.frz (gs := gs2) Del.here (Frz.list (a := h'.objs.size) (ds := acc))
      have stt : Step b ⟨gs2, g', u2, h''⟩ := (l2.step.trans (Step.del Del.here)).trans st3
      have nd := oc.nodup
      rw [List.map_cons, List.map_cons, List.nodup_cons, List.mem_cons, not_or, List.nodup_cons] at nd
      have nsC := (oc.ok (H2.objs.size, .ns m') (.head _))
      obtain ⟨μ, nsC1, _⟩ := nsC.1
      have nsh : ∃ o, h''.get? H2.objs.size = some o := by obtain ⟨o, es, ep, ho', r⟩ := nsC1; exact ⟨o, ho'⟩
      obtain ⟨oC, hoC⟩ := nsh
      have gC : g'.get? H2.objs.size = none := ((st3.fram _ oC hoC (fun hm => by
        rcases List.mem_cons.mp hm with z | z
        · exact nd.1.1 z
        · exact nd.1.2 z)).2.2) nsC.2
      exact hRR _ _ ⟨gs2, g', u2, h''⟩ tk'' acc stt o3 is3 hIc hacc fC.1 nd.1.2 gC ⟨μ, nsC1⟩
  exact codeAny_compStart_list loop (W.self 0 _ _ _ hst₁ loop)

theorem comp_ {elt target iter : Expr} {ifs : List Expr} {scope : Scope} {cl : List (Str × Addr)} {names : List (Str × NameKind)} {rs : List Str} {Q : D → Led → Prop}
    (hclos : closureFor scope env = pure cl) (hn : (relabel scope env).names = names) (hch : compChk scope rs = true) (hE : envChk names (cl.map (·.1)) = true) (hkind : scope.kind = .function) (hG : env.globals = mainGlobals) (hB : env.builtins = builtinsNs)
    (h : Ev Γ n (eval iter env) (fun d u1 => ∃ (items : List D) (I : Nat → List D → Led → Prop), Iter Γ d items ∧ items.length ≤ sizeLine ∧ I 0 [] u1 ∧ CompTurn Γ n elt target ifs scope cl names env rs items I ∧
      (∀ acc u2, acc.length ≤ items.length → I items.length acc u2 → Q (.list acc) u2)) u)
    (hs : ∀ x, foldedSetIterable iter env x = pure x := by intro _; with_unfolding_all rfl) : Ev Γ n (eval (.ListComp elt [⟨target, iter, ifs, 0⟩] scope pos) env) Q u := by
  rintro a ho rfl A dr os tk hA
  rw [eval_ListComp]
  have hch' := hch
  simp only [compChk, Bool.and_eq_true, decide_eq_true_eq, List.all_eq_true] at hch'
  refine wpAny_comprehension_free (use := none) rfl hs hclos hkind (fun x hx hl => ?_) (wpAny_mono (h a ho rfl A dr os tk hA) ?_ (fun _ _ f => f.elim))
  · have := (hch'.1 x hx).2; rw [hl] at this; simpa using this
  rintro v _ ⟨b, tk1, d, rfl, st, ob, r, items, I, hI, hz, h0, turn, done⟩
  refine wpAny_mono (hI A b.gs b.g b.u b.h v dr tk1 os _ hA.1 ob r (fun I' fp wr P St h' tk' W hst hk hwr hex hfp hP => ?_)) (fun _ _ x => x) (fun _ _ f => f.elim)
  refine comp_block (RR := fun acc C => compPost (model Γ.prog Γ.w) A _ none _ acc C) hA hch hkind hn hE hG hB hz turn ob h0 W hst hk hwr hex hfp hP ?_
  intro C Dd c tk acc stc oc isD hIc hacc hCb hCu hCg hCn
  obtain ⟨μ, hCn⟩ := hCn
  refine ⟨μ, hCn, fun h'' hs'' => ?_⟩
  have hs2 : ∀ b ob, b ≠ C → c.h.get? b = some ob → h''.get? b = some ob := fun b ob ne q => (hs''.2 b ne).trans q
  exact ⟨⟨c.gs, c.g, c.u, h''⟩, tk, _, rfl, st.trans (stc.off hCb hs2), oc.off hCg hCu hs2, isD, done _ _ hacc hIc⟩

theorem AssignComp_ {y : Str} {py spos : Pos} {elt target iter : Expr} {ifs : List Expr} {scope : Scope} {cl : List (Str × Addr)} {names : List (Str × NameKind)} {rs : List Str} {Q : Fl → Led → Prop}
    (hsw : swapsWith (.ListComp elt [⟨target, iter, ifs, 0⟩] scope pos) (some (.Name y py)) spos.line env = pure true)
    (hclos : closureFor scope env = pure cl) (hn : (relabel scope env).names = names) (hch : compChk scope rs = true) (hE : envChk names (cl.map (·.1)) = true) (hkind : scope.kind = .function) (hG : env.globals = mainGlobals) (hB : env.builtins = builtinsNs)
    (h : Ev Γ n (eval iter env) (fun d u1 => ∃ (items : List D) (I : Nat → List D → Led → Prop), Iter Γ d items ∧ items.length ≤ sizeLine ∧ I 0 [] u1 ∧ CompTurn Γ n elt target ifs scope cl names env rs items I ∧
      (∀ acc u2, acc.length ≤ items.length → I items.length acc u2 → On1 Γ (fun _ (_ _ : Unit) => True) n (fun v => storeName env y v) (.list acc) (fun _ u3 => Q .next u3) u2)) u)
    (hs : ∀ x, foldedSetIterable iter env x = pure x := by intro _; with_unfolding_all rfl) : Ex Γ n (exec (.Assign [.Name y py] (.ListComp elt [⟨target, iter, ifs, 0⟩] scope pos) spos) env) Q u := by
  rintro a ho rfl A dr os tk hA
  have hch' := hch
  simp only [compChk, Bool.and_eq_true, decide_eq_true_eq, List.all_eq_true] at hch'
  rw [exec_Assign_Name_used _ _ _ _ hsw]
  refine wpAny_bind (wpAny_standAt (wpAny_bind ?_))
  show wpAny _ A (do let _ ← comprehension (.ListComp elt [⟨target, iter, ifs, 0⟩] scope pos) scope env _ (newList []) false (eval iter env) (some (assign (.Name y py) env))) _ _ _
  refine wpAny_bind (wpAny_mono (wpAny_comprehension_free (use := some (assign (.Name y py) env)) (Q := fun _ s' => Out Γ (IsFl Γ.w.params) Q a dr os .next s') rfl hs hclos hkind (fun x hx hl => ?_)
    (wpAny_mono (h a ho rfl A dr os tk hA) ?_ (fun _ _ f => f.elim))) (fun _ s' hq => wpAny_pure (wpAny_pure hq)) fun _ _ e => e)
  · have := (hch'.1 x hx).2; rw [hl] at this; simpa using this
  rintro v _ ⟨b, tk1, d, rfl, st, ob, r, items, I, hI, hz, h0, turn, done⟩
  refine wpAny_mono (hI A b.gs b.g b.u b.h v dr tk1 os _ hA.1 ob r (fun I' fp wr P St h' tk' W hst hk hwr hex hfp hP => ?_)) (fun _ _ x => x) (fun _ _ f => f.elim)
  refine comp_block (RR := fun acc C => compPost (model Γ.prog Γ.w) A _ (some (assign (.Name y py) env)) _ acc C) hA hch hkind hn hE hG hB hz turn ob h0 W hst hk hwr hex hfp hP ?_
  intro C Dd c tk acc stc oc isD hIc hacc hCb hCu hCg hCn
  obtain ⟨μ, o, es, ep, hoC, rC⟩ := hCn
  show wpAny _ A (assign (.Name y py) env (.ref Dd)) _ _ _
  refine wpAny_assign_Name ((done acc c.u hacc hIc c oc rfl _ isD).to hA fun e tke _ _ st2 oe _ q2 => ?_)
  obtain ⟨z1, z2, z3⟩ := st2.fram C o hoC hCu
  refine ⟨μ, ⟨o, es, ep, z1, rC⟩, fun h'' hs'' => ?_⟩
  have hs2 : ∀ b ob, b ≠ C → e.h.get? b = some ob → h''.get? b = some ob := fun b ob ne q => (hs''.2 b ne).trans q
  exact ⟨⟨e.gs, e.g, e.u, h''⟩, tke, .next, rfl, st.trans ((stc.trans st2).off hCb hs2), oe.off (z3 hCg) z2 hs2, .next, q2⟩
end
theorem names1 {m : List (Str × Option D)} {x : Str} (h : m.map (·.1) = [x]) : ∃ o, m = [(x, o)] := by
  match m, h with
  | [(_, o)], rfl => exact ⟨o, rfl⟩
theorem names2 {m : List (Str × Option D)} {x y : Str} (h : m.map (·.1) = [x, y]) : ∃ o o', m = [(x, o), (y, o')] := by
  match m, h with
  | [(_, o), (_, o')], rfl => exact ⟨o, o', rfl⟩
theorem names3 {m : List (Str × Option D)} {x y z : Str} (h : m.map (·.1) = [x, y, z]) : ∃ o o' o'', m = [(x, o), (y, o'), (z, o'')] := by
  match m, h with
  | [(_, o), (_, o'), (_, o'')], rfl => exact ⟨o, o', o'', rfl⟩
end Mine

namespace Mine
open PySem PySem.W PySem.Calls
open PyProof.Rows (Subscript_ subscriptTail tail_any)

/-- a place in the ledger, and what the ledger is with another entry there -/
inductive Hole (a : Addr) : Led → Ent → (Ent → Led) → Prop
  | here {e : Ent} {u : Led} : Hole a ((a, e) :: u) e (fun x => (a, x) :: u)
  | there {p : Addr × Ent} {u : Led} {e : Ent} {f : Ent → Led} : Hole a u e f → Hole a (p :: u) e (fun x => p :: f x)
theorem Hole.eq {a : Addr} {u : Led} {e : Ent} {f : Ent → Led} (h : Hole a u e f) : u = f e := by
  induction h with
  | here => rfl
  | there _ ih => rw [ih]
theorem Hole.set {a : Addr} {u : Led} {e : Ent} {f : Ent → Led} (h : Hole a u e f) (e' : Ent) : Set1 u a e e' (f e') := by
  induction h with
  | here => exact .here
  | there _ ih => exact .there ih
def HoleF (a : Addr) (f : Ent → Led) : Prop := ∀ e, Hole a (f e) e f
theorem HoleF.at {a : Addr} {f : Ent → Led} (h : HoleF a f) (e : Ent) : Hole a (f e) e f := h e
theorem Hole.all {a : Addr} {u : Led} {e : Ent} {f : Ent → Led} (h : Hole a u e f) : HoleF a f := by
  induction h with
  | here => exact fun _ => .here
  | there _ ih => exact fun e => .there (ih e)
theorem HoleF.mem {a : Addr} {f : Ent → Led} (h : HoleF a f) (e : Ent) : (a, e) ∈ f e := ((h e).set e).mem

/-- the numbers of a script -/
structure NsOk (ns : List D) : Prop where
  pos : 0 < ns.length
  le : ns.length ≤ 100
  int : ∀ i, i < ns.length → ∃ x : Int, ns[i]? = some (.int x) ∧ 0 ≤ x ∧ x < 2 ^ 40
abbrev rng (ns : List D) (k : Int) : Ent := .list [.list ns, .int k]

theorem nolong {a b : Int} (h : b.natAbs < 2 ^ 60) : Builtin.divisionGoesByPylong a b = false := by
  unfold Builtin.divisionGoesByPylong
  have : b.natAbs.log2 < 60 := by
    by_cases e : b.natAbs = 0
    · rw [e]; decide
    · exact (Nat.log2_lt e).mpr h
  have d : ¬ ((if b == 0 then 0 else b.natAbs.log2 / 30 + 1) > 300) := by split <;> omega
  simp only [decide_eq_false d, Bool.false_and]
theorem mulok {b : Int} (h : b.natAbs < 2 ^ 60) : IntMulOk 7 b := by
  unfold IntMulOk
  rw [show decide (Builtin.Int.intBits 7 > shortFactorBits) = false from by decide +kernel]
  simp
theorem Ex.noraise {env : Env} : True := trivial
section
variable {Γ : Cx} {n : Nat} {env : Env} {u : Led} {x : Str} {pos : Pos}
/-- the same rules, their side conditions in a form that looks through all -/
theorem ExprU_ {e : Expr} {Q : Fl → Led → Prop} (h : Ev Γ n (eval e env) (fun _ u1 => Q .next u1) u) (hi : interactive env = false := by with_unfolding_all rfl) (hs : swapsWith e none pos.line env = pure false := by with_unfolding_all rfl) : Ex Γ n (exec (.Expr e pos) env) Q u := Expr_ h hi hs
theorem AssignSwap2_ {es : List Expr} {k : Nat} {p : Pos} {e : Expr} {x y : Str} {Q : Fl → Led → Prop}
    (h : Ev Γ n (eval e env) (fun d u1 => ∃ d1 d2, d = .tup [d1, d2] ∧ AsgAll Γ n [bindName env y, bindName env x] [d2, d1] (fun _ u2 => Q .next u2) u1) u)
    (hw : swappedStores [.Tuple es k p] e env = pure (some [x, y]) := by with_unfolding_all rfl) (hs : swapsWithSole [.Tuple es k p] e pos.line env = pure false := by with_unfolding_all rfl) : Ex Γ n (exec (.Assign [.Tuple es k p] e pos) env) Q u :=
  AssignSwap_ (names := [x, y]) (h.mono fun d u1 ⟨d1, d2, e, h⟩ => ⟨[d1, d2], e, rfl, h⟩) hw hs
theorem CallU_ {fn : Expr} {es : List Expr} {Q : D → Led → Prop}
    (h : Ev Γ n (eval fn env) (fun df u1 => Callee Γ df ∧ As Γ n (spliced (backTo pos (starEach es env))) (fun ds u2 => OnC Γ n df ds Q u2) u1) u)
    (hq : eval (.Call fn es [] pos) env = (do let f ← eval fn env; callWith pos f [] (backTo pos (starEach es env)) (backToKw pos (keywordEach [] env))) := by with_unfolding_all rfl)
    (he : es = [] ∨ ∃ e r, es = e :: r ∧ starEach es env = (false, eval e env) :: starEach r env := by with_unfolding_all first | exact .inl rfl | exact .inr ⟨_, _, rfl, rfl⟩) (hp : ((backTo pos (starEach es env)).any (·.1)) = false := by with_unfolding_all rfl) :
    Ev Γ n (eval (.Call fn es [] pos) env) Q u := Call_ h hq he hp
theorem argU_cons {e : Expr} {rest : List Expr} {Q : List D → Led → Prop} (h : Ev Γ n (eval e env) (fun d u1 => As Γ n (spliced (backTo pos (starEach rest env))) (fun ds u2 => Q (d :: ds) u2) u1) u)
    (hs : starEach (e :: rest) env = (false, eval e env) :: starEach rest env := by with_unfolding_all rfl) : As Γ n (spliced (backTo pos (starEach (e :: rest) env))) Q u := argE_cons h hs
end
end Mine

namespace Mine
open PySem PySem.W PySem.Calls
open PyProof.Rows (Subscript_ subscriptTail tail_any)

/-- slices -/
def cut (o : Option Int) (dflt n : Nat) : Nat := match o with
  | none => dflt
  | some i => (max 0 (min (if i < 0 then i + n else i) n)).toNat
def sliced {α : Type} (l : List α) (lo hi : Option Int) : List α := (l.drop (cut lo 0 l.length)).take (cut hi l.length l.length - cut lo 0 l.length)
theorem clip_cut (o : Option Int) (d n : Nat) : (match o with | none => (d : Int) | some i => max 0 (min (if i < 0 then i + n else i) n)) = ((cut o d n : Nat) : Int) := by
  cases o with
  | none => rfl
  | some i =>
    show max 0 (min (if i < 0 then i + n else i) n) = (((max 0 (min (if i < 0 then i + n else i) n)).toNat : Nat) : Int)
    rw [Int.toNat_of_nonneg (Int.le_max_left _ _)]
theorem sliceBounds_cut (lo hi : Option Int) (n : Nat) : sliceBounds lo hi none n = (((cut lo 0 n : Nat) : Int), ((cut hi n n : Nat) : Int), (1 : Int)) := by
  rw [← clip_cut, ← clip_cut]
  cases lo <;> cases hi <;> rfl
theorem slicePick_cut (items : Array Value) (lo hi : Option Int) : slicePick items lo hi none = (sliced items.toList lo hi).toArray := by
  unfold slicePick
  rw [sliceBounds_cut, sliceRange_one, pick_run]
  simp [sliced]
theorem strSlice_cut (lo hi : Option Int) (n : Nat) : Builtin.Str.strSliceIndices lo hi 1 n = (List.range (cut hi n n - cut lo 0 n)).map (cut lo 0 n + ·) := by
  rw [← sliceRange_one, ← clip_cut, ← clip_cut]
  cases lo <;> cases hi <;> rfl
theorem pick_all {α : Type} (xs : Array α) (a k : Nat) : ((List.range k).map (a + ·)).filterMap (xs[·]?) = (xs.toList.drop a).take k := pick_run xs a k
/-- a part of a text -/
def cutS (x : Str) (lo hi : Option Int) : Str := ⟨(sliced x.cps.toList lo hi).toArray⟩
theorem cutS_length (x : Str) (lo hi : Option Int) : (cutS x lo hi).length ≤ x.length := by
  show (sliced x.cps.toList lo hi).toArray.size ≤ x.cps.size
  rw [List.size_toArray, ← Array.length_toList]
  unfold sliced
  rw [List.length_take, List.length_drop]
  omega
theorem cutS_pick (x : Str) (lo hi : Option Int) : (⟨((Builtin.Str.strSliceIndices lo hi 1 x.length).filterMap (x.cps[·]?)).toArray⟩ : Str) = cutS x lo hi := by
  rw [strSlice_cut, pick_all]
  simp [cutS, sliced, Str.length]
theorem cutS_whole {x : Str} {lo hi : Option Int} (h : (Builtin.Str.strSliceIndices lo hi 1 x.length).length = x.length) : cutS x lo hi = x := by
  rw [strSlice_cut] at h
  simp at h
  have c2 : ∀ o d n : _, (d ≤ n) → cut o d n ≤ n := fun o d n hd => by cases o <;> simp [cut] <;> omega
  have h2 := c2 hi x.length x.length (Nat.le_refl _)
  have e : x.cps.toList.length = x.length := by simp [Str.length]
  unfold cutS sliced
  rw [e]
  by_cases h0 : cut lo 0 x.length = 0
  · rw [h, h0, List.drop_zero, ← e, List.take_length]
  · have : x.length = 0 := by omega
    have : x.cps.toList = [] := List.length_eq_zero_iff.mp (e.trans this)
    rw [this]
    obtain ⟨cps⟩ := x
    simp at this
    simp [this]

inductive PartD : D → Option Int → Prop
  | none : PartD .none none
  | int {i : Int} : PartD (.int i) (some i)
theorem PartD.part {P : Params} {g : Heap} {v : Value} {d : D} {o : Option Int} (p : PartD d o) (h : Is P g v d) : IsPart v o := by
  cases p with
  | none => cases h; exact .none
  | int => cases h; exact .int _ _
theorem PartD.val {P : Params} {g : Heap} {v : Value} {d : D} {o : Option Int} (p : PartD d o) (h : Is P g v d) : ∃ q : Option (Int × Tok), v = partValue q ∧ q.map (·.1) = o := by
  cases p with
  | none => cases h; exact ⟨Option.none, rfl, rfl⟩
  | int => cases h; exact ⟨some (_, _), rfl, rfl⟩

theorem IsAll.drop {P : Params} {g : Heap} : ∀ {vs : List Value} {ds : List D}, IsAll P g vs ds → ∀ k, IsAll P g (vs.drop k) (ds.drop k)
  | _, _, h, 0 => h
  | _, _, .nil, _ + 1 => .nil
  | _, _, .cons _ r, k + 1 => r.drop k
theorem IsAll.take {P : Params} {g : Heap} : ∀ {vs : List Value} {ds : List D}, IsAll P g vs ds → ∀ k, IsAll P g (vs.take k) (ds.take k)
  | _, _, h, 0 => .nil
  | _, _, .nil, _ + 1 => .nil
  | _, _, .cons h r, k + 1 => .cons h (r.take k)
theorem IsAll.sliced {P : Params} {g : Heap} {vs : List Value} {ds : List D} (h : IsAll P g vs ds) (lo hi : Option Int) : IsAll P g (sliced vs lo hi) (Mine.sliced ds lo hi) := by
  unfold Mine.sliced
  rw [h.length]
  exact (h.drop _).take _

/-- is it None -/
def D.isNone : D → Bool
  | .none => true
  | .raw v => v == .none
  | _ => false
theorem Is.isNone {P : Params} {g : Heap} {v : Value} {d : D} (h : Is P g v d) : (v == Value.none) = d.isNone := by
  cases h <;> rfl

mutual
inductive Dt : D → PyData → Prop
  | none : Dt .none .none
  | bool (b : Bool) : Dt (.bool b) (.bool b)
  | int (i : Int) : Dt (.int i) (.int i)
  | str (s : Str) : Dt (.str s) (.str s)
  | tup {l : List D} {p : List PyData} : Dts l p → Dt (.tup l) (.tuple p)
  | list {l : List D} {p : List PyData} : Dts l p → Dt (.list l) (.list p)
inductive Dts : List D → List PyData → Prop
  | nil : Dts [] []
  | cons {d : D} {p : PyData} {l : List D} {r : List PyData} : Dt d p → Dts l r → Dts (d :: l) (p :: r)
end
mutual
theorem Dt.reads {P : Params} {g h : Heap} (k : Keep g h) : ∀ {d : D} {p : PyData}, Dt d p → ∀ {v : Value}, Is P g v d → ∃ as, Reads h v p as
  | _, _, .none, v, i => by cases i; exact ⟨_, .none⟩
  | _, _, .bool b, v, i => by cases i; exact ⟨_, .bool _⟩
  | _, _, .int b, v, i => by cases i; exact ⟨_, .int _ _⟩
  | _, _, .str b, v, i => by cases i; exact ⟨_, .str _ _⟩
  | _, _, .tup s, v, i => by
    cases i with | tup e r => ?_
    obtain ⟨as, a⟩ := Dts.reads k s r
    exact ⟨as, .tuple (k _ _ e) rfl rfl a⟩
  | _, _, .list s, v, i => by
    cases i with | list e r => ?_
    obtain ⟨as, a⟩ := Dts.reads k s r
    exact ⟨_ :: as, .list (k _ _ e) rfl rfl a⟩
theorem Dts.reads {P : Params} {g h : Heap} (k : Keep g h) : ∀ {d : List D} {p : List PyData}, Dts d p → ∀ {v : List Value}, IsAll P g v d → ∃ as, ReadsAll h v p as
  | _, _, .nil, v, i => by cases i; exact ⟨_, .nil⟩
  | _, _, .cons c d, v, i => by
    cases i with | cons a b => ?_
    obtain ⟨_, x⟩ := Dt.reads k c a
    obtain ⟨_, y⟩ := Dts.reads k d b
    exact ⟨_, .cons x y⟩
end

section
variable {Γ : Cx} {n : Nat} {env : Env} {u : Led} {x : Str} {pos : Pos}

theorem addLL {ds es : List D} {Q : D → Led → Prop} (hz : ds.length + es.length ≤ sizeLine) (hQ : Q (.list (ds ++ es)) u) : On2 Γ (Is Γ.w.params) n (binaryOp .Add) (.list ds) (.list es) Q u := by
  rintro ⟨gs, g, uu, h⟩ ho hu v x hv hx A dr os tk hA
  obtain rfl : uu = u := hu
  cases hv with | list hl hr => ?_
  cases hx with | list hl2 hr2 => ?_
  rename_i l vs m b ws m2
  obtain ⟨g', st, o', e⟩ := ho.alloc (gs := gs) { cls := .type "list", data := .seq (vs.toArray ++ ws.toArray) } rfl
  refine PySem.P.add_list (ho.keep _ _ hl) (ho.keep _ _ hl2) ⟨⟨gs, g', _, _⟩, tk, _, rfl, st, o', .list (vs := vs ++ ws) (n := 0) ?_ ((hr.append hr2).keep st.keep), hQ⟩ (by rw [List.size_toArray, List.size_toArray, hr.length, hr2.length]; exact hz)
  exact e.trans (by simp)
theorem addTT {ds es : List D} {Q : D → Led → Prop} (h1 : 0 < ds.length) (h2 : 0 < es.length) (hz : ds.length + es.length ≤ sizeLine) (hQ : Q (.tup (ds ++ es)) u) : On2 Γ (Is Γ.w.params) n (binaryOp .Add) (.tup ds) (.tup es) Q u := by
  rintro ⟨gs, g, uu, h⟩ ho hu v x hv hx A dr os tk hA
  obtain rfl : uu = u := hu
  cases hv with | tup hl hr => ?_
  cases hx with | tup hl2 hr2 => ?_
  rename_i dd sl l vs m dd2 sl2 b ws m2
  obtain ⟨g', st, o', e⟩ := ho.alloc (gs := gs) { cls := .type "tuple", data := .seq (vs.toArray ++ ws.toArray) } rfl
  have n1 := hr.length
  have n2 := hr2.length
  have e1 : ¬ vs.toArray.isEmpty = true := by intro e; simp at e; subst e; simp at n1; omega
  have e2 : ¬ ws.toArray.isEmpty = true := by intro e; simp at e; subst e; simp at n2; omega
  have k1 := ho.keep _ _ hl
  have k2 := ho.keep _ _ hl2
  refine concat_meets ⟨_, k1, rfl⟩ ⟨_, k2, rfl⟩ noFill_tuple_add seq_tuple_add PySem.F.slot_tuple_add PySem.F.entry_tuple_add (PySem.F.args_tuple_add_2 _ _)
    (PyProof.Rows.tuple_addW2 l b vs.toArray ws.toArray m m2 dd dd2 sl sl2 e1 e2 (by rw [List.size_toArray, List.size_toArray, hr.length, hr2.length]; exact hz)) ⟨k1, k2, ?_⟩
  exact ⟨⟨gs, g', _, _⟩, tk, _, rfl, st, o', .tup (vs := vs ++ ws) (n := 0) (dd := none) (sl := #[]) (e.trans (by simp)) ((hr.append hr2).keep st.keep), hQ⟩

theorem partN_ {Q : D → Led → Prop} (hQ : Q .none u) : Ev Γ n (evalPart none env) Q u := by
  rintro a ho rfl A dr os tk hA
  rw [evalPart_none]
  exact wpAny_pure (Out.same ho .none hQ)
theorem partS_ {e : Expr} {Q : D → Led → Prop} (h : Ev Γ n (eval e env) Q u) : Ev Γ n (evalPart (some e) env) Q u := h

theorem SliceL_ {value : Expr} {lower upper : Option Expr} {p : Pos} {Q : D → Led → Prop}
    (h : Ev Γ n (eval value env) (fun d1 u1 => Ev Γ n (evalPart lower env) (fun dl u2 => Ev Γ n (evalPart upper env) (fun du u3 => ∃ ds lo hi, d1 = .list ds ∧ PartD dl lo ∧ PartD du hi ∧ ds.length ≤ sizeLine ∧ Q (.list (sliced ds lo hi)) u3) u2) u1) u)
    (ht : ∀ o r, letTemporaryGo value o r = pure () := by intro _ _; with_unfolding_all rfl) : Ev Γ n (eval (.Subscript value (.Slice lower upper none p) pos) env) Q u := by
  rintro a ho rfl A dr os tk hA
  refine wpAny_Subscript_list_slice ((h a ho rfl).to hA fun b tk v d st ob r q => (q b ob rfl).to hA fun c tk v2 d2 st2 oc r2 q2 => (q2 c oc rfl).to hA fun e tk v3 d3 st3 oe r3 q3 => ?_) ht
  obtain ⟨ds, lo, hi, rfl, p1, p2, hz, q3⟩ := q3
  obtain ⟨egs, eg, eu, eh⟩ := e
  have r' := (r.keep st2.keep).keep st3.keep
  cases r' with | list hl hr => ?_
  rename_i l vs m
  refine ⟨l, vs.toArray, lo, hi, rfl, ⟨_, oe.keep _ _ hl, rfl, _, rfl⟩, by rw [List.size_toArray, hr.length]; exact hz, p1.part (r2.keep st3.keep), p2.part r3, ?_⟩
  obtain ⟨g1, s1, o1, _⟩ := oe.alloc (gs := egs) { cls := .type "slice", data := .fields #[v2, v3, .none] } rfl
  obtain ⟨g2, s2, o2, e2⟩ := o1.alloc (gs := egs) { cls := .type "list", data := .seq (slicePick vs.toArray lo hi none) } rfl
  refine ⟨⟨egs, g2, eu, _⟩, tk, _, rfl, ((st.trans st2).trans st3).trans (s1.trans s2), o2, .list (vs := sliced vs lo hi) (n := 0) ?_ ((hr.sliced lo hi).keep (s1.keep.trans s2.keep)), q3⟩
  have e2' := e2
  rw [Heap.size_push] at e2'
  show g2.get? (eh.objs.size + 1) = _
  rw [e2', slicePick_cut]

theorem SliceS_ {value : Expr} {lower upper : Option Expr} {p : Pos} {Q : D → Led → Prop}
    (h : Ev Γ n (eval value env) (fun d1 u1 => Ev Γ n (evalPart lower env) (fun dl u2 => Ev Γ n (evalPart upper env) (fun du u3 => ∃ x lo hi, d1 = .str x ∧ PartD dl lo ∧ PartD du hi ∧ x.length ≤ sizeLine ∧ Q (.str (cutS x lo hi)) u3) u2) u1) u)
    (ht : ∀ o r, letTemporaryGo value o r = pure () := by intro _ _; with_unfolding_all rfl) : Ev Γ n (eval (.Subscript value (.Slice lower upper none p) pos) env) Q u := by
  rintro a ho rfl A dr os tk hA
  refine wpAny_Subscript_str_slice ((h a ho rfl).to hA fun b tk v d st ob r q => (q b ob rfl).to hA fun c tk v2 d2 st2 oc r2 q2 => (q2 c oc rfl).to hA fun e tk v3 d3 st3 oe r3 q3 => ?_) ht
  obtain ⟨x, lo, hi, rfl, p1, p2, hz, q3⟩ := q3
  cases r with | str _ t => ?_
  obtain ⟨ql, rfl, rfl⟩ := p1.val r2
  obtain ⟨qu, rfl, rfl⟩ := p2.val r3
  obtain ⟨egs, eg, eu, eh⟩ := e
  obtain ⟨g1, s1, o1, _⟩ := oe.alloc (gs := egs) { cls := .type "slice", data := .fields #[partValue ql, partValue qu, .none] } rfl
  refine ⟨x, t, ql, qu, rfl, rfl, rfl, ?_⟩
  unfold sliceMade
  split
  · rename_i hw
    have e : cutS x (ql.map (·.1)) (qu.map (·.1)) = x := cutS_whole (by
      simp only [Option.map_none, Option.getD_none, Bool.and_eq_true, beq_iff_eq] at hw
      exact hw.2)
    rw [e] at q3
    exact ⟨⟨egs, g1, eu, _⟩, tk, _, rfl, ((st.trans st2).trans st3).trans s1, o1, .str x t, q3⟩
  · have hz2 := Nat.le_trans (cutS_length x (ql.map (·.1)) (qu.map (·.1))) hz
    rw [← cutS_pick] at q3 hz2
    exact ⟨hz2, ⟨⟨egs, g1, eu, _⟩, _, _, rfl, ((st.trans st2).trans st3).trans s1, o1, .str _ _, q3⟩⟩
end
end Mine

namespace Mine
open PySem PySem.W PySem.Calls
open PyProof.Rows (Subscript_ subscriptTail tail_any)

theorem Out.grow {α β : Type} {Γ : Cx} {R : Heap → α → β → Prop} {Q : β → Led → Prop} {a : Sg} {dr : Drawn} {os : OsState} {tk : Nat} {x : α} {y : β} {h' : Heap} (o : Own Γ a.g a.u a.h) (k : Keep a.h h') (r : R a.g x y) (q : Q y a.u) : Out Γ R Q a dr os x ⟨h', a.gs, dr, tk, os⟩ :=
  ⟨⟨a.gs, a.g, a.u, h'⟩, tk, y, rfl, Step.view a k, o.grow k, r, q⟩
/-- the cells of a frame that is fixed at once -/
theorem Own.push' {Γ : Cx} {gs : Array GenState} {g : Heap} {u : Led} {h h' : Heap} (o : Own Γ g u h) (k : Keep h h') (ob : Obj) (hf : ob.isFreed = false) :
    ∃ g', Step ⟨gs, g, u, h⟩ ⟨gs, g', u, h'.push ob⟩ ∧ Own Γ g' u (h'.push ob) ∧ g'.get? h'.objs.size = some ob := by
  obtain ⟨g', st, o', e⟩ := (o.grow k).alloc (gs := gs) ob hf
  exact ⟨g', (Step.view ⟨gs, g, u, h⟩ k).trans st, o', e⟩

theorem listNew_ {Γ : Cx} {gs : Array GenState} {g : Heap} {u : Led} {h h' : Heap} {vs : List Value} {ds : List D} {c : Nat} {Q : D → Led → Prop} {dr : Drawn} {tk : Nat} {os : OsState} (o : Own Γ g u h) (k : Keep h h') (e : h'.get? h.objs.size = some { cls := .type "list", data := .seq vs.toArray c }) (hr : IsAll Γ.w.params g vs ds)
    (hQ : ∀ l, Q (.raw (.ref l)) ((l, .list ds) :: u)) : Out Γ (Is Γ.w.params) Q ⟨gs, g, u, h⟩ dr os (.ref h.objs.size) ⟨h', gs, dr, tk, os⟩ := by
  have o' := o.grow k
  refine ⟨⟨gs, g, (h.objs.size, .list ds) :: u, h'⟩, tk, _, rfl, ⟨.refl _, .refl _, fun q ob e' nq => ⟨k _ _ e', fun hm => ?_, id⟩⟩, ⟨o'.base, o'.keep, List.nodup_cons.mpr ⟨fun hm => Nat.lt_irrefl _ (o.lt _ hm), o.nodup⟩, fun p hp => ?_⟩, .raw _, hQ _⟩
  · rcases List.mem_cons.mp hm with z | z
    · dsimp only at z e'; rw [z] at e'; exact Nat.lt_irrefl _ (Heap.lt_size e')
    · exact nq z
  · rcases List.mem_cons.mp hp with rfl | hp
    · refine ⟨⟨vs, c, e, hr⟩, ?_⟩
      cases q : g.get? h.objs.size with
      | none => rfl
      | some z => exact absurd (Heap.lt_size (o.keep _ _ q)) (Nat.lt_irrefl _)
    · exact o'.ok p hp

theorem bind0 {P : Params} {X : Shared → Prop} {Z : Heap → Prop} {fd : FuncData} (h : ∀ s, BindsTo s fd ⟨[], []⟩ []) : ∀ (s : Shared) (g : Heap) (vs : List Value), X s → Z g → IsAll P g vs [] → ∃ fs, BindsTo s fd ⟨vs, []⟩ fs ∧ IsF P g fs [] := by
  intro s g vs _ _ hv
  cases hv
  exact ⟨_, h s, .nil⟩
theorem bind1 {P : Params} {X : Shared → Prop} {Z : Heap → Prop} {fd : FuncData} {x : Str} {d : D} (h : ∀ s a, BindsTo s fd ⟨[a], []⟩ [(x, a)]) : ∀ (s : Shared) (g : Heap) (vs : List Value), X s → Z g → IsAll P g vs [d] → ∃ fs, BindsTo s fd ⟨vs, []⟩ fs ∧ IsF P g fs [(x, d)] := by
  intro s g vs _ _ hv
  cases hv with | cons h1 hv => ?_
  cases hv
  exact ⟨_, h s _, .cons h1 .nil⟩
theorem bind2 {P : Params} {X : Shared → Prop} {Z : Heap → Prop} {fd : FuncData} {x y : Str} {d e : D} (h : ∀ s a b, BindsTo s fd ⟨[a, b], []⟩ [(x, a), (y, b)]) : ∀ (s : Shared) (g : Heap) (vs : List Value), X s → Z g → IsAll P g vs [d, e] → ∃ fs, BindsTo s fd ⟨vs, []⟩ fs ∧ IsF P g fs [(x, d), (y, e)] := by
  intro s g vs _ _ hv
  cases hv with | cons h1 hv => ?_
  cases hv with | cons h2 hv => ?_
  cases hv
  exact ⟨_, h s _ _, .cons h1 (.cons h2 .nil)⟩
theorem bind3 {P : Params} {X : Shared → Prop} {Z : Heap → Prop} {fd : FuncData} {x y z : Str} {d e f : D} (h : ∀ s a b c, BindsTo s fd ⟨[a, b, c], []⟩ [(x, a), (y, b), (z, c)]) : ∀ (s : Shared) (g : Heap) (vs : List Value), X s → Z g → IsAll P g vs [d, e, f] → ∃ fs, BindsTo s fd ⟨vs, []⟩ fs ∧ IsF P g fs [(x, d), (y, e), (z, f)] := by
  intro s g vs _ _ hv
  cases hv with | cons h1 hv => ?_
  cases hv with | cons h2 hv => ?_
  cases hv with | cons h3 hv => ?_
  cases hv
  exact ⟨_, h s _ _ _, .cons h1 (.cons h2 (.cons h3 .nil))⟩

section
variable {Γ : Cx} {n : Nat} {env : Env} {u : Led} {x : Str} {pos : Pos}

theorem tupOfList {ds : List D} {Q : D → Led → Prop} (hz : ds.length ≤ sizeLine) (hQ : Q (.tup ds) u) : OnL Γ (Is Γ.w.params) n (fun vs => call (.type "tuple") vs) [.list ds] Q u := by
  rintro ⟨gs, g, uu, h⟩ ho hu vs hv A dr os tk hA
  obtain rfl : uu = u := hu
  cases hv with | cons h1 h2 => ?_
  cases h2
  cases h1 with | list hl hr => ?_
  have hl' := ho.keep _ _ hl
  rename_i l vs m
  refine PySem.call_tuple_list ⟨_, hl', rfl, _, rfl⟩ (fun h' k => ?_) (by rw [List.size_toArray, hr.length]; exact hz)
  obtain ⟨g', st, o', e⟩ := ho.push' (gs := gs) k { cls := .type "tuple", data := .seq vs.toArray } rfl
  exact ⟨⟨gs, g', uu, _⟩, _, _, rfl, st, o', .tup e (hr.keep st.keep), hQ⟩
theorem listOfTup {ds : List D} {Q : D → Led → Prop} (hz : ds.length ≤ sizeLine) (hQ : ∀ l, Q (.raw (.ref l)) ((l, .list ds) :: u)) : OnL Γ (Is Γ.w.params) n (fun vs => call (.type "list") vs) [.tup ds] Q u := by
  rintro ⟨gs, g, uu, h⟩ ho hu vs hv A dr os tk hA
  obtain rfl : uu = u := hu
  cases hv with | cons h1 h2 => ?_
  cases h2
  cases h1 with | tup hl hr => ?_
  have hl' := ho.keep _ _ hl
  rename_i l vs m
  exact PySem.call_list_seq l (.inr rfl) hl' rfl rfl (fun h' c' k e => Mine.listNew_ ho k e hr hQ) (by rw [List.size_toArray, hr.length]; exact hz)
theorem listOfList {ds : List D} {Q : D → Led → Prop} (hz : ds.length ≤ sizeLine) (hQ : ∀ l, Q (.raw (.ref l)) ((l, .list ds) :: u)) : OnL Γ (Is Γ.w.params) n (fun vs => call (.type "list") vs) [.list ds] Q u := by
  rintro ⟨gs, g, uu, h⟩ ho hu vs hv A dr os tk hA
  obtain rfl : uu = u := hu
  cases hv with | cons h1 h2 => ?_
  cases h2
  cases h1 with | list hl hr => ?_
  have hl' := ho.keep _ _ hl
  rename_i l vs m
  exact PySem.call_list_seq l (.inl rfl) hl' rfl rfl (fun h' c' k e => Mine.listNew_ ho k e hr hQ) (by rw [List.size_toArray, hr.length]; exact hz)

theorem absI {a : Int} {Q : D → Led → Prop} (hQ : Q (.int (if a < 0 then -a else a)) u) : OnL Γ (Is Γ.w.params) n (fun vs => call (.builtin "abs") vs) [.int a] Q u := by
  rintro a ho rfl vs hv A dr os tk hA
  cases hv with | cons h1 h2 => ?_
  cases h2
  cases h1
  exact PyProof.Rows.call_abs_int fun t tk' => Out.same ho (.int _ _) hQ
theorem maxI {a b : Int} {Q : D → Led → Prop} (hQ : Q (.int (if b > a then b else a)) u) : OnL Γ (Is Γ.w.params) n (fun vs => call (.builtin "max") vs) [.int a, .int b] Q u := by
  rintro s ho rfl vs hv A dr os tk hA
  cases hv with | cons h1 h2 => ?_
  cases h2 with | cons h2 h3 => ?_
  cases h3
  cases h1
  cases h2
  refine PySem.max_two_ints hA.1 fun h' tk' k => ?_
  split
  · rename_i hc; rw [if_pos hc] at hQ; exact Out.grow ho k (.int _ _) hQ
  · rename_i hc; rw [if_neg hc] at hQ; exact Out.grow ho k (.int _ _) hQ
theorem strOfI {a : Int} {Q : D → Led → Prop} (ha : a.natAbs.log2 < 1920) (hQ : Q (.str (toString a)) u) : OnL Γ (Is Γ.w.params) n (fun vs => call (.type "str") vs) [.int a] Q u := by
  rintro s ho rfl vs hv A dr os tk hA
  cases hv with | cons h1 h2 => ?_
  cases h2
  cases h1
  exact PySem.P.str_of_int ha (Out.same ho (.str _ _) hQ)
theorem strOfS {s : Str} {Q : D → Led → Prop} (hQ : Q (.str s) u) : OnL Γ (Is Γ.w.params) n (fun vs => call (.type "str") vs) [.str s] Q u := by
  rintro s ho rfl vs hv A dr os tk hA
  cases hv with | cons h1 h2 => ?_
  cases h2
  cases h1
  exact PySem.P.str_of_str (Out.same ho (.str _ _) hQ)
theorem intOfS {s : Str} {i : Int} {Q : D → Led → Prop} (hi : PySem.intText? s = some i) (hl : s.length ≤ 640) (hQ : Q (.int i) u) : OnL Γ (Is Γ.w.params) n (fun vs => call (.type "int") vs) [.str s] Q u := by
  rintro s ho rfl vs hv A dr os tk hA
  cases hv with | cons h1 h2 => ?_
  cases h2
  cases h1
  exact KIN.call_text hi hl (Out.same ho (.int _ _) hQ)

/-- is, is not -/
theorem isNone_ {d : D} {Q : D → Led → Prop} (hQ : Q (.bool d.isNone) u) : On2 Γ (Is Γ.w.params) n (compareOp .Is) d .none Q u := by
  rintro s ho rfl v x hv hx A dr os tk hA
  cases hx
  have e := hv.isNone
  refine PyProof.Rows.is_none_gen ?_
  rw [e]; exact Out.same ho (.bool _) hQ
theorem isntNone_ {d : D} {Q : D → Led → Prop} (hQ : Q (.bool (!d.isNone)) u) : On2 Γ (Is Γ.w.params) n (compareOp .IsNot) d .none Q u := by
  rintro s ho rfl v x hv hx A dr os tk hA
  cases hx
  have e := hv.isNone
  refine PyProof.Rows.isnot_none_gen ?_
  rw [e]; exact Out.same ho (.bool _) hQ

/-- equality of plain data -/
theorem eqD {d e : D} {p q : PyData} {Q : D → Led → Prop} (hd : Dt d p) (he : Dt e q) (h1 : SeqAt.shaped p = true) (h2 : SeqAt.shaped q = true) (hQ : Q (.bool (PyData.eqv p q)) u) : On2 Γ (Is Γ.w.params) n (compareOp .Eq) d e Q u := by
  rintro s ho rfl v x hv hx A dr os tk hA
  obtain ⟨as, r1⟩ := Dt.reads ho.keep hd hv
  obtain ⟨bs, r2⟩ := Dt.reads ho.keep he hx
  exact SeqAt.compareEq_shaped r1 r2 h1 h2 (by have := hA.2.2; show _ < 9900; omega) (Out.same ho (.bool _) hQ)
theorem neD {d e : D} {p q : PyData} {Q : D → Led → Prop} (hd : Dt d p) (he : Dt e q) (h1 : SeqAt.shaped p = true) (h2 : SeqAt.shaped q = true) (hQ : Q (.bool (!PyData.eqv p q)) u) : On2 Γ (Is Γ.w.params) n (compareOp .NotEq) d e Q u := by
  rintro s ho rfl v x hv hx A dr os tk hA
  obtain ⟨as, r1⟩ := Dt.reads ho.keep hd hv
  obtain ⟨bs, r2⟩ := Dt.reads ho.keep he hx
  exact SeqAt.compareNe_shaped r1 r2 h1 h2 (by have := hA.2.2; show _ < 9900; omega) (Out.same ho (.bool _) hQ)
theorem neD_same {d : D} {p : PyData} {Q : D → Led → Prop} (hd : Dt d p) (h1 : SeqAt.shaped p = true) (hQ : Q (.bool false) u) : On2 Γ (Is Γ.w.params) n (compareOp .NotEq) d d Q u := by
  refine neD hd hd h1 h1 ?_
  rw [SeqAt.eqv_refl p (SeqAt.canLay_of_shaped h1)]; exact hQ
theorem neS {a b : Str} {Q : D → Led → Prop} (hQ : Q (.bool (a != b)) u) : On2 Γ (Is Γ.w.params) n (compareOp .NotEq) (.str a) (.str b) Q u := by
  rintro s ho rfl v x hv hx A dr os tk hA; cases hv; cases hx; exact PyProof.Rows.ne_str (Out.same ho (.bool _) hQ)
theorem eqNS {b : Str} {Q : D → Led → Prop} (hQ : Q (.bool false) u) : On2 Γ (Is Γ.w.params) n (compareOp .Eq) .none (.str b) Q u := by
  rintro s ho rfl v x hv hx A dr os tk hA; cases hv; cases hx; exact PySem.EqNone.eq_none_str (Out.same ho (.bool _) hQ)

/-- isinstance, of a built-in class -/
inductive IsA : D → String → Prop
  | int {i : Int} : IsA (.int i) "int"
  | str {s : Str} : IsA (.str s) "str"
  | tup {l : List D} : IsA (.tup l) "tuple"
  | list {l : List D} : IsA (.list l) "list"
  | none : IsA .none "NoneType"
theorem IsA.typeIs {Γ : Cx} {d : D} {T : String} (i : IsA d T) {a : Sg} (ho : Own Γ a.g a.u a.h) {v : Value} (h : Is Γ.w.params a.g v d) {dr : Drawn} {tk : Nat} {os : OsState} : (sh a dr tk os).TypeIs v T := by
  cases i <;> cases h
  · rfl
  · rfl
  · rename_i e _; exact ⟨_, ho.keep _ _ e, rfl⟩
  · rename_i e _; exact ⟨_, ho.keep _ _ e, rfl⟩
  · rfl
theorem isi_yes {d : D} {T : String} {Tx : String} {Q : D → Led → Prop} (i : IsA d Tx) (hty : typeOf (.type T) = pure (.type "type")) (hs : isSubtype (.type Tx) (.type T) = pure true) (hQ : Q (.bool true) u) :
    OnL Γ (Is Γ.w.params) n (fun vs => call (.builtin "isinstance") vs) [d, .raw (.type T)] Q u := by
  rintro s ho rfl vs hv A dr os tk hA
  cases hv with | cons h1 h2 => ?_
  cases h2 with | cons h2 h3 => ?_
  cases h3
  cases h2
  exact PyProof.Rows.call_isinstance_yes (i.typeIs ho h1) hty hs (Out.same ho (.bool _) hQ)
theorem isi_no {d : D} {T : String} {Tx : String} {Q : D → Led → Prop} (i : IsA d Tx) (hne : (Value.type Tx == Value.type T) = false) (hty : typeOf (.type T) = pure (.type "type")) (hs : isSubtype (.type Tx) (.type T) = pure false) (hQ : Q (.bool false) u) :
    OnL Γ (Is Γ.w.params) n (fun vs => call (.builtin "isinstance") vs) [d, .raw (.type T)] Q u := by
  rintro s ho rfl vs hv A dr os tk hA
  cases hv with | cons h1 h2 => ?_
  cases h2 with | cons h2 h3 => ?_
  cases h3
  cases h2
  have fin : ∀ tk, Out Γ (Is Γ.w.params) Q s dr os (.bool false) (sh s dr tk os) := fun tk => Out.same ho (.bool _) hQ
  cases i with
  | int => cases h1; exact PySem.call_isinstance (PySem.isinstance_false_int hne hty hs) (fin _)
  | str => cases h1; exact PySem.call_isinstance (PySem.isinstance_false_str hne hty hs) (fin _)
  | none => cases h1; exact PySem.call_isinstance (PySem.isinstance_false_none hne hty hs) (fin _)
  | tup => cases h1 with | tup e _ => exact PySem.call_isinstance (PySem.isinstance_false_tuple hne hty hs) ⟨⟨_, ho.keep _ _ e, rfl⟩, fin _⟩
  | list => cases h1 with | list e _ => exact PySem.call_isinstance (PySem.isinstance_false_list hne hty hs) ⟨⟨_, ho.keep _ _ e, rfl⟩, fin _⟩

/-- the last of a row -/
theorem itemLn {e i : Expr} {ds : List D} {k : Int} {d : D} {Q : D → Led → Prop} (h0 : k < 0) (h1 : -(ds.length : Int) ≤ k) (hz : (ds.length : Int) ≤ 2 ^ 62) (hd : ds[(k + ds.length).toNat]? = some d) (hQ : Q d u)
    (hs : ∀ o t, subscripted i false o (.int k t) = operate [o, .int k t] (getItem o (.int k t)) := by intros; with_unfolding_all rfl) : On2 Γ (Is Γ.w.params) n (subscriptTail e i) (.list ds) (.int k) Q u := by
  rintro s ho rfl v x hv hx A dr os tk hA
  cases hx with | int _ t => ?_
  cases hv with | list hl hr => ?_
  obtain ⟨y, hy, hi⟩ := hr.get hd
  have hl' := ho.keep _ _ hl
  have hL : s.h.IsList _ _ := ⟨_, hl', rfl, _, rfl⟩
  exact tail_any ⟨_, hl', rfl⟩ slot_list_getitem.lookup (PySem.wpAny_getItem_list_neg hL h0 (by rw [List.size_toArray, hr.length]; exact h1) (by omega) (by rw [List.size_toArray, hr.length]; simpa using hy) (Out.same ho hi hQ)) (hs _ _)

/-- dicts -/
theorem notMods {Γ : Cx} {g : Heap} {u : Led} {h : Heap} (o : Own Γ g u h) : (h.objs.size == sysModules) = false := by
  obtain ⟨ob, _, _, e, _⟩ := Γ.g.keeps o.H0
  have := Heap.lt_size e
  refine beq_eq_false_iff_ne.mpr fun z => ?_
  rw [z] at this
  exact absurd this (by decide)
theorem Dict0_ {Q : D → Led → Prop} (hQ : ∀ l, Q (.raw (.ref l)) ((l, .dict []) :: u)) : Ev Γ n (eval (.Dict [] [] pos) env) Q u := by
  rintro ⟨gs, g, uu, h⟩ ho hu A dr os tk hA
  obtain rfl : uu = u := hu
  refine PySem.wpAny_Dict_empty ⟨⟨gs, g, _, _⟩, tk, _, rfl, Step.alloc1 _ (.dict []), ho.alloc1 (fun g' e => ⟨[], DictS.at (h := h.push { cls := .type "dict", data := .dict #[] }) (DictS.of (Heap.DictOf.new (knd := PySem.strKind Γ.prog Γ.w) h) (notMods ho)) (fun o e' => ?_), .nil⟩) rfl, .raw _, hQ _⟩
  have e2 := Heap.get?_push_size h (o := { cls := .type "dict", data := .dict #[] }) rfl
  rw [e2] at e'; cases e'; exact e

/-- a dict's value, a dict's store -/
def valD (ds : List (Str × D)) (k : Str) : Option D := (ds.find? fun kv => kv.1 = k).map (·.2)
def storD (ds : List (Str × D)) (k : Str) (v : D) : List (Str × D) :=
  if ds.any (fun kv => kv.1 = k) then ds.map (fun kv => if kv.1 = k then (kv.1, v) else kv) else ds ++ [(k, v)]
theorem IsF.at {P : Params} {g : Heap} : ∀ {fs : List (Str × Value)} {ds : List (Str × D)}, IsF P g fs ds → ∀ (k : Str), (∃ v d, valueAt fs k = some v ∧ valD ds k = some d ∧ Is P g v d) ∨ (valueAt fs k = none ∧ valD ds k = none)
  | _, _, .nil, k => .inr ⟨rfl, rfl⟩
  | _, _, .cons (x := y) h r, k => by
    unfold valueAt valD
    rw [List.find?_cons, List.find?_cons]
    by_cases q : y = k
    · simp only [q, decide_true]
      exact .inl ⟨_, _, rfl, rfl, h⟩
    · simp only [q, decide_false]
      exact r.at k
theorem IsF.got {P : Params} {g : Heap} {fs : List (Str × Value)} {ds : List (Str × D)} (h : IsF P g fs ds) {k : Str} {d : D} (e : valD ds k = some d) : ∃ v, valueAt fs k = some v ∧ Is P g v d := by
  rcases h.at k with ⟨v, d', h1, h2, h3⟩ | ⟨_, h2⟩
  · rw [e] at h2; cases h2; exact ⟨v, h1, h3⟩
  · rw [e] at h2; cases h2
theorem IsF.some {P : Params} {g : Heap} {fs : List (Str × Value)} {ds : List (Str × D)} (h : IsF P g fs ds) (k : Str) : (valueAt fs k).isSome = (valD ds k).isSome := by
  rcases h.at k with ⟨v, d', h1, h2, h3⟩ | ⟨h1, h2⟩ <;> rw [h1, h2] <;> rfl
theorem IsF.any {P : Params} {g : Heap} {k : Str} {fs : List (Str × Value)} {ds : List (Str × D)} (h : IsF P g fs ds) : (fs.any fun kv => decide (kv.1 = k)) = ds.any fun kv => decide (kv.1 = k) := by
  have : fs.map (·.1) = ds.map (·.1) := h.keys
  have a1 : ∀ {α : Type} (l : List (Str × α)), (l.any fun kv => decide (kv.1 = k)) = (l.map (·.1)).any fun y => decide (y = k) := fun l => by simp [List.any_map, Function.comp_def]
  rw [a1, a1, this]
theorem IsF.mapped {P : Params} {g : Heap} {k : Str} {v : Value} {d : D} (hv : Is P g v d) : ∀ {fs : List (Str × Value)} {ds : List (Str × D)}, IsF P g fs ds → IsF P g (fs.map fun kv => if kv.1 = k then (kv.1, v) else kv) (ds.map fun kv => if kv.1 = k then (kv.1, d) else kv)
  | _, _, .nil => .nil
  | _, _, .cons (x := y) a b => by
    simp only [List.map_cons]
    by_cases q : y = k
    · simp only [q, if_true]; exact .cons hv (b.mapped hv)
    · simp only [q, if_false]; exact .cons a (b.mapped hv)
theorem IsF.stored {P : Params} {g : Heap} {k : Str} {v : Value} {d : D} {fs : List (Str × Value)} {ds : List (Str × D)} (h : IsF P g fs ds) (hv : Is P g v d) : IsF P g (stored fs k v) (storD ds k d) := by
  unfold PySem.stored storD
  rw [h.any]
  split
  · exact h.mapped hv
  · exact h.append (.cons hv .nil)
theorem IsF.length {P : Params} {g : Heap} {fs : List (Str × Value)} {ds : List (Str × D)} (h : IsF P g fs ds) : fs.length = ds.length := by
  have := congrArg List.length h.keys; simpa using this
theorem isStrOf_self (k : Str) (t : Tok) : Value.isStrOf k (.str k t) = true := by simp [Value.isStrOf]

theorem dget_ {e i : Expr} {ds : List (Str × D)} {k : Str} {d : D} {Q : D → Led → Prop} (hd : valD ds k = some d) (hQ : Q d u)
    (hs : ∀ o t, subscripted i false o (.str k t) = operate [o, .str k t] (getItem o (.str k t)) := by intros; with_unfolding_all rfl) : On2 Γ (Is Γ.w.params) n (subscriptTail e i) (.dict ds) (.str k) Q u := by
  rintro s ho rfl v x hv hx A dr os tk hA
  cases hx with | str _ t => ?_
  cases hv with | dict hl hr => ?_
  obtain ⟨y, hy, hi⟩ := hr.got hd
  have hl' := (hl.at fun o e => ho.keep _ _ e).2 Γ.prog Γ.w rfl
  exact tail_any hl'.typeIs slot_dict_getitem.lookup (PySem.wpAny_getItem_of (knd := PySem.strKind Γ.prog Γ.w) (k := k) (isStrOf_self k t) hl'.mapOf hy (Out.same ho hi hQ)) (hs _ _)
theorem dgetM_ {l : Addr} {e i : Expr} {ds : List (Str × D)} {k : Str} {d : D} {Q : D → Led → Prop} (hL : (l, Ent.dict ds) ∈ u) (hd : valD ds k = some d) (hQ : Q d u)
    (hs : ∀ o t, subscripted i false o (.str k t) = operate [o, .str k t] (getItem o (.str k t)) := by intros; with_unfolding_all rfl) : On2 Γ (Is Γ.w.params) n (subscriptTail e i) (.raw (.ref l)) (.str k) Q u := by
  rintro s ho rfl v x hv hx A dr os tk hA
  cases hx with | str _ t => ?_
  cases hv
  obtain ⟨fs, hl, hr⟩ := (ho.ok _ hL).1
  obtain ⟨y, hy, hi⟩ := hr.got hd
  have hl' := hl.2 Γ.prog Γ.w rfl
  exact tail_any hl'.typeIs slot_dict_getitem.lookup (PySem.wpAny_getItem_of (knd := PySem.strKind Γ.prog Γ.w) (k := k) (isStrOf_self k t) hl'.mapOf hy (Out.same ho hi hQ)) (hs _ _)
theorem setD_ {l : Addr} {ds : List (Str × D)} {k : Str} {d : D} {u' : Led} {Q : Unit → Led → Prop} (hz : ds.length ≤ sizeLine) (hs : Set1 u l (.dict ds) (.dict (storD ds k d)) u') (hQ : Q () u') :
    OnL Γ (fun _ (_ _ : Unit) => True) n (fun vs => match vs with | [a, b, c] => setItem a b c | _ => unsupported "") [.raw (.ref l), .str k, d] Q u := by
  rintro ⟨gs, g, _, h⟩ ho rfl vs hv A dr os tk hA
  cases hv with | cons a1 hv => ?_
  cases hv with | cons a2 hv => ?_
  cases hv with | cons a3 hv => ?_
  cases hv
  cases a1
  cases a2 with | str _ t => ?_
  obtain ⟨fs, hl, hr⟩ := (ho.ok _ hs.mem).1
  have hl' := hl.2 Γ.prog Γ.w rfl
  refine PySem.wpAny_setItem_pairs (knd := PySem.strKind Γ.prog Γ.w) (k := k) (isStrOf_self k t) hl' (fun h' hm hb => ?_) (by rw [hr.length]; exact hz)
  have hb' : ∀ b ob, b ≠ l → h.get? b = some ob → h'.get? b = some ob := fun b ob ne q => (hb.2 b ne).trans q
  exact ⟨⟨gs, g, u', h'⟩, _, (), rfl, Step.set hs hb', ho.set hs hb' ⟨_, DictS.of hm (by obtain ⟨o, _, _, _, e⟩ := hl.1; exact e), hr.stored a3⟩, trivial, hQ⟩
theorem inD_ {ds : List (Str × D)} {k : Str} {Q : D → Led → Prop} (hQ : Q (.bool (valD ds k).isSome) u) : On2 Γ (Is Γ.w.params) n (compareOp .In) (.str k) (.dict ds) Q u := by
  rintro s ho rfl x v hx hv A dr os tk hA
  cases hx with | str _ t => ?_
  cases hv with | dict hl hr => ?_
  have hl' := (hl.at fun o e => ho.keep _ _ e).2 Γ.prog Γ.w rfl
  obtain ⟨o, _, _, _, e⟩ := hl.1
  refine PySem.wpAny_in_of (knd := PySem.strKind Γ.prog Γ.w) (k := k) (isStrOf_self k t) e hl'.mapOf ?_
  rw [hr.some]
  exact Out.same ho (.bool _) hQ
theorem inDM_ {l : Addr} {ds : List (Str × D)} {k : Str} {Q : D → Led → Prop} (hL : (l, Ent.dict ds) ∈ u) (hQ : Q (.bool (valD ds k).isSome) u) : On2 Γ (Is Γ.w.params) n (compareOp .In) (.str k) (.raw (.ref l)) Q u := by
  rintro s ho rfl x v hx hv A dr os tk hA
  cases hx with | str _ t => ?_
  cases hv
  obtain ⟨fs, hl, hr⟩ := (ho.ok _ hL).1
  have hl' := hl.2 Γ.prog Γ.w rfl
  obtain ⟨o, _, _, _, e⟩ := hl.1
  refine PySem.wpAny_in_of (knd := PySem.strKind Γ.prog Γ.w) (k := k) (isStrOf_self k t) e hl'.mapOf ?_
  rw [hr.some]
  exact Out.same ho (.bool _) hQ
end
end Mine
namespace Mine
open PySem PySem.W PySem.Calls
section
variable {Γ : Cx} {n : Nat} {env : Env} {u : Led} {x : Str} {pos : Pos}
/-- l.append(e), l of the ledger -/
theorem Append_ {o : Expr} {apos : Pos} {es : List Expr} {pl : Sem Bool} {Q : D → Led → Prop}
    (h : Ev Γ n (eval o env) (fun d u1 => ∃ l, d = .raw (.ref l) ∧ As Γ n (spliced (backTo pos (starEach es env))) (fun ds u2 => ∃ ds0 e u3, ds = [e] ∧ Set1 u2 l (.list ds0) (.list (ds0 ++ [e])) u3 ∧ ds0.length ≤ sizeLine ∧ Q .none u3) u1 ∧ ∃ ds0, (l, Ent.list ds0) ∈ u1) u)
    (hq : eval (.Call (.Attribute o (Str.ofString "append") apos) es [] pos) env = (do
          let ov ← eval o env
          standAt apos.atName
          let (f, first) ← holding [ov] (getMethod ov (Str.ofString "append") pl)
          callWith pos f first (backTo pos (starEach es env)) []) := by with_unfolding_all rfl)
    (he : es = [] ∨ ∃ e r, es = e :: r ∧ starEach es env = (false, eval e env) :: starEach r env := by with_unfolding_all first | exact .inl rfl | exact .inr ⟨_, _, rfl, rfl⟩) (hp : ((backTo pos (starEach es env)).any (·.1)) = false := by with_unfolding_all rfl) :
    Ev Γ n (eval (.Call (.Attribute o (Str.ofString "append") apos) es [] pos) env) Q u := by
  refine CallM_ (T := "list") (id := "list.append") (pl := pl) F.plainAttrs_list F.slot_list_append F.type_list_append (h.mono fun d u1 q => ?_) hq he hp
  obtain ⟨l, rfl, q, ds0, hm⟩ := q
  refine ⟨methM hm, q.mono fun ds u2 q => ?_⟩
  obtain ⟨ds0, e, u3, rfl, hs, hz, hQ⟩ := q
  exact append_ hs hz hQ
end
end Mine
namespace Mine
open PySem PySem.W PySem.Calls
section
variable {Γ : Cx} {n : Nat} {env : Env} {u : Led} {x : Str} {pos : Pos}
theorem truthyB {b : Bool} {Q : Bool → Led → Prop} (hQ : Q b u) : On1 Γ (fun _ (x y : Bool) => x = y) n truthy (.bool b) Q u := by
  rintro s ho rfl v hv A dr os tk hA
  cases hv
  exact wpAny_truthy_bool (Out.same ho rfl hQ)
theorem tValU_ {e : Expr} {whole : Sem Value} {Q : Bool → Led → Prop} (h : Ev Γ n whole (fun d u1 => On1 Γ (fun _ (x y : Bool) => x = y) n truthy d Q u1) u)
    (he : PySem.isTrue e env whole = (do let v ← whole; standAt e.pos; holding [v] (truthy v)) := by with_unfolding_all rfl) : Ts Γ n (PySem.isTrue e env whole) Q u := tVal_ h he
end
end Mine
namespace Mine
open PySem PySem.W PySem.Calls
theorem OnL.mono {α β : Type} {Γ : Cx} {R : Heap → α → β → Prop} {n : Nat} {t : List Value → Sem α} {ds : List D} {Q Q' : β → Led → Prop} {u : Led} (h : OnL Γ R n t ds Q u) (e : ∀ y u', Q y u' → Q' y u') : OnL Γ R n t ds Q' u :=
  fun a o q vs i A dr os tk hA => (h a o q vs i).to hA fun b tk x y st ow r qq => ⟨b, tk, y, rfl, st, ow, r, e _ _ qq⟩
end Mine
namespace Mine
theorem ifT {c : Bool} {P Q : Prop} (h : c = true) (x : P) : if c = true then P else Q := by rw [if_pos h]; exact x
theorem ifF {c : Bool} {P Q : Prop} (h : c = false) (x : Q) : if c = true then P else Q := by rw [if_neg (by rw [h]; decide)]; exact x
end Mine
namespace Mine
open PySem PySem.W PySem.Calls
section
variable {Γ : Cx} {n : Nat} {env : Env} {u : Led} {x : Str} {pos : Pos}
theorem asgTup2_ {x y : Str} {px py : Pos} {k : Nat} {p : Pos} {d1 d2 : D} {Q : Unit → Led → Prop}
    (h : AsgAll Γ n [fun v => assign (.Name x px) env v, fun v => assign (.Name y py) env v] [d1, d2] Q u) : On1 Γ (fun _ (_ _ : Unit) => True) n (fun v => assign (.Tuple [.Name x px, .Name y py] k p) env v) (.tup [d1, d2]) Q u :=
  asgTuple_ rfl rfl h
theorem asgTup3_ {x y z : Str} {px py pz : Pos} {k : Nat} {p : Pos} {d1 d2 d3 : D} {Q : Unit → Led → Prop}
    (h : AsgAll Γ n [fun v => assign (.Name x px) env v, fun v => assign (.Name y py) env v, fun v => assign (.Name z pz) env v] [d1, d2, d3] Q u) : On1 Γ (fun _ (_ _ : Unit) => True) n (fun v => assign (.Tuple [.Name x px, .Name y py, .Name z pz] k p) env v) (.tup [d1, d2, d3]) Q u :=
  asgTuple_ rfl rfl h
end
end Mine

namespace Mine
open PySem PySem.W PySem.Calls
open PyProof.Rows (Subscript_ subscriptTail tail_any)

/-- an object and its names: of the ledger, or fixed -/
inductive InstD (u : Led) : D → Addr → List (Str × D) → Prop
  | fix {C : Addr} {ds : List (Str × D)} : InstD u (.inst C ds) C ds
  | led {x da C : Addr} {ds : List (Str × D)} : (x, Ent.inst C da) ∈ u → (da, Ent.attrs ds) ∈ u → InstD u (.raw (.ref x)) C ds
theorem InstD.at {Γ : Cx} {a : Sg} {d : D} {C : Addr} {ds : List (Str × D)} (i : InstD a.u d C ds) (o : Own Γ a.g a.u a.h) {v : Value} (hv : Is Γ.w.params a.g v d) :
    ∃ x da es n, v = .ref x ∧ InstAt a.h x (instObj C da) C (some (dictOf es n)) ∧ IsE Γ.w.params a.g es ds := by
  cases i with
  | fix =>
    cases hv with | inst h1 h2 h3 => ?_
    exact ⟨_, _, _, _, rfl, ⟨o.keep _ _ h1, rfl, rfl, o.keep _ _ h2⟩, h3⟩
  | led m1 m2 =>
    cases hv
    obtain ⟨es, n, h2, h3⟩ := (o.ok _ m2).1
    exact ⟨_, _, _, _, rfl, ⟨(o.ok _ m1).1, rfl, rfl, h2⟩, h3⟩
theorem IsE.got {P : Params} {g : Heap} : ∀ {es : List DictEntry} {ds : List (Str × D)}, IsE P g es ds → ∀ (name : Str), (∃ v d, getL name es = some (some v) ∧ valD ds name = some d ∧ Is P g v d) ∨ (getL name es = some none ∧ valD ds name = none)
  | _, _, .nil, name => .inr ⟨rfl, rfl⟩
  | _, _, .cons (x := y) (t := t) (hs := hs) (v := v) (es := es) h r, name => by
    unfold getL valD
    rw [List.find?_cons, List.find?_cons]
    by_cases q : y = name
    · subst q
      have q' : (Value.str y t).isStr y = true := by simp [Value.isStr]
      simp only [q', decide_true]
      exact .inl ⟨_, _, rfl, rfl, h⟩
    · have q' : (Value.str y t).isStr name = false := by simp [Value.isStr, q]
      simp only [q', q, decide_false]
      have := r.got name
      unfold getL valD at this
      simpa [DictEntry.refKey] using this
theorem IsE.keys {P : Params} {g : Heap} : ∀ {es : List DictEntry} {ds : List (Str × D)}, IsE P g es ds → es.length = ds.length
  | _, _, .nil => rfl
  | _, _, .cons _ r => congrArg (· + 1) r.keys

theorem Ok.unitsOf {n : Nat} {A : Around} (h : Ok (n + 1) A) {c : Code} (w : c.weight ≤ 4) (u : c.cUnits ≤ 3) : Ok n (A.under c) := by
  refine ⟨h.1, ?_, ?_⟩
  · have := h.2.1; show A.depth + c.weight + _ ≤ _; omega
  · have := h.2.2; show A.units + c.cUnits + _ ≤ _; omega
theorem tc_weight (C : Addr) (args : List Value) (kw : List (Str × Value)) : (Code.builtin "type.__call__" ⟨.ref C :: args, kw⟩).weight = 1 := by kernel_rfl
theorem tc_units (C : Addr) (args : List Value) (kw : List (Str × Value)) : (Code.builtin "type.__call__" ⟨.ref C :: args, kw⟩).cUnits = 1 := by kernel_rfl

section
variable {Γ : Cx} {n : Nat} {env : Env} {u : Led} {x : Str} {pos : Pos}
theorem Attr_ {o : Expr} {name : Str} {Q : D → Led → Prop} (h : Ev Γ n (eval o env) (fun d u1 => On1 Γ (Is Γ.w.params) n (fun v => getAttr v name true) d Q u1) u)
    (he : eval (.Attribute o name pos) env = (do
      let ov ← eval o env
      standAt pos.atName
      let r ← holding [ov] (getAttr ov name true)
      letTemporaryGo o ov r
      pure r) := by with_unfolding_all rfl) : Ev Γ n (eval (.Attribute o name pos) env) Q u := by
  rintro a ho rfl A dr os tk hA
  refine PyProof.Rows.Attribute_any_ ((h a ho rfl).to hA fun b tk v d st ob r q => ?_) he
  exact (q b ob rfl v r).to hA fun c tk v2 d2 st2 oc r2 q2 => ⟨c, tk, d2, rfl, st.trans st2, oc, r2, q2⟩

def D.handed : D → Bool
  | .raw v => handedIn v
  | _ => true
theorem Is.handed {P : Params} {g : Heap} {v : Value} {d : D} (h : Is P g v d) (e : d.handed = true) : handedIn v = true := by
  cases h <;> first | rfl | exact e

/-- what a class must be for the plain reading of a name -/
def readOk (K : Frag) (C : Addr) (name : Str) : Bool := plainGet K C name && hasDictIn K C && match findIn K (.ref C) name with | some attr => noGet K attr | none => false
theorem getOwn_ {K : Frag} {name : Str} {e : Bool} {d : D} {C : Addr} {ds : List (Str × D)} {dv : D} {Q : D → Led → Prop} (hΓ : Γ.K = K) (i : InstD u d C ds) (hr : readOk K C name = true) (hv : valD ds name = some dv) (hh : dv.handed = true) (hQ : Q dv u) :
    On1 Γ (Is Γ.w.params) n (fun v => getAttr v name e) d Q u := by
  subst hΓ
  rintro a ho rfl v hv' A dr os tk hA
  obtain ⟨x, da, es, m, rfl, I, hE⟩ := i.at ho hv'
  simp only [readOk, Bool.and_eq_true] at hr
  obtain ⟨⟨h1, h2⟩, h3⟩ := hr
  rcases hE.got name with ⟨v, d', g1, g2, g3⟩ | ⟨_, g2⟩
  · rw [hv] at g2; cases g2
    split at h3
    · rename_i attr ha
      exact get_value ho.K I (plainGet_of h1).1 (findObj_own h2 ha h3 g1) (g3.handed hh) (Out.same ho g3 hQ)
    · cases h3
  · rw [hv] at g2; cases g2
def readCls (K : Frag) (C : Addr) (name : Str) (a : Value) : Bool := plainGet K C name && hasDictIn K C && findIn K (.ref C) name == some (some a) && specialIn K a "__get__" == some none && handedIn a && !copiedNames.contains name
theorem getCls_ {K : Frag} {name : Str} {e : Bool} {d : D} {C : Addr} {ds : List (Str × D)} {av : Value} {dv : D} {Q : D → Led → Prop} (hΓ : Γ.K = K) (i : InstD u d C ds) (hr : readCls K C name av = true) (hv : valD ds name = none) (hi : Is Γ.w.params Γ.H0 av dv) (hQ : Q dv u) :
    On1 Γ (Is Γ.w.params) n (fun v => getAttr v name e) d Q u := by
  subst hΓ
  rintro a ho rfl v hv' A dr os tk hA
  obtain ⟨x, da, es, m, rfl, I, hE⟩ := i.at ho hv'
  simp only [readCls, Bool.and_eq_true, beq_iff_eq, Bool.not_eq_true'] at hr
  obtain ⟨⟨⟨⟨⟨h1, h2⟩, h3⟩, h4⟩, h5⟩, h6⟩ := hr
  rcases hE.got name with ⟨v, d', g1, g2, g3⟩ | ⟨g1, _⟩
  · rw [hv] at g2; cases g2
  · exact get_value ho.K I (plainGet_of h1).1 (findObj_cls h2 h3 h4 h5 h6 g1) h5 (Out.same ho (hi.keep ho.base) hQ)

/-- a method of a class of the text, called upon an object -/
def methOk (K : Frag) (C : Addr) (name : Str) (f : Addr) : Bool := plainGet K C name && findIn K (.ref C) name == some (some (.ref f)) && typeIn K (.ref f) == some (.type "function") && keepIn K (.ref f)
theorem getMeth {K : Frag} {A : Around} {E : Value → Shared → Prop} {s : Shared} {x C f : Addr} {ox : Obj} {es : List DictEntry} {m : Nat} {name : Str} {pl : Sem Bool} {prog : Program} {w : World} {Q : Value × List Value → Shared → Prop} (X : K.In s.heap) (I : InstAt s.heap x ox C (some (dictOf es m))) (hm : methOk K C name f = true) (hl : getL name es = some none) (h : Q (.ref f, [.ref x]) s) :
    wpAny (model prog w) A (getMethod (.ref x) name pl) Q E s := by
  simp only [methOk, Bool.and_eq_true, beq_iff_eq] at hm
  obtain ⟨⟨⟨h1, h2⟩, h3⟩, _⟩ := hm
  exact method_fn X I (plainGet_of h1).1 (plainGet_of h1).2 h2 h3 (by show (lookIn name (dictOf es m)).map _ = _; rw [lookIn_dict, hl]; rfl) h
theorem CallI_ {K : Frag} {o : Expr} {name : Str} {apos : Pos} {es : List Expr} {pl : Sem Bool} {Q : D → Led → Prop} (hΓ : Γ.K = K)
    (h : Ev Γ n (eval o env) (fun d u1 => ∃ C ds f, InstD u1 d C ds ∧ methOk K C name f = true ∧ valD ds name = none ∧ As Γ n (spliced (backTo pos (starEach es env))) (fun es u2 => OnL Γ (Is Γ.w.params) n (fun vs => call (.ref f) vs) (d :: es) Q u2) u1) u)
    (hq : eval (.Call (.Attribute o name apos) es [] pos) env = (do
          let ov ← eval o env
          standAt apos.atName
          let (f, first) ← holding [ov] (getMethod ov name pl)
          callWith pos f first (backTo pos (starEach es env)) []) := by with_unfolding_all rfl)
    (he : es = [] ∨ ∃ e r, es = e :: r ∧ starEach es env = (false, eval e env) :: starEach r env := by with_unfolding_all first | exact .inl rfl | exact .inr ⟨_, _, rfl, rfl⟩) (hp : ((backTo pos (starEach es env)).any (·.1)) = false := by with_unfolding_all rfl) :
    Ev Γ n (eval (.Call (.Attribute o name apos) es [] pos) env) Q u := by
  subst hΓ
  rintro a ho rfl A dr os tk hA
  refine PyProof.Rows.MethodCall_ (pl := pl) ((h a ho rfl).to hA fun b tk v d st ob r q => ?_) hq
  obtain ⟨C, ds, f, i, hm, hv, q⟩ := q
  obtain ⟨x, da, es', m, rfl, I, hE⟩ := i.at ob r
  have hl : getL name es' = some none := by
    rcases hE.got name with ⟨v, d', g1, g2, g3⟩ | ⟨g1, _⟩
    · rw [hv] at g2; cases g2
    · exact g1
  refine getMeth (s := sh b dr tk os) ob.K I hm hl ?_
  have hk : keepIn Γ.K (.ref f) = true := by simp only [methOk, Bool.and_eq_true] at hm; exact hm.2
  refine (callW_ (df := .raw (.ref f)) (first := [.ref x]) (fs := [d]) (Callee.fn rfl hk) (q.mono fun ds u2 q2 => ?_) b ob rfl (.ref f) (.raw _) (.cons r .nil) he hp).to hA fun c tk v3 d3 st3 oe r3 q3 => ⟨c, tk, d3, rfl, st.trans st3, oe, r3, q3⟩
  exact onC_raw q2

/-- a class of the text, called -/
def makeOk (K : Frag) (C fI : Addr) : Bool := makesIn K C && findIn K (.ref C) "__init__" == some (some (.ref fI)) && typeIn K (.ref fI) == some (.type "function")
theorem make_ {K : Frag} {C fI : Addr} {ds : List D} {kw : List (Str × Value)} {Q : D → Led → Prop} (hΓ : Γ.K = K) (hm : makeOk K C fI = true)
    (h : ∀ x da, CodeL Γ n fI kw (.raw (.ref x) :: ds) (fun d u' => d = .none ∧ Q (.raw (.ref x)) u') ((x, .inst C da) :: (da, .attrs []) :: u)) : OnL Γ (Is Γ.w.params) (n + 1) (fun vs => call (.ref C) vs kw) ds Q u := by
  subst hΓ
  rintro ⟨gs, g, uu, hp⟩ ho hu vs hv A dr os tk hA
  obtain rfl : uu = u := hu
  simp only [makeOk, Bool.and_eq_true, beq_iff_eq] at hm
  obtain ⟨⟨h1, h2⟩, h3⟩ := hm
  have X : Γ.K.In hp := ho.K
  have o1 := ho.alloc1 (ob := emptyDict) (e := .attrs []) (fun g' e => ⟨[], 0, e, .nil⟩) rfl
  have o2 := o1.alloc1 (ob := instObj C hp.objs.size) (e := .inst C hp.objs.size) (fun g' e => e) rfl
  have e2 : (hp.push emptyDict).objs.size = hp.objs.size + 1 := Heap.size_push ..
  rw [e2] at o2
  have st : Step ⟨gs, g, uu, hp⟩ ⟨gs, g, (hp.objs.size + 1, .inst C hp.objs.size) :: (hp.objs.size, .attrs []) :: uu, (hp.push emptyDict).push (instObj C hp.objs.size)⟩ := by
    have s1 : Step ⟨gs, g, uu, hp⟩ ⟨gs, g, (hp.objs.size, .attrs []) :: uu, hp.push emptyDict⟩ := Step.alloc1 emptyDict (.attrs [])
    have s2 : Step ⟨gs, g, (hp.objs.size, .attrs []) :: uu, hp.push emptyDict⟩ ⟨gs, g, ((hp.push emptyDict).objs.size, .inst C hp.objs.size) :: (hp.objs.size, .attrs []) :: uu, (hp.push emptyDict).push (instObj C hp.objs.size)⟩ := Step.alloc1 (instObj C hp.objs.size) (.inst C hp.objs.size)
    rw [e2] at s2
    exact s1.trans s2
  refine wpAny_call (make_core (makes_of X h1) (looks_findIn X h2) (fun self => bind_fn X self h3) (.inl rfl) ?_)
  refine codeAny_mono (h _ _ ⟨gs, g, _, _⟩ o2 rfl (.ref (hp.objs.size + 1) :: vs) (.cons (.raw _) hv) _ dr os tk (hA.unitsOf (by rw [tc_weight]; decide) (by rw [tc_units]; decide))) fun r s' z => ?_
  rcases r with e | (v | _ | _ | _)
  all_goals first | exact z.elim | skip
  obtain ⟨b, tk', y, rfl, s2, ob, rr, rfl, q⟩ := z
  cases rr
  exact ⟨rfl, b, tk', _, rfl, st.trans s2, ob, .raw _, q⟩
end
end Mine

namespace Mine
open PySem PySem.W PySem.Calls

/-- the binding of the arguments, as a step of the walk -/
def BindL (Γ : Cx) (n : Nat) (fd : FuncData) (kw : List (Str × Value)) (ds : List D) (bs : List (Str × D)) (u : Led) : Prop :=
  ∀ a, Own Γ a.g a.u a.h → a.u = u → ∀ vs, IsAll Γ.w.params a.g vs ds → Wg Γ (IsF Γ.w.params) n (bindArgs fd ⟨vs, kw⟩) (fun bs' u' => bs' = bs ∧ u' = u) a

section
variable {Γ : Cx} {n : Nat} {env : Env} {u : Led} {x : Str} {pos : Pos}
theorem defV_ {K : Frag} {f : Addr} {oc : Value} {od : Option Addr} {osl : Array (Option Value)} {fd : FuncData} {body : List Stmt} {ds : List D} {kw : List (Str × Value)} {bs : List (Str × D)} {rs : List Str} {m : List (Str × Option D)} {Q : D → Led → Prop}
    (hΓ : Γ.K = K) (hK : K.lookup f = some ⟨oc, od, .func fd, osl⟩) (hcd : codeIn K fd.code fd.qualname = true) (hb : fd.body = .stmts body)
    (hbind : BindL Γ n fd kw ds bs u)
    (hm : Init bs rs m) (hnd' : decide ((m.map (·.1)).Nodup) = true) (hloc' : ((bs.map (·.1)).all fun y => decide (fd.scope.names.lookup y = some .local)) = true)
    (hcell' : (fd.scope.names.all fun y => decide (y.2 ≠ .cell)) = true) (hco : fd.scope.isCoroutine = false) (hgen : fd.scope.isGenerator = false) (hk : fd.scope.kind = .function)
    (hE : envChk fd.scope.names (fd.closure.map (·.1)) = true) (hG : fd.globals = mainGlobals) (hB : fd.builtins = builtinsNs)
    (h : ∀ L, let env := callEnv fd L f; EnvI env fd.scope.names L fd.closure → Ex Γ n (execs body env) (Back L Q) ((L, .ns m) :: u)) : CodeL Γ (n + 1) f kw ds Q u := by
  have hnd := of_decide_eq_true hnd'
  have hloc : ∀ y ∈ bs.map (·.1), fd.scope.names.lookup y = some .local := fun y hy => of_decide_eq_true (List.all_eq_true.mp hloc' y hy)
  have hcell : ∀ y ∈ fd.scope.names, y.2 ≠ .cell := fun y hy => of_decide_eq_true (List.all_eq_true.mp hcell' y hy)
  subst hΓ
  rintro ⟨gs, g, uu, hp⟩ ho hu vs hv A dr os tk hA
  obtain rfl : uu = u := hu
  refine codeAny_call_function hA.room (ho.K _ _ hK) rfl hco hgen hb (codeRec_of ho.K hcd) ((hbind ⟨gs, g, uu, hp⟩ ho rfl vs hv).to hA.in1 fun b tk1 fs bs' st0 ob hf q => ?_)
  obtain ⟨rfl, hbu⟩ := q
  obtain ⟨bgs, bg, bu, bh⟩ := b
  obtain rfl : bu = uu := hbu
  refine wpAny_newFunctionEnv hcell (fun y hy => hloc _ (hf.keys ▸ List.mem_map_of_mem (f := (·.1)) hy)) (fun h₀ hns hsb => ⟨(Γ.nolimit.keeps ob.H0).fresh _ hsb, codeAny_func ?_⟩) hk
  have hk₀ : Keep bh h₀ := fun q o e => hsb.extBut q o (Nat.ne_of_lt (Heap.lt_size e)) (Heap.get?_push_of_some _ e)
  have o1 : Own Γ bg ((bh.objs.size, .ns m) :: bu) h₀ := by
    have o' := ob.grow hk₀
    refine ⟨o'.base, o'.keep, List.nodup_cons.mpr ⟨fun hm => Nat.lt_irrefl _ (ob.lt _ hm), ob.nodup⟩, fun p hp' => ?_⟩
    rcases List.mem_cons.mp hp' with rfl | hp'
    · refine ⟨⟨_, hns, hnd, fun y => slots_of hf hm hnd y⟩, ?_⟩
      cases q : bg.get? bh.objs.size with
      | none => rfl
      | some z => exact absurd (Heap.lt_size (ob.keep _ _ q)) (Nat.lt_irrefl _)
    · exact o'.ok p hp'
  have st : Step ⟨bgs, bg, bu, bh⟩ ⟨bgs, bg, (bh.objs.size, .ns m) :: bu, h₀⟩ := ⟨.refl _, .refl _, fun q o e nq => ⟨hk₀ _ _ e, fun hm => by
    rcases List.mem_cons.mp hm with z | z
    · dsimp only at z e; rw [z] at e; exact Nat.lt_irrefl _ (Heap.lt_size e)
    · exact nq z, id⟩⟩
  refine (h bh.objs.size ⟨hk, rfl, rfl, rfl, hG, hB, hE⟩ ⟨bgs, bg, _, h₀⟩ o1 rfl).to (hA.deeper _) fun b tk fl df s2 ob r q => ?_
  cases r with
  | next =>
    obtain ⟨e, u', d, q⟩ := q
    exact ⟨⟨b.gs, b.g, u', b.h⟩, tk, _, rfl, ((st0.trans st).trans s2).trans (Step.del d), ob.del d, .none, q⟩
  | brk => exact q.elim
  | cont => exact q.elim
  | ret i =>
    obtain ⟨e, u', d, q⟩ := q
    exact ⟨⟨b.gs, b.g, u', b.h⟩, tk, _, rfl, ((st0.trans st).trans s2).trans (Step.del d), ob.del d, i, q⟩

theorem bindV1 {fd : FuncData} {y : Str} {d e : D} (he : ∀ a b, bindArgs fd ⟨[a, b], []⟩ = (newTuple [b] >>= fun t => pure [(x, a), (y, t)])) : BindL Γ n fd [] [d, e] [(x, d), (y, .tup [e])] u := by
  rintro a ho rfl vs hv A dr os tk hA
  cases hv with | cons h1 hv => ?_
  cases hv with | cons h2 hv => ?_
  cases hv
  rw [he]
  refine wpAny_bind ((newTuple_ (Γ := Γ) (n := n) (ds := [e]) (Q := fun d u' => d = .tup [e] ∧ u' = a.u) ⟨rfl, rfl⟩ (Nat.le_of_ble_eq_true rfl) a ho rfl _ (.cons h2 .nil)).to hA fun b tk v y' st ob r q => ?_)
  obtain ⟨rfl, q⟩ := q
  exact wpAny_pure ⟨b, tk, _, rfl, st, ob, .cons (h1.keep st.keep) (.cons r .nil), rfl, q⟩
theorem newDictF {Q : Addr → Shared → Prop} {E : Value → Shared → Prop} {A : Around} {a : Sg} (ho : Own Γ a.g a.u a.h) {dr : Drawn} {os : OsState} {tk : Nat}
    (h : ∀ b l, Step a b → Own Γ b.g b.u b.h → b.u = a.u → Is Γ.w.params b.g (.ref l) (.dict []) → Q l (sh b dr tk os)) : wpAny (model Γ.prog Γ.w) A (alloc { cls := .type "dict", data := .dict #[] }) Q E (sh a dr tk os) := by
  obtain ⟨gs, g, u, hp⟩ := a
  obtain ⟨g', st, o', e⟩ := ho.alloc (gs := gs) { cls := .type "dict", data := .dict #[] } rfl
  have e2 := Heap.get?_push_size hp (o := { cls := .type "dict", data := .dict #[] }) rfl
  have i : Is Γ.w.params g' (.ref hp.objs.size) (.dict []) := .dict (DictS.at (h := hp.push { cls := .type "dict", data := .dict #[] }) (DictS.of (Heap.DictOf.new (knd := PySem.strKind Γ.prog Γ.w) hp) (notMods ho)) (fun o e' => by rw [e2] at e'; cases e'; exact e)) .nil
  exact wpAny_alloc (h ⟨gs, g', u, _⟩ _ st o' rfl i)
theorem bindK0 {fd : FuncData} {z : Str} {d : D} (he : ∀ a, bindArgs fd ⟨[a], []⟩ = (alloc { cls := .type "dict", data := .dict #[] } >>= fun t => pure [(x, a), (z, .ref t)])) : BindL Γ n fd [] [d] [(x, d), (z, .dict [])] u := by
  rintro a ho rfl vs hv A dr os tk hA
  cases hv with | cons h1 hv => ?_
  cases hv
  rw [he]
  exact wpAny_bind (newDictF ho fun b l st ob hu hi => wpAny_pure ⟨b, _, _, rfl, st, ob, .cons (h1.keep st.keep) (.cons hi .nil), rfl, hu⟩)
theorem bindVK1 {fd : FuncData} {y z : Str} {d e : D} (he : ∀ a b, bindArgs fd ⟨[a, b], []⟩ = (newTuple [b] >>= fun t => alloc { cls := .type "dict", data := .dict #[] } >>= fun w => pure [(x, a), (y, t), (z, .ref w)])) : BindL Γ n fd [] [d, e] [(x, d), (y, .tup [e]), (z, .dict [])] u := by
  rintro a ho rfl vs hv A dr os tk hA
  cases hv with | cons h1 hv => ?_
  cases hv with | cons h2 hv => ?_
  cases hv
  rw [he]
  refine wpAny_bind ((newTuple_ (Γ := Γ) (n := n) (ds := [e]) (Q := fun d u' => d = .tup [e] ∧ u' = a.u) ⟨rfl, rfl⟩ (Nat.le_of_ble_eq_true rfl) a ho rfl _ (.cons h2 .nil)).to hA fun b tk v y' st ob r q => ?_)
  obtain ⟨rfl, q⟩ := q
  exact wpAny_bind (newDictF ob fun c l st2 oc hu hi => wpAny_pure ⟨c, _, _, rfl, st.trans st2, oc, .cons ((h1.keep st.keep).keep st2.keep) (.cons (r.keep st2.keep) (.cons hi .nil)), rfl, hu.trans q⟩)

theorem IsE.put {P : Params} {g : Heap} {name : Str} {hs : Int} {t : Tok} {v : Value} {d : D} (hv : Is P g v d) : ∀ {es : List DictEntry} {ds : List (Str × D)}, IsE P g es ds → (ds.map (·.1)).Nodup → IsE P g (putL name hs (.str name t) v es) (storD ds name d)
  | _, _, .nil, _ => .cons hv .nil
  | _, _, .cons (x := y) (t := ty) (ds := ds) h1 h2, nd => by
    rw [List.map_cons, List.nodup_cons] at nd
    have ih := IsE.put (name := name) (hs := hs) (t := t) hv h2 nd.2
    unfold putL storD
    unfold storD at ih
    by_cases q : y = name
    · subst q
      have q' : (Value.str y ty).isStr y = true := by simp [Value.isStr]
      simp only [q', if_true, List.any_cons, decide_true, Bool.true_or, List.map_cons]
      refine .cons hv ?_
      have e : ds.map (fun kv => if kv.1 = y then (kv.1, d) else kv) = ds := by
        conv => rhs; rw [← List.map_id ds]
        refine List.map_congr_left fun kv hkv => ?_
        rw [if_neg (fun (e : kv.1 = y) => nd.1 (by rw [← e]; exact List.mem_map_of_mem (f := (·.1)) hkv))]; rfl
      rw [e]; exact h2
    · have q' : (Value.str y ty).isStr name = false := by simp [Value.isStr, q]
      simp only [q', Bool.false_eq_true, if_false, List.any_cons, q, decide_false, Bool.false_or, List.map_cons]
      by_cases ha : (ds.any fun kv => decide (kv.1 = name)) = true
      · rw [if_pos ha] at ih ⊢; exact .cons h1 ih
      · rw [if_neg ha] at ih ⊢; exact .cons h1 ih
theorem IsE.noRef {P : Params} {g : Heap} : ∀ {es : List DictEntry} {ds : List (Str × D)}, IsE P g es ds → es.any (·.refKey) = false
  | _, _, .nil => rfl
  | _, _, .cons _ r => by rw [List.any_cons, IsE.noRef r]; rfl
theorem IsE.len {P : Params} {g : Heap} : ∀ {es : List DictEntry} {ds : List (Str × D)}, IsE P g es ds → es.length = ds.length
  | _, _, .nil => rfl
  | _, _, .cons _ r => congrArg (· + 1) (IsE.len r)
theorem putL_len (name : Str) (hs : Int) (k v : Value) : ∀ es : List DictEntry, (putL name hs k v es).length ≤ es.length + 1
  | [] => Nat.le_refl _
  | e :: r => by
    unfold putL
    split
    · simp
    · have := putL_len name hs k v r; simp only [List.length_cons]; omega

/-- what a class must be for the plain setting of a name -/
def setOk (K : Frag) (C : Addr) (name : Str) : Bool := findIn K (.ref C) "__setattr__" == some (some (.builtin "object.__setattr__")) && plainOver K C && takerIn K C name == some none && (clsIn K C).any (·.hasDict)
theorem setA_ {K : Frag} {name : Str} {x da C : Addr} {ds : List (Str × D)} {d : D} {u' : Led} {Q : Unit → Led → Prop} (hΓ : Γ.K = K) (hx : (x, Ent.inst C da) ∈ u) (hs : Set1 u da (.attrs ds) (.attrs (storD ds name d)) u') (hr : setOk K C name = true) (hnd' : decide ((ds.map (·.1)).Nodup) = true) (hz : ds.length ≤ 900) (hQ : Q () u') :
    OnL Γ (fun _ (_ _ : Unit) => True) n (fun vs => match vs with | [a, b] => setAttr a name b | _ => unsupported "") [.raw (.ref x), d] Q u := by
  have hnd := of_decide_eq_true hnd'
  subst hΓ
  rintro ⟨gs, g, uu, h⟩ ho hu vs hv A dr os tk hA
  obtain rfl : uu = u := hu
  cases hv with | cons h1 hv => ?_
  cases hv with | cons h2 hv => ?_
  cases hv
  cases h1
  rename_i v
  simp only [setOk, Bool.and_eq_true, beq_iff_eq] at hr
  obtain ⟨⟨⟨r1, r2⟩, r3⟩, r4⟩ := hr
  obtain ⟨es, m, hd, hE⟩ := (ho.ok _ hs.mem).1
  have hi : h.get? x = some (instObj C da) := (ho.ok _ hx).1
  have X : Γ.K.In h := ho.K
  have I : InstAt h x (instObj C da) C (some (dictOf es m)) := ⟨hi, rfl, rfl, hd⟩
  refine set_plain X I r1 (osa_open X I r2 r3 fun b => ?_)
  obtain ⟨cd, hc, hd'⟩ := any_some r4
  refine wpAny_bind (wpAny_pure (wpAny_bind (wpAny_bind (wpAny_loadPart hi (wpAny_bind ((looks_clsIn X hc).here ?_))))))
  rw [hd']
  refine wpAny_pure (a := some da) (wpAny_bind (wpAny_pure (wpAny_bind ?_)))
  unfold nsSet
  refine wpAny_bind (wpAny_bind (wpAny_askSetting (wpAny_pure (wpAny_bind (wpAny_mkText (wpAny_bind (wpAny_loadPart hd ?_)))))))
  dsimp only
  have c : (!es.toArray.any (·.key.isStr name) && es.toArray.any (·.refKey)) = false := by
    have : es.toArray.any (·.refKey) = false := by rw [← Array.any_toList]; exact hE.noRef
    rw [this, Bool.and_false]
  rw [aRefKeyMayBeTheName_at, c]
  have hp := putName_dict name (if name.cps.isEmpty = true then 0 else reduceHash (Γ.w.params.strHash name.cps)) (.str name (tk + 1)) v es m
  have hg : (h.update da (Obj.putName name (if name.cps.isEmpty = true then 0 else reduceHash (Γ.w.params.strHash name.cps)) (.str name (tk + 1)) v)).get? da = some (dictOf (putL name (if name.cps.isEmpty = true then 0 else reduceHash (Γ.w.params.strHash name.cps)) (.str name (tk + 1)) v es) (putN name es m)) := by
    rw [Heap.get?_update_self _ hd (by rw [hp]; rfl), hp]
  have hb : ∀ b ob, b ≠ da → h.get? b = some ob → (h.update da (Obj.putName name (if name.cps.isEmpty = true then 0 else reduceHash (Γ.w.params.strHash name.cps)) (.str name (tk + 1)) v)).get? b = some ob := fun b ob ne q => ((Heap.SameBut.update ..).2 b ne).trans q
  have hlen := putL_len name (if name.cps.isEmpty = true then 0 else reduceHash (Γ.w.params.strHash name.cps)) (.str name (tk + 1)) v es
  have hlen2 := hE.len
  refine wpAny_updatePart hd ?_
  refine wpAny_bind (wpAny_lookBehind hg (pastItsLine_dict (by rw [List.size_toArray, sizeLine_eq]; omega)) ?_)
  exact wpAny_pure ⟨⟨gs, g, u', _⟩, _, (), rfl, Step.set hs hb, ho.set hs hb ⟨_, _, hg, hE.put h2 hnd⟩, trivial, hQ⟩
/-- x.name = e -/
theorem AssignAttr_ {o e : Expr} {name : Str} {p : Pos} {Q : Fl → Led → Prop}
    (h : Ev Γ n (eval e env) (fun dv u1 => Ev Γ n (eval o env) (fun d_o u2 => OnL Γ (fun _ (_ _ : Unit) => True) n (fun vs => match vs with | [a, b] => setAttr a name b | _ => unsupported "") [d_o, dv] (fun _ u3 => Q .next u3) u2) u1) u)
    (hs : swapsWith e (some (.Attribute o name p)) pos.line env = pure false := by with_unfolding_all rfl) : Ex Γ n (exec (.Assign [.Attribute o name p] e pos) env) Q u := by
  rintro a ho rfl A dr os tk hA
  refine plainObj_wpAny_Assign_Attribute ((h a ho rfl).to hA fun b tk v d st ob r q => (q b ob rfl).to hA fun c tk v2 d2 st2 oc r2 q2 => ?_) hs
  exact (q2 c oc rfl [v2, v] (.cons r2 (.cons (r.keep st2.keep) .nil))).to hA fun b3 tk v3 d3 st3 ob3 r3 q3 => ⟨b3, tk, .next, rfl, (st.trans st2).trans st3, ob3, .next, q3⟩
end
end Mine

namespace Mine
open PySem PySem.W PySem.Calls

section
variable {Γ : Cx} {n : Nat} {env : Env} {u : Led} {x : Str} {pos : Pos}
/-- a method, bound -/
def boundOk (K : Frag) (C : Addr) (name : Str) (f : Addr) : Bool := plainGet K C name && hasDictIn K C && findIn K (.ref C) name == some (some (.ref f)) && typeIn K (.ref f) == some (.type "function") && specialIn K (.ref f) "__get__" == some (some (.builtin "function.__get__")) && takesIn K (.ref f) == some false && !copiedNames.contains name
theorem getBound_ {K : Frag} {name : Str} {e : Bool} {d : D} {C f : Addr} {ds : List (Str × D)} {Q : D → Led → Prop} (hΓ : Γ.K = K) (i : InstD u d C ds) (hr : boundOk K C name f = true) (hv : valD ds name = none) (hQ : Q (.meth f d) u) :
    On1 Γ (Is Γ.w.params) n (fun v => getAttr v name e) d Q u := by
  subst hΓ
  rintro ⟨gs, g, uu, h⟩ ho hu v hv' A dr os tk hA
  obtain rfl : uu = u := hu
  obtain ⟨x, da, es, m, rfl, I, hE⟩ := i.at ho hv'
  simp only [boundOk, Bool.and_eq_true, beq_iff_eq, Bool.not_eq_true'] at hr
  obtain ⟨⟨⟨⟨⟨⟨h1, h2⟩, h3⟩, h4⟩, h5⟩, h6⟩, h7⟩ := hr
  obtain ⟨cd, hc, hd⟩ := any_some h2
  have hl : getL name es = some none := by
    rcases hE.got name with ⟨v, d', g1, g2, g3⟩ | ⟨g1, _⟩
    · rw [hv] at g2; cases g2
    · exact g1
  have hf : findObj Γ.K C (some (dictOf es m)) name = some (.bind (.builtin "function.__get__") (.ref f)) := by
    unfold findObj
    have ho' : ownOf cd (some (dictOf es m)) name = some none := by unfold ownOf; rw [if_pos hd]; exact hl
    rw [hc, Option.bind_some, h3, Option.bind_some]
    simp only [h5, h6, Option.bind_some, ho', h7, Bool.false_and, Bool.false_eq_true, if_false]
  refine get_bind (s := sh ⟨gs, g, uu, h⟩ dr tk os) ho.K I (plainGet_of h1).1 hf (plainGet_of h1).2 (wpAny_call (fn_get (s := { sh ⟨gs, g, uu, h⟩ dr tk os with toks := tk + 1 }) ho.K h4 ?_))
  obtain ⟨g', st, o', e⟩ := ho.alloc (gs := gs) (methodObj (.ref f) (.ref x)) rfl
  show wpAny _ _ (handedOut (.ref h.objs.size)) _ _ _
  exact wpAny_pure ⟨⟨gs, g', uu, _⟩, _, _, rfl, st, o', .meth e (hv'.keep st.keep), hQ⟩
theorem Callee.meth {K : Frag} {f : Addr} {d : D} (hΓ : Γ.K = K) (hk : fnIn K f = true) : Callee Γ (.meth f d) := fun g h _ k1 k2 i => by
  subst hΓ
  cases i with | meth e _ => ?_
  exact keeps_M hk h ⟨k2 _ _ e, fun a ob e => k2 _ _ (k1 _ _ (Γ.X a ob e))⟩
theorem onC_meth {f : Addr} {d : D} {ds : List D} {Q : D → Led → Prop} (h : CodeL Γ n f [] (d :: ds) Q u) : OnC Γ n (.meth f d) ds Q u := by
  rintro a ho rfl vf vs hf hv A dr os tk hA
  cases hf with | meth e hi => ?_
  refine wpAny_call (method_call (s := sh a dr tk os) (ho.keep _ _ e) (codeAny_mono (h a ho rfl _ (.cons hi hv) A dr os tk hA) fun r s' x => ?_))
  rcases r with e | (v | _ | _ | _) <;> first | exact x | exact x.elim
end
end Mine
namespace Mine
open PySem PySem.W PySem.Calls
section
variable {Γ : Cx} {n : Nat} {env : Env} {u : Led} {x : Str} {pos : Pos}
def plainTruth (K : Frag) (C : Addr) : Bool := findIn K (.ref C) "__bool__" == some none && findIn K (.ref C) "__len__" == some none
theorem truthyI_ {K : Frag} {d : D} {C : Addr} {ds : List (Str × D)} {Q : Bool → Led → Prop} (hΓ : Γ.K = K) (i : InstD u d C ds) (hr : plainTruth K C = true) (hQ : Q true u) : On1 Γ (fun _ (x y : Bool) => x = y) n truthy d Q u := by
  subst hΓ
  rintro a ho rfl v hv A dr os tk hA
  obtain ⟨x, da, es, m, rfl, I, hE⟩ := i.at ho hv
  simp only [plainTruth, Bool.and_eq_true, beq_iff_eq] at hr
  unfold truthy
  refine wpAny_bind (m := callSpecial? (.ref x) (Str.ofString "__bool__")) (wpAny_bind (wpAny_bind (I.type.here (s := sh a dr tk os) ((looks_findIn ho.K hr.1).here (s := sh a dr tk os) (wpAny_pure ?_)))))
  refine wpAny_bind (wpAny_bind (I.type.here (s := sh a dr tk os) ((looks_findIn ho.K hr.2).here (s := sh a dr tk os) ?_)))
  exact wpAny_pure (Out.same ho rfl hQ)
/-- what is made, and fixed at once -/
theorem OnL.frz {t : List Value → Sem Value} {ds : List D} {Q : D → Led → Prop} (h : OnL Γ (Is Γ.w.params) n t ds (fun d u' => ∃ x da C fs u1 u2, d = .raw (.ref x) ∧ Del u' x (.inst C da) u1 ∧ Del u1 da (.attrs fs) u2 ∧ Q (.inst C fs) u2) u) : OnL Γ (Is Γ.w.params) n t ds Q u := by
  rintro a ho rfl vs hv A dr os tk hA
  refine (h a ho rfl vs hv).to hA fun b tk v d st ob r q => ?_
  obtain ⟨x, da, C, fs, u1, u2, rfl, d1, d2, q⟩ := q
  cases r
  obtain ⟨bgs, bg, bu, bh⟩ := b
  obtain ⟨g', o', st', i⟩ := ob.frzI (gs := bgs) d1 d2
  exact ⟨⟨bgs, g', u2, bh⟩, tk, _, rfl, st.trans st', o', i, q⟩
theorem CodeL.up {n m : Nat} {f : Addr} {kw : List (Str × Value)} {ds : List D} {Q : D → Led → Prop} {u : Led} (h : CodeL Γ n f kw ds Q u) (e : n ≤ m) : CodeL Γ m f kw ds Q u :=
  fun a o q vs i A dr os tk hA => h a o q vs i A dr os tk (hA.le e)
end
end Mine
namespace Mine
open PySem PySem.W PySem.Calls
section
variable {Γ : Cx} {n : Nat} {env : Env} {u : Led} {x : Str} {pos : Pos}
theorem truthyS {s : Str} {Q : Bool → Led → Prop} (hz : s.length ≤ sizeLine) (hQ : Q ((s.length : Int) != 0) u) : On1 Γ (fun _ (x y : Bool) => x = y) n truthy (.str s) Q u := by
  rintro a ho rfl v hv A dr os tk hA
  cases hv
  have : sizeLine = 16777216 := rfl
  exact PySem.P.truthy_str (by omega) (Out.same ho rfl hQ)
theorem truthyInt {i : Int} {Q : Bool → Led → Prop} (hQ : Q (i != 0) u) : On1 Γ (fun _ (x y : Bool) => x = y) n truthy (.int i) Q u := by
  rintro a ho rfl v hv A dr os tk hA
  cases hv
  exact PySem.P.truthy_int (Out.same ho rfl hQ)
theorem strsAre_of {P : Params} {g : Heap} : ∀ {vs : List Value} {ws : List Str}, IsAll P g vs (ws.map .str) → PyProof.Rows.StrsAre vs ws
  | _, [], .nil => .nil
  | _, w :: ws, .cons h r => by cases h; exact .cons _ _ (strsAre_of r)
theorem joinL {sep : Str} {ws : List Str} {Q : D → Led → Prop} (hz : (ws.map (·.length)).sum + ws.length * sep.length ≤ 16777216) (hQ : Q (.str (Txt.join sep ws)) u) : OnL Γ (Is Γ.w.params) n (fun vs => call (.builtin "str.join") vs) [.str sep, .list (ws.map .str)] Q u := by
  rintro s ho rfl vs hv A dr os tk hA
  cases hv with | cons h1 h2 => ?_
  cases h2 with | cons h2 h3 => ?_
  cases h3
  cases h1
  cases h2 with | list hl hr => ?_
  exact PyProof.Rows.join_list ⟨_, ho.keep _ _ hl, rfl, _, rfl⟩ (by rw [List.toList_toArray]; exact strsAre_of hr) hz fun t' k => Out.same ho (.str _ _) hQ
end
end Mine

namespace Mine
open PySem PySem.W PySem.Calls

/-- a walk whose turns give fresh tuples that the iterator lets go of -/
structure WalksN (prog : Program) (w : World) (A : Around) (I : Addr) (fp wr : List Addr) (n : Nat) (Pt : Nat → Array Value → Prop) (St : Nat → Heap → Prop) (Mid : Nat → Addr → Heap → Prop) : Prop where
  frame : ∀ i h h', St i h → (∀ b ∈ fp, ∀ o, h.get? b = some o → h'.get? b = some o) → St i h'
  item : ∀ i (s : Shared) (Q : Option Value → Shared → Prop) (E : Value → Shared → Prop), i < n → St i s.heap →
    (∀ T vals h' tk, Pt i vals → s.heap.objs.size ≤ T → h'.IsTuple T vals → Mid i T h' → (∀ b o, b ∉ wr → s.heap.get? b = some o → h'.get? b = some o) → Q (some (.ref T)) { s with heap := h', toks := tk }) →
    wpAny (model prog w) A (pyNext (.ref I)) Q E s
  go : ∀ (elts : List Expr) (k : Nat) (pos : Pos) i T (s : Shared) (Q : Unit → Shared → Prop) (E : Value → Shared → Prop), Mid i T s.heap →
    (∀ h', St (i + 1) h' → (∀ b o, b ∉ wr → s.heap.get? b = some o → h'.get? b = some o) → Q () { s with heap := h' }) →
    wpAny (model prog w) A (letOwnedTupleGo (.Tuple elts k pos) (.ref I) (.ref T)) Q E s
  apart : ∀ i T h, Mid i T h → T ∉ wr
  done : ∀ (s : Shared) (Q : Option Value → Shared → Prop) (E : Value → Shared → Prop), St n s.heap →
    (∀ h' tk, (∀ b o, b ∉ wr → s.heap.get? b = some o → h'.get? b = some o) → Q none { s with heap := h', toks := tk }) → wpAny (model prog w) A (pyNext (.ref I)) Q E s
/-- what gives tuples when it is gone through, and lets each go when it is taken apart -/
def IterT (Γ : Cx) (d : D) (items : List (List D)) : Prop :=
  ∀ (A : Around) (gs : Array GenState) (g : Heap) (u : Led) (h : Heap) (v : Value) (dr : Drawn) (tk : Nat) (os : OsState) (Q : Value → Shared → Prop), A.handled = none → Own Γ g u h → Is Γ.w.params g v d →
    (∀ I fp wr P St Mid h' tk', WalksN Γ.prog Γ.w A I fp wr items.length P St Mid → St 0 h' → Keep h h' → (∀ b ∈ wr, h.get? b = none) → (∀ i h, St i h → ∀ b ∈ wr, ∃ o, h.get? b = some o) → (∀ i T h, Mid i T h → ∀ b ∈ wr, ∃ o, h.get? b = some o) → (∀ b ∈ fp, b ∈ wr ∨ ∃ o, g.get? b = some o) →
      (∀ i vs, i < items.length → P i vs → ∃ ds, items[i]? = some ds ∧ IsAll Γ.w.params g vs.toList ds) → Q (.ref I) (sh ⟨gs, g, u, h'⟩ dr tk' os)) →
    wpAny (model Γ.prog Γ.w) A (pyIter v) Q (fun _ _ => False) (sh ⟨gs, g, u, h⟩ dr tk os)

section
variable {Γ : Cx} {n : Nat} {env : Env} {u : Led} {x : Str} {pos : Pos}
theorem ForT_ {es : List Expr} {k : Nat} {tp : Pos} {e : Expr} {body orelse : List Stmt} {Q : Fl → Led → Prop}
    (h : Ev Γ n (eval e env) (fun d u1 => ∃ (items : List (List D)) (I : Nat → Led → Prop), IterT Γ d items ∧ I 0 u1 ∧
      (∀ i di u2, items[i]? = some di → I i u2 → On1 Γ (fun _ (_ _ : Unit) => True) n (fun v => assign (.Tuple es k tp) env v) (.tup di) (fun _ u3 => Ex Γ n (execs body env) (Turn (I (i + 1)) Q) u3) u2) ∧
      (∀ u2, I items.length u2 → Ex Γ n (execs orelse env) Q u2)) u)
    (hs : ∀ x, foldedSetIterable e env x = pure x := by intro _; with_unfolding_all rfl) : Ex Γ n (exec (.For (.Tuple es k tp) e body orelse pos) env) Q u := by
  rintro a ho rfl A dr os tk hA
  refine wpAny_For (wpAny_mono (h a ho rfl A dr os tk hA) ?_ (fun _ _ f => f.elim)) hs
  rintro v _ ⟨b, tk1, d, rfl, st, ob, r, items, I, hI, h0, turn, done⟩
  refine wpAny_mono (hI A b.gs b.g b.u b.h v dr tk1 os _ hA.1 ob r (fun I' fp wr P St Mid h' tk' W hst hk hwr hex hexM hfp hP => ?_)) (fun _ _ x => x) (fun _ _ f => f.elim)
  let Inv : Nat → Shared → Prop := fun k s => ∃ i c tkc, i + k = items.length ∧ s = sh c dr tkc os ∧ LoopAt Γ b c fp wr ∧ St i c.h ∧ I i c.u
  refine forLoopG Inv ?_ items.length ⟨0, ⟨b.gs, b.g, b.u, h'⟩, tk', by omega, rfl, LoopAt.start ob hk hwr, hst, h0⟩
  rintro k s ⟨i, c, tkc, hik, rfl, lc, hstc, hIc⟩
  by_cases hi : i < items.length
  · refine W.item i _ _ _ hi hstc fun T vals h'' tk'' hPv hT0 hT hm'' hk'' => ?_
    obtain ⟨di, hdi, hIs⟩ := hP i vals hi hPv
    have hcT : c.h.get? T = none := by
      cases q : c.h.get? T with
      | none => rfl
      | some o => exact absurd (Heap.lt_size q) (Nat.not_lt.mpr hT0)
    have hTw := W.apart _ _ _ hm''
    refine W.go es _ tp i T _ _ _ hm'' fun h3 hst3 hk3 => ?_
    obtain ⟨oT, hoT, hcT', nT, hdT⟩ := hT
    have hoT3 : h3.get? T = some oT := hk3 _ _ hTw hoT
    have l2 := lc.next (h'' := h3) hwr fun q o hq e => hk3 q o hq (hk'' q o hq e)
    -- the tuple is fixed
    have nmT : ∀ q ∈ [T], q ∉ c.u.map (·.1) := fun q hq hm => by
      rw [List.mem_singleton.mp hq] at hm
      obtain ⟨p, hp, e⟩ := List.mem_map.mp hm
      obtain ⟨o', e'⟩ := (lc.own.ok p hp).1.lt
      rw [e, hcT] at e'; cases e'
    have o3 : Own Γ (addTo c.g h3 [T]) c.u h3 := l2.own.add nmT
    have s3 : Step b ⟨c.gs, addTo c.g h3 [T], c.u, h3⟩ := by
      refine ⟨l2.step.gens, l2.step.keep.trans (addTo_keep l2.own.keep), fun q o e nq => ?_⟩
      obtain ⟨z1, z2, z3⟩ := l2.step.fram q o e nq
      refine ⟨z1, z2, fun z => addTo_none (z3 z) fun hm => ?_⟩
      rw [List.mem_singleton.mp hm] at e
      have := (lc.step.fram T o e (by rw [← List.mem_singleton.mp hm]; exact nq)).1
      rw [hcT] at this; cases this
    have l3 : LoopAt Γ b ⟨c.gs, addTo c.g h3 [T], c.u, h3⟩ fp wr := ⟨s3, o3, fun q hq => ⟨addTo_none (l2.off q hq).1 fun hm => hTw (by rw [← List.mem_singleton.mp hm]; exact hq), (l2.off q hq).2⟩⟩
    have isT : Is Γ.w.params (addTo c.g h3 [T]) (.ref T) (.tup di) := by
      have gT := addTo_get (g := c.g) (S := [T]) hoT3 (.inr (.head _))
      obtain ⟨oc, od, oda, osl⟩ := oT
      dsimp only at hcT' hdT
      subst hcT' hdT
      exact .tup (vs := vals.toList) (n := nT) (dd := od) (sl := osl) gT ((hIs.keep lc.step.keep).keep (addTo_keep l2.own.keep))
    refine (turn i di c.u hdi hIc ⟨c.gs, addTo c.g h3 [T], c.u, h3⟩ o3 rfl (.ref T) isT).to hA (dr := dr) (os := os) (tk := tk'') fun e tke _ _ st2 oe _ q2 => ?_
    refine (q2 e oe rfl).to hA fun f tkf fl df st3 of r3 q3 => ?_
    obtain ⟨l4, hfp3⟩ := l3.body (hex _ _ hst3) (st2.trans st3) of hfp
    have st3' : St (i + 1) f.h := W.frame _ _ _ hst3 hfp3
    cases r3 with
    | next => exact ⟨k - 1, by omega, i + 1, f, tkf, by omega, rfl, l4, st3', q3⟩
    | cont => exact ⟨k - 1, by omega, i + 1, f, tkf, by omega, rfl, l4, st3', q3⟩
    | brk => exact ⟨f, tkf, _, rfl, st.trans l4.step, of, .next, q3⟩
    | ret iv => exact ⟨f, tkf, _, rfl, st.trans l4.step, of, .ret iv, q3⟩
  · have : i = items.length := by omega
    subst this
    refine W.done _ _ _ hstc fun h'' tk'' hk'' => ?_
    have l2 := lc.next (h'' := h'') hwr hk''
    refine (done c.u hIc ⟨c.gs, c.g, c.u, h''⟩ l2.own rfl).to hA (dr := dr) (os := os) (tk := tk'') fun e tke fl df st2 oe r2 q2 => ?_
    exact ⟨e, tke, df, rfl, (st.trans l2.step).trans st2, oe, r2, q2⟩
theorem ForW_ {es : List Expr} {k : Nat} {tp : Pos} {e : Expr} {body orelse : List Stmt} {Q : Fl → Led → Prop}
    (h : ∀ a, Own Γ a.g a.u a.h → a.u = u → ∀ A dr os tk, Ok n A → wpAny (model Γ.prog Γ.w) A (eval e env) (fun v s₁ => wpAny (model Γ.prog Γ.w) A (pyIter v) (fun it s₂ =>
      ∃ (b : Sg) (items : List (List D)) (I' : Addr) (fp wr : List Addr) (P : Nat → Array Value → Prop) (St : Nat → Heap → Prop) (Mid : Nat → Addr → Heap → Prop) (h' : Heap) (tk' : Nat) (I : Nat → Led → Prop),
        it = .ref I' ∧ s₂ = sh ⟨b.gs, b.g, b.u, h'⟩ dr tk' os ∧ Step a b ∧ Own Γ b.g b.u b.h ∧ WalksN Γ.prog Γ.w A I' fp wr items.length P St Mid ∧ St 0 h' ∧ Keep b.h h' ∧ (∀ q ∈ wr, b.h.get? q = none) ∧ (∀ i h, St i h → ∀ b ∈ wr, ∃ o, h.get? b = some o) ∧ (∀ q ∈ fp, q ∈ wr ∨ ∃ o, b.g.get? q = some o) ∧
        (∀ i vs, i < items.length → P i vs → ∃ ds, items[i]? = some ds ∧ IsAll Γ.w.params b.g vs.toList ds) ∧ I 0 b.u ∧
        (∀ i di u2, items[i]? = some di → I i u2 → On1 Γ (fun _ (_ _ : Unit) => True) n (fun v => assign (.Tuple es k tp) env v) (.tup di) (fun _ u3 => Ex Γ n (execs body env) (Turn (I (i + 1)) Q) u3) u2) ∧
        (∀ u2, I items.length u2 → Ex Γ n (execs orelse env) Q u2)) (fun _ _ => False) s₁) (fun _ _ => False) (sh a dr tk os))
    (hs : ∀ x, foldedSetIterable e env x = pure x := by intro _; with_unfolding_all rfl) : Ex Γ n (exec (.For (.Tuple es k tp) e body orelse pos) env) Q u := by
  rintro a ho rfl A dr os tk hA
  refine wpAny_For (wpAny_mono (h a ho rfl A dr os tk hA) (fun v s₁ h₁ => wpAny_mono h₁ ?_ (fun _ _ f => f.elim)) (fun _ _ f => f.elim)) hs
  rintro it s₂ ⟨b, items, I', fp, wr, P, St, Mid, h', tk', I, rfl, rfl, st, ob, W, hst, hk, hwr, hex, hfp, hP, h0, turn, done⟩
  let Inv : Nat → Shared → Prop := fun k s => ∃ i c tkc, i + k = items.length ∧ s = sh c dr tkc os ∧ LoopAt Γ b c fp wr ∧ St i c.h ∧ I i c.u
  refine forLoopG Inv ?_ items.length ⟨0, ⟨b.gs, b.g, b.u, h'⟩, tk', by omega, rfl, LoopAt.start ob hk hwr, hst, h0⟩
  rintro k s ⟨i, c, tkc, hik, rfl, lc, hstc, hIc⟩
  by_cases hi : i < items.length
  · refine W.item i _ _ _ hi hstc fun T vals h'' tk'' hPv hT0 hT hm'' hk'' => ?_
    obtain ⟨di, hdi, hIs⟩ := hP i vals hi hPv
    have hcT : c.h.get? T = none := by
      cases q : c.h.get? T with
      | none => rfl
      | some o => exact absurd (Heap.lt_size q) (Nat.not_lt.mpr hT0)
    have hTw := W.apart _ _ _ hm''
    refine W.go es _ tp i T _ _ _ hm'' fun h3 hst3 hk3 => ?_
    obtain ⟨oT, hoT, hcT', nT, hdT⟩ := hT
    have hoT3 : h3.get? T = some oT := hk3 _ _ hTw hoT
    have l2 := lc.next (h'' := h3) hwr fun q o hq e => hk3 q o hq (hk'' q o hq e)
    -- the tuple is fixed
    have nmT : ∀ q ∈ [T], q ∉ c.u.map (·.1) := fun q hq hm => by
      rw [List.mem_singleton.mp hq] at hm
      obtain ⟨p, hp, e⟩ := List.mem_map.mp hm
      obtain ⟨o', e'⟩ := (lc.own.ok p hp).1.lt
      rw [e, hcT] at e'; cases e'
    have o3 : Own Γ (addTo c.g h3 [T]) c.u h3 := l2.own.add nmT
    have s3 : Step b ⟨c.gs, addTo c.g h3 [T], c.u, h3⟩ := by
      refine ⟨l2.step.gens, l2.step.keep.trans (addTo_keep l2.own.keep), fun q o e nq => ?_⟩
      obtain ⟨z1, z2, z3⟩ := l2.step.fram q o e nq
      refine ⟨z1, z2, fun z => addTo_none (z3 z) fun hm => ?_⟩
      rw [List.mem_singleton.mp hm] at e
      have := (lc.step.fram T o e (by rw [← List.mem_singleton.mp hm]; exact nq)).1
      rw [hcT] at this; cases this
    have l3 : LoopAt Γ b ⟨c.gs, addTo c.g h3 [T], c.u, h3⟩ fp wr := ⟨s3, o3, fun q hq => ⟨addTo_none (l2.off q hq).1 fun hm => hTw (by rw [← List.mem_singleton.mp hm]; exact hq), (l2.off q hq).2⟩⟩
    have isT : Is Γ.w.params (addTo c.g h3 [T]) (.ref T) (.tup di) := by
      have gT := addTo_get (g := c.g) (S := [T]) hoT3 (.inr (.head _))
      obtain ⟨oc, od, oda, osl⟩ := oT
      dsimp only at hcT' hdT
      subst hcT' hdT
      exact .tup (vs := vals.toList) (n := nT) (dd := od) (sl := osl) gT ((hIs.keep lc.step.keep).keep (addTo_keep l2.own.keep))
    refine (turn i di c.u hdi hIc ⟨c.gs, addTo c.g h3 [T], c.u, h3⟩ o3 rfl (.ref T) isT).to hA (dr := dr) (os := os) (tk := tk'') fun e tke _ _ st2 oe _ q2 => ?_
    refine (q2 e oe rfl).to hA fun f tkf fl df st3 of r3 q3 => ?_
    obtain ⟨l4, hfp3⟩ := l3.body (hex _ _ hst3) (st2.trans st3) of hfp
    have st3' : St (i + 1) f.h := W.frame _ _ _ hst3 hfp3
    cases r3 with
    | next => exact ⟨k - 1, by omega, i + 1, f, tkf, by omega, rfl, l4, st3', q3⟩
    | cont => exact ⟨k - 1, by omega, i + 1, f, tkf, by omega, rfl, l4, st3', q3⟩
    | brk => exact ⟨f, tkf, _, rfl, st.trans l4.step, of, .next, q3⟩
    | ret iv => exact ⟨f, tkf, _, rfl, st.trans l4.step, of, .ret iv, q3⟩
  · have : i = items.length := by omega
    subst this
    refine W.done _ _ _ hstc fun h'' tk'' hk'' => ?_
    have l2 := lc.next (h'' := h'') hwr hk''
    refine (done c.u hIc ⟨c.gs, c.g, c.u, h''⟩ l2.own rfl).to hA (dr := dr) (os := os) (tk := tk'') fun e tke fl df st2 oe r2 q2 => ?_
    exact ⟨e, tke, df, rfl, (st.trans l2.step).trans st2, oe, r2, q2⟩
end
end Mine

namespace Mine
open PySem PySem.W PySem.Calls

section
variable {Γ : Cx} {n : Nat} {env : Env} {u : Led} {x : Str} {pos : Pos}
theorem itemsD {ds : List (Str × D)} {Q : D → Led → Prop} (hQ : Q (.items ds) u) : OnL Γ (Is Γ.w.params) n (fun vs => call (.builtin "dict.items") vs) [.dict ds] Q u := by
  rintro ⟨gs, g, uu, h⟩ ho hu vs hv A dr os tk hA
  obtain rfl : uu = u := hu
  cases hv with | cons h1 h2 => ?_
  cases h2
  cases h1 with | dict hl hr => ?_
  rename_i a fs
  have hl' := hl.at fun o e => ho.keep _ _ e
  have hd := hl'.2 Γ.prog Γ.w rfl
  obtain ⟨o, _, _, _, lo⟩ := hl'.1
  obtain ⟨g', st, o', e⟩ := ho.alloc (gs := gs) { cls := .type "dict_items", data := .fields #[.ref a] } rfl
  exact PySem.call_meetsIn PySem.F.slot_dict_items hd.typeIs PySem.F.entry_dict_items (PySem.F.args_dict_items_1 _) (meets_dict_items (PySem.strKind Γ.prog Γ.w) a lo)
    ⟨⟨fs, hd⟩, ⟨gs, g', uu, _⟩, tk, _, rfl, st, o', .items e (hl.at fun o e => st.keep _ _ e) (hr.keep st.keep), hQ⟩

def itemsOf (ds : List (Str × D)) : List (List D) := ds.map fun p => [.str p.1, p.2]
theorem IsF.nth {P : Params} {g : Heap} : ∀ {fs : List (Str × Value)} {ds : List (Str × D)}, IsF P g fs ds → ∀ {i : Nat} {k : Str} {v : Value}, fs[i]? = Option.some (k, v) → ∃ d, ds[i]? = Option.some (k, d) ∧ Is P g v d
  | _, _, .nil, i, k, v, e => by simp at e
  | _, _, .cons h r, 0, k, v, e => by simp at e; obtain ⟨rfl, rfl⟩ := e; exact ⟨_, rfl, h⟩
  | _, _, .cons h r, i + 1, k, v, e => by simp at e; simpa using r.nth e
theorem iterItems {ds : List (Str × D)} : IterT Γ (.items ds) (itemsOf ds) := by
  intro A gs g u h v dr tk os Q hh ho hv k
  cases hv with | items he hl hr => ?_
  rename_i vw a fs
  have hl' := hl.at fun o e => ho.keep _ _ e
  have hd := hl'.2 Γ.prog Γ.w rfl
  obtain ⟨ep, hat⟩ := hd.dictAt
  have hlen : fs.length = ds.length := hr.length
  have hvw := ho.keep _ _ he
  refine PySem.wpAny_pyIter_items (knd := PySem.strKind Γ.prog Γ.w) (s := sh ⟨gs, g, u, h⟩ dr tk os) (d := a) (kvs := fs) (ep := ep) ⟨_, hvw, rfl, rfl⟩ hat ?_
  have hne : a ≠ h.objs.size := Nat.ne_of_lt hat.lt_size
  generalize hI : h.objs.size = I at hne
  have W : WalksN Γ.prog Γ.w A I [I, a] [I] fs.length
      (fun i vals => ∃ kk key v, fs[i]? = some (kk, v) ∧ Value.isStrOf kk key = true ∧ vals = #[key, v])
      (fun i h => (∃ ok ov, IsItemIter h I a i fs.length ep ok ov) ∧ h.DictAt (PySem.strKind Γ.prog Γ.w) a fs ep)
      (fun i T h => (∃ ok ov, IsItemIterOut h I a (i + 1) fs.length ep ok ov T) ∧ h.DictAt (PySem.strKind Γ.prog Γ.w) a fs ep ∧ T ≠ I) := by
    refine ⟨fun i h h' st hk => ?_, fun i s Q E hi st hQ => ?_, fun elts k pos i T s Q E hm hQ => ?_, fun i T h hm hT => ?_, fun s Q E st hQ => ?_⟩
    · obtain ⟨⟨ok, ov, h1⟩, h2⟩ := st
      exact ⟨⟨ok, ov, hk I (.head _) _ h1⟩, h2.at fun o e => hk a (.tail _ (.head _)) o e⟩
    · obtain ⟨⟨ok, ov, h1⟩, h2⟩ := st
      have hx : fs[i]? = some (fs[i].1, fs[i].2) := List.getElem?_eq_getElem hi
      refine wpAny_pyNext_items_item h1 h2 hx fun key h' hkey ho ht hz hk => ?_
      have hI2 : I < s.heap.objs.size := Heap.lt_size h1
      exact hQ s.heap.objs.size #[key, fs[i].2] h' s.toks ⟨_, key, _, hx, hkey, rfl⟩ (Nat.le_refl _) ⟨_, ht, rfl, _, rfl⟩ ⟨⟨_, _, ho⟩, h2.at fun o e => hk a o hne e, Nat.ne_of_gt hI2⟩ fun b o hb e => hk b o (fun z => hb (by rw [z]; exact .head _)) e
    · obtain ⟨⟨ok, ov, h1⟩, h2, h3⟩ := hm
      refine wpAny_letOwnedTupleGo_items h1 fun h' he' hs' => hQ h' ⟨⟨ok, ov, he'⟩, h2.at fun o e => (hs'.2 a hne).trans e⟩ fun b o hb e => (hs'.2 b fun z => hb (by rw [z]; exact .head _)).trans e
    · exact hm.2.2 (List.mem_singleton.mp hT)
    · obtain ⟨⟨ok, ov, h1⟩, h2⟩ := st
      exact wpAny_pyNext_items_end hh h1 h2 (List.getElem?_eq_none (Nat.le_refl _)) fun h' hx => hQ h' s.toks fun b o hb e => hx b o (fun z => hb (by rw [z]; exact .head _)) e
  have hle : fs.length = (itemsOf ds).length := by simp [itemsOf, hlen]
  rw [hle] at W
  subst hI
  refine k _ _ _ _ _ _ _ _ W ⟨⟨.none, .none, ?_⟩, hat.push _⟩ (Keep.push _ _) ?_ ?_ ?_ ?_ ?_
  · rw [← hle]; exact Heap.get?_push_size _ rfl
  · intro b hb; rw [List.mem_singleton.mp hb]; exact fresh_size h
  · rintro i hp ⟨⟨ok, ov, h1⟩, _⟩ b hb
    rw [List.mem_singleton.mp hb]; exact ⟨_, h1⟩
  · rintro i T hp ⟨⟨ok, ov, h1⟩, _⟩ b hb
    rw [List.mem_singleton.mp hb]; exact ⟨_, h1⟩
  · intro b hb
    rcases List.mem_cons.mp hb with rfl | hb
    · exact .inl (.head _)
    · rw [List.mem_singleton.mp hb]
      obtain ⟨o, e, _⟩ := hl.1
      exact .inr ⟨o, e⟩
  · rintro i vs hi ⟨kk, key, v, h1, h2, rfl⟩
    obtain ⟨d, hd', hi'⟩ := hr.nth h1
    refine ⟨[.str kk, d], by unfold itemsOf; rw [List.getElem?_map, hd']; rfl, ?_⟩
    have : ∃ t, key = .str kk t := by
      cases key <;> simp [Value.isStrOf] at h2
      subst h2; exact ⟨_, rfl⟩
    obtain ⟨t, rfl⟩ := this
    exact .cons (.str _ _) (.cons hi' .nil)

def enumOf (ds : List D) : List (List D) := ds.zipIdx.map fun p => [.int (p.2 : Nat), p.1]
theorem enumOf_len (ds : List D) : (enumOf ds).length = ds.length := by simp [enumOf]
theorem enumOf_get {ds : List D} {i : Nat} {di : List D} (h : (enumOf ds)[i]? = some di) : ∃ d, ds[i]? = some d ∧ di = [.int (i : Nat), d] := by
  unfold enumOf at h
  rw [List.getElem?_map, Option.map_eq_some_iff] at h
  obtain ⟨p, hp, rfl⟩ := h
  rw [List.getElem?_zipIdx, Option.map_eq_some_iff] at hp
  obtain ⟨d, hd, rfl⟩ := hp
  exact ⟨d, hd, by simp⟩
/-- for k, x in enumerate(l) -/
theorem ForEnum_ {K : Frag} {es : List Expr} {k : Nat} {tp np cpos : Pos} {arg : Expr} {body orelse : List Stmt} {Q : Fl → Led → Prop} {names : List (Str × NameKind)} {L : Addr} {cs : List (Str × Addr)} (hΓ : Γ.K = K) (he : EnvI env names L cs) (hk : (Str.ofString "enumerate", NameKind.globalImplicit) ∈ names) (hm : nsIn K mainGlobals (Str.ofString "enumerate") = some none) (hb : bootBuiltins (Str.ofString "enumerate") = some (.type "enumerate")) (hx : Str.ofString "enumerate" ≠ Str.ofString "__name__")
    (h : Ev Γ n (eval arg env) (fun d u1 => ∃ (ds : List D) (I : Nat → Led → Prop), d = .list ds ∧ I 0 u1 ∧
      (∀ i di u2, ds[i]? = some di → I i u2 → On1 Γ (fun _ (_ _ : Unit) => True) n (fun v => assign (.Tuple es k tp) env v) (.tup [.int (i : Nat), di]) (fun _ u3 => Ex Γ n (execs body env) (Turn (I (i + 1)) Q) u3) u2) ∧
      (∀ u2, I ds.length u2 → Ex Γ n (execs orelse env) Q u2)) u)
    (hq : eval (.Call (.Name (Str.ofString "enumerate") np) [arg] [] cpos) env = (do let f ← eval (.Name (Str.ofString "enumerate") np) env; callWith cpos f [] (backTo cpos (starEach [arg] env)) (backToKw cpos (keywordEach [] env))) := by with_unfolding_all rfl)
    (hst : starEach [arg] env = [(false, eval arg env)] := by with_unfolding_all rfl)
    (hs : ∀ x, foldedSetIterable (.Call (.Name (Str.ofString "enumerate") np) [arg] [] cpos) env x = pure x := by intro _; with_unfolding_all rfl) : Ex Γ n (exec (.For (.Tuple es k tp) (.Call (.Name (Str.ofString "enumerate") np) [arg] [] cpos) body orelse pos) env) Q u := by
  refine ForW_ (fun a ho hu A dr os tk hA => ?_) hs
  refine PyProof.Rows.Call_ ((NameB_ (Q := fun d u' => d = .raw (.type "enumerate") ∧ u' = u) hΓ he hk hm hb hx ⟨rfl, rfl⟩ a ho hu).to hA fun b tk1 v d st ob r q => ?_) hq
  obtain ⟨rfl, hbu⟩ := q
  cases r
  rw [hst]
  refine callWith_of (P := fun _ => True) rfl (fun h _ => ⟨.machine, .inr (.inl rfl), Looks.of_pure rfl⟩) (evalArgs_plain (Calls.spliced_cons ((h b ob hbu).to hA fun c tk2 vl dl st2 oc r2 q2 => Calls.spliced_nil ⟨trivial, ?_⟩)))
  obtain ⟨ds, I, rfl, h0, turn, done⟩ := q2
  cases r2 with | list hl hr => ?_
  rename_i l vs m
  have hl' := oc.keep _ _ hl
  obtain ⟨cgs, cg, cu, ch⟩ := c
  have hL : ch.IsList l vs.toArray := ⟨_, hl', rfl, _, rfl⟩
  refine PySem.call_enumerate_list (s := sh ⟨cgs, cg, cu, ch⟩ dr tk2 os) hL fun h' hE hit hz hkk => ?_
  refine wpAny_pyIter_enum hE ?_
  have ne1 : l ≠ ch.objs.size + 1 := Nat.ne_of_lt (Nat.lt_succ_of_lt (Heap.lt_size hl'))
  have ne2 : l ≠ ch.objs.size := Nat.ne_of_lt (Heap.lt_size hl')
  have W := WalksT.enumerate (prog := Γ.prog) (w := Γ.w) (A := A) hA.1 (ch.objs.size + 1) ch.objs.size l (Nat.succ_ne_self _) ne1 ne2 vs.toArray
  have e : vs.toArray.size = (enumOf ds).length := by rw [List.size_toArray, hr.length, enumOf_len]
  rw [e] at W
  have fr : ∀ q, ch.objs.size ≤ q → ch.get? q = none := fun q hq => by
    cases z : ch.get? q with
    | none => rfl
    | some o => exact absurd (Heap.lt_size z) (Nat.not_lt.mpr hq)
  refine ⟨⟨cgs, cg, cu, ch⟩, enumOf ds, ch.objs.size + 1, _, _, _, _, _, h', tk2, I, rfl, rfl, st.trans st2, oc, ⟨W.frame, W.item, W.go, W.apart, W.done⟩, ⟨⟨_, hE⟩, hit, hL.at fun o e => hkk _ _ e⟩, hkk, ?_, ?_, ?_, ?_, h0, ?_, ?_⟩
  · intro q hq
    rcases List.mem_cons.mp hq with rfl | hq
    · exact fr _ (Nat.le_succ _)
    · rw [List.mem_singleton.mp hq]; exact fr _ (Nat.le_refl _)
  · rintro i hp ⟨⟨old, h1⟩, ⟨o, h2, _⟩, _⟩ q hq
    rcases List.mem_cons.mp hq with rfl | hq
    · exact ⟨_, h1⟩
    · rw [List.mem_singleton.mp hq]; exact ⟨_, h2⟩
  · intro q hq
    rcases List.mem_cons.mp hq with rfl | hq
    · exact .inl (.head _)
    · rcases List.mem_cons.mp hq with rfl | hq
      · exact .inl (.tail _ (.head _))
      · rw [List.mem_singleton.mp hq]; exact .inr ⟨_, hl⟩
  · rintro i vals hi ⟨t, y, h1, rfl⟩
    rw [enumOf_len] at hi
    obtain ⟨y', h2, h3⟩ := hr.get (List.getElem?_eq_getElem hi)
    have : vs[i]? = some y := by simpa using h1
    rw [this] at h2; cases h2
    refine ⟨[.int (i : Nat), ds[i]], ?_, .cons (.int _ _) (.cons h3 .nil)⟩
    unfold enumOf
    simp [List.getElem?_zipIdx, hi]
  · intro i di u2 hdi hI
    obtain ⟨d, hd, rfl⟩ := enumOf_get hdi
    exact turn i d u2 hd hI
  · intro u2 hI
    rw [enumOf_len] at hI
    exact done u2 hI
end
end Mine

namespace Mine
open PySem PySem.W PySem.Calls

def notIn (K : Frag) (T : Value) (C : Addr) : Bool := (clsIn K C).isSome && typeIn K (.ref C) == some (.type "type") && instIn K (.ref C) (.type "type") == some true && subIn K T (.ref C) == some false
theorem isi_tup_nested {K : Frag} {C a : Addr} {o : Obj} {dep : Int} {tk : Tok} {Q : Fin → Shared → Prop} {E : Value → Shared → Prop} {A : Around} {prog : Program} {w : World} {hh : Heap} {g : Array GenState} {d : Drawn} {tt : Nat} {os : OsState} (X : K.In hh) (hx : hh.get? a = some o) (hc : o.cls = .type "tuple") (e : notIn K (.type "tuple") C = true)
    (h : Q (.done (.ret (.bool false))) ⟨hh, g, d, tt + 1, os⟩) :
    wpAny (model prog w) A (Builtin.«isinstance.nested» ⟨[.ref a, .ref C, .int dep tk], []⟩) Q E ⟨hh, g, d, tt, os⟩ := by
  simp only [notIn, Bool.and_eq_true, beq_iff_eq] at e
  obtain ⟨⟨⟨e0, e1⟩, e2⟩, e3⟩ := e
  obtain ⟨cd, hcd⟩ := Option.isSome_iff_exists.mp e0
  have ht : Looks (model prog w) hh (typeOf (.ref a)) (.type "tuple") := hc ▸ (Looks.ld hx).andThen .now
  have L1 := looks_typeIn (M := model prog w) X e1
  have L2 := looks_instIn (M := model prog w) X e2
  have L4 := looks_subIn (M := model prog w) X e3
  have L3 : Looks (model prog w) hh (isInstance (.ref a) (.ref C)) false := ht.andThen L4
  unfold Builtin.«isinstance.nested»
  refine wpAny_bind (ht.at ?_)
  rw [if_neg (show ¬ ((Value.type "tuple" == Value.ref C) = true) from Bool.false_ne_true)]
  refine wpAny_bind (L1.at ?_)
  rw [if_pos (by decide)]
  k_delta "plainIsInstance"
  unfold isType
  repeat lk
  unfold clsIn at hcd
  split at hcd
  · rename_i ho
    refine nd_load (X _ _ ho) (nd_pure (wpAny_pure ?_))
    simp only [Bool.not_true, Bool.false_eq_true, if_false]
    refine wpAny_bind (L3.at ?_)
    simp only [Bool.false_eq_true, if_false]
    refine wpAny_bind (class_attr_tuple hx hc ?_)
    dsimp only
    refine wpAny_bind (wpAny_pure ?_)
    rw [if_neg (by decide)]
    refine wpAny_bind (wpAny_rule (L4.here (s := ⟨hh, g, d, tt + 1, os⟩) ?_))
    exact wpAny_pure h
  · cases hcd
section
variable {Γ : Cx} {n : Nat} {env : Env} {u : Led} {x : Str} {pos : Pos}
theorem isi_tupK {K : Frag} {C : Addr} {l : List D} {Q : D → Led → Prop} (hΓ : Γ.K = K) (hm : notIn K (.type "tuple") C = true) (hQ : Q (.bool false) u) :
    OnL Γ (Is Γ.w.params) n (fun vs => call (.builtin "isinstance") vs) [.tup l, .raw (.ref C)] Q u := by
  subst hΓ
  rintro s ho rfl vs hv A dr os tk hA
  cases hv with | cons h1 h2 => ?_
  cases h2 with | cons h2 h3 => ?_
  cases h3
  cases h2
  cases h1 with | tup e _ => ?_
  have e' := ho.keep _ _ e
  exact PySem.call_isinstance (S := fun _ R s' => (Γ.K.In s'.heap ∧ ∃ o, s'.heap.get? _ = some o ∧ o.cls = .type "tuple") ∧ R (.ok (.ret (.bool false))) { s' with toks := s'.toks + 1 })
    (fun _ _ _ _ s' hs => by
      obtain ⟨h, g, d, t, os⟩ := s'
      obtain ⟨⟨X, o, hx, hc⟩, hq⟩ := hs
      exact PySem.isinstance_outer (isi_tup_nested X hx hc hm hq)) ⟨⟨ho.K, _, e', rfl⟩, Out.same ho (.bool _) hQ⟩
end
end Mine

namespace Mine
open PySem PySem.W PySem.Calls

section
variable {Γ : Cx} {n : Nat} {env : Env} {u : Led} {x : Str} {pos : Pos}
theorem DictS.lo {P : Params} {h : Heap} {a : Addr} {kvs : List (Str × Value)} (x : DictS P h a kvs) : (a == sysModules) = false := by obtain ⟨o, _, _, _, e⟩ := x.1; exact e
theorem IsF.getD {P : Params} {g : Heap} {fs : List (Str × Value)} {ds : List (Str × D)} (h : IsF P g fs ds) (k : Str) {v : Value} {d : D} (i : Is P g v d) : Is P g ((valueAt fs k).getD v) ((valD ds k).getD d) := by
  rcases h.at k with ⟨v', d', h1, h2, h3⟩ | ⟨h1, h2⟩ <;> rw [h1, h2]
  · exact h3
  · exact i
theorem dgetC_ {ds : List (Str × D)} {k : Str} {Q : D → Led → Prop} (hQ : Q ((valD ds k).getD .none) u) : OnL Γ (Is Γ.w.params) n (fun vs => call (.builtin "dict.get") vs) [.dict ds, .str k] Q u := by
  rintro s ho rfl vs hv A dr os tk hA
  cases hv with | cons h1 h2 => ?_
  cases h2 with | cons h2 h3 => ?_
  cases h3
  cases h2 with | str _ t => ?_
  cases h1 with | dict hl hr => ?_
  have hl' := hl.at fun o e => ho.keep _ _ e
  have hd := hl'.2 Γ.prog Γ.w rfl
  exact PySem.call_meetsIn PySem.F.slot_dict_get hd.typeIs PySem.F.entry_dict_get (PySem.F.args_dict_get_2 _ _) (meets_dict_get (PySem.strKind Γ.prog Γ.w) _ (isStrOf_self k t) hl.lo) ⟨_, hd.mapOf, Out.same ho (hr.getD k .none) hQ⟩
theorem dgetMC_ {l : Addr} {ds : List (Str × D)} {k : Str} {Q : D → Led → Prop} (hL : (l, Ent.dict ds) ∈ u) (hQ : Q ((valD ds k).getD .none) u) : OnL Γ (Is Γ.w.params) n (fun vs => call (.builtin "dict.get") vs) [.raw (.ref l), .str k] Q u := by
  rintro s ho rfl vs hv A dr os tk hA
  cases hv with | cons h1 h2 => ?_
  cases h2 with | cons h2 h3 => ?_
  cases h3
  cases h2 with | str _ t => ?_
  cases h1
  obtain ⟨fs, hl, hr⟩ := (ho.ok _ hL).1
  have hd := hl.2 Γ.prog Γ.w rfl
  exact PySem.call_meetsIn PySem.F.slot_dict_get hd.typeIs PySem.F.entry_dict_get (PySem.F.args_dict_get_2 _ _) (meets_dict_get (PySem.strKind Γ.prog Γ.w) _ (isStrOf_self k t) hl.lo) ⟨_, hd.mapOf, Out.same ho (hr.getD k .none) hQ⟩
theorem dget3C_ {ds : List (Str × D)} {k : Str} {d : D} {Q : D → Led → Prop} (hQ : Q ((valD ds k).getD d) u) : OnL Γ (Is Γ.w.params) n (fun vs => call (.builtin "dict.get") vs) [.dict ds, .str k, d] Q u := by
  rintro s ho rfl vs hv A dr os tk hA
  cases hv with | cons h1 h2 => ?_
  cases h2 with | cons h2 h3 => ?_
  cases h3 with | cons h3 h4 => ?_
  cases h4
  cases h2 with | str _ t => ?_
  cases h1 with | dict hl hr => ?_
  have hl' := hl.at fun o e => ho.keep _ _ e
  have hd := hl'.2 Γ.prog Γ.w rfl
  exact PySem.call_meetsIn PySem.F.slot_dict_get hd.typeIs PySem.F.entry_dict_get (PySem.F.args_dict_get_3 _ _ _) (meets_dict_get_default (PySem.strKind Γ.prog Γ.w) (k := k) (key := .str k t) _ (isStrOf_self k t) hl.lo _) ⟨_, hd.mapOf, Out.same ho (hr.getD k h3) hQ⟩
theorem IsF.keysAll {P : Params} {g : Heap} : ∀ {fs : List (Str × Value)} {ds : List (Str × D)}, IsF P g fs ds → ∀ (vs : List Value), vs.length = fs.length → (∀ (j : Nat) (v : Value), vs[j]? = Option.some v → ∃ (k : Str) (x : Value), fs[j]? = Option.some (k, x) ∧ ∃ t : Tok, v = Value.str k t) → IsAll P g vs (ds.map fun p => .str p.1)
  | _, _, .nil, [], _, _ => .nil
  | _, _, .nil, v :: vs, h, _ => by simp at h
  | _, _, .cons a r, [], h, _ => by simp at h
  | _, _, .cons a r, v :: vs, h, k => by
    obtain ⟨k0, x0, e, t, rfl⟩ := k 0 v rfl
    simp at e
    obtain ⟨rfl, rfl⟩ := e
    exact .cons (.str _ t) (r.keysAll vs (by simpa using h) fun j u hu => by simpa using k (j + 1) u (by simpa using hu))
theorem listOfDict {ds : List (Str × D)} {Q : D → Led → Prop} (hz : ds.length ≤ sizeLine) (hQ : ∀ l, Q (.raw (.ref l)) ((l, .list (ds.map fun p => .str p.1)) :: u)) : OnL Γ (Is Γ.w.params) n (fun vs => call (.type "list") vs) [.dict ds] Q u := by
  rintro ⟨gs, g, uu, h⟩ ho hu vs hv A dr os tk hA
  obtain rfl : uu = u := hu
  cases hv with | cons h1 h2 => ?_
  cases h2
  cases h1 with | dict hl hr => ?_
  rename_i a fs
  have hl' := hl.at fun o e => ho.keep _ _ e
  have hd := hl'.2 Γ.prog Γ.w rfl
  obtain ⟨ep, hat⟩ := hd.dictAt
  refine kdl_call (s := sh ⟨gs, g, uu, h⟩ dr tk os) (kdl_dict (knd := PySem.strKind Γ.prog Γ.w) (kvs := fs) (ep := ep) hl.lo) hA.1 hat (by rw [hr.length]; exact hz) fun h' tk' acc' c' hk hD hacc => ?_
  refine listNew_ (vs := acc'.toList) (c := c') ho hk (by rw [Array.toArray_toList]; exact hD) ?_ hQ
  exact hr.keysAll _ (by rw [Array.length_toList]; exact hacc.1) fun j v e => by
    obtain ⟨k, x, hx, hk⟩ := hacc.2 j v (by rw [← Array.getElem?_toList]; exact e)
    exact ⟨k, x, hx, Value.isStrOf_shape hk⟩
theorem OnL.frzL {t : List Value → Sem Value} {ds : List D} {Q : D → Led → Prop} (h : OnL Γ (Is Γ.w.params) n t ds (fun d u' => ∃ x es u1, d = .raw (.ref x) ∧ Del u' x (.list es) u1 ∧ Q (.list es) u1) u) : OnL Γ (Is Γ.w.params) n t ds Q u := by
  rintro a ho rfl vs hv A dr os tk hA
  refine (h a ho rfl vs hv).to hA fun b tk v d st ob r q => ?_
  obtain ⟨x, es, u1, rfl, d1, q⟩ := q
  cases r
  obtain ⟨bgs, bg, bu, bh⟩ := b
  obtain ⟨g', o', st', i⟩ := ob.frz (gs := bgs) d1 .list
  exact ⟨⟨bgs, g', u1, bh⟩, tk, _, rfl, st.trans st', o', i, q⟩
theorem listOfListF {ds : List D} {Q : D → Led → Prop} (hz : ds.length ≤ sizeLine) (hQ : Q (.list ds) u) : OnL Γ (Is Γ.w.params) n (fun vs => call (.type "list") vs) [.list ds] Q u :=
  OnL.frzL (listOfList hz fun l => ⟨l, _, _, rfl, .here, hQ⟩)
theorem listOfDictF {ds : List (Str × D)} {Q : D → Led → Prop} (hz : ds.length ≤ sizeLine) (hQ : Q (.list (ds.map fun p => .str p.1)) u) : OnL Γ (Is Γ.w.params) n (fun vs => call (.type "list") vs) [.dict ds] Q u :=
  OnL.frzL (listOfDict hz fun l => ⟨l, _, _, rfl, .here, hQ⟩)
end
end Mine

namespace Mine
open PySem PySem.W PySem.Calls

section
variable {prog : Program} {w : World} {A : Around} {E : Value → Shared → Prop} {s : Shared}
/-- a dict without entries -/
def EmptyD (h : Heap) (a : Addr) : Prop := ∃ o ep, h.get? a = some o ∧ o.cls = .type "dict" ∧ o.data = .dict #[] ep
theorem DictS.empty {P : Params} {h : Heap} {a : Addr} {prog : Program} {w : World} (hP : w.params = P) (x : DictS P h a []) : EmptyD h a := by
  obtain ⟨ep, o, es, ho, hc, hd, hk, hp, hn⟩ := (x.2 prog w hP).dictAt
  have : es = #[] := by
    have := hp.length
    simp at this
    simpa using this
  subst this
  exact ⟨o, ep, ho, hc.1, hd⟩
theorem merge_empty {d a : Addr} {Q : Unit → Shared → Prop} (hd : EmptyD s.heap d) (ha : EmptyD s.heap a) (lo : (a == sysModules) = false) (h : Q () s) : wpAny (model prog w) A (mergeMapping d (.ref a) true) Q E s := by
  obtain ⟨od, ed, hod, hcd, hdd⟩ := hd
  obtain ⟨oa, ea, hoa, hca, hda⟩ := ha
  have hT : s.TypeIs (.ref a) "dict" := ⟨oa, hoa, hca⟩
  unfold mergeMapping
  refine wpAny_bind (wpAny_isInstance (T := "dict") (b := true) hT (by rw [isSubtype_type]; kernel_rfl) ?_)
  rw [if_pos rfl]
  refine wpAny_bind (wpAny_specialOf hT PySem.F.slot_dict_iter.lookup ?_)
  refine wpAny_bind (wpAny_pure ?_)
  rw [show ((some (Value.builtin "dict.__iter__") == some (Value.builtin "dict.__iter__")) = true) from by decide]
  dsimp only
  rw [if_neg (by rw [lo]; exact Bool.false_ne_true)]
  refine wpAny_bind (wpAny_dictEntries hod hdd ?_)
  rw [if_pos (by rfl)]
  refine wpAny_bind (wpAny_dictEntries hoa hda ?_)
  refine wpAny_bind ?_
  show wpAny _ _ (pure _) _ _ _
  refine wpAny_pure ?_
  refine wpAny_bind (wpAny_dictEntries hoa hda ?_)
  refine wpAny_bind (wpAny_dictEpoch hoa hda ?_)
  refine wpAny_bind ?_
  show wpAny _ _ (pure _) _ _ _
  refine wpAny_pure ?_
  exact wpAny_pure h
theorem merged_empty {f : Value} {t : Sem Value} {Q : Addr → Shared → Prop}
    (h : wpAny (model prog w) A t (fun v s' => ∃ a, v = .ref a ∧ EmptyD s'.heap s.heap.objs.size ∧ EmptyD s'.heap a ∧ (a == sysModules) = false ∧ Q s.heap.objs.size s') (fun _ _ => False) { s with heap := s.heap.push { cls := .type "dict", data := .dict #[] } }) :
    wpAny (model prog w) A (mergedKeywords f [(none, t)]) Q E s := by
  unfold mergedKeywords
  refine wpAny_bind (wpAny_alloc ?_)
  refine wpAny_bind (wpAny_holding ?_)
  dsimp only
  refine wpAny_bind ?_
  rw [List.forIn_cons]
  dsimp only
  rw [if_pos (by rfl)]
  refine wpAny_bind ?_
  refine wpAny_bind (wpAny_pure ?_)
  refine wpAny_bind (wpAny_mono h (fun v s' q => ?_) (fun _ _ x => x.elim))
  obtain ⟨a, rfl, hd, ha, lo, hq⟩ := q
  refine wpAny_bind (wpAny_onRaise (wpAny_holding (wpAny_tryCatch (wpAny_onRaise (merge_empty hd ha lo ?_)))))
  refine wpAny_pure ?_
  dsimp only
  rw [List.forIn_nil]
  refine wpAny_pure ?_
  rw [if_pos (by rfl)]
  refine wpAny_pure ?_
  exact wpAny_pure hq
theorem keywords_empty {f : Value} {d : Addr} {Q : List (Str × Value) → Shared → Prop} (hd : EmptyD s.heap d) (h : Q [] s) : wpAny (model prog w) A (keywordsIn f d) Q E s := by
  obtain ⟨o, ep, ho, hc, hdd⟩ := hd
  unfold keywordsIn
  refine wpAny_bind (wpAny_dictEntries ho hdd ?_)
  refine wpAny_bind ?_
  show wpAny _ _ (pure _) _ _ _
  exact wpAny_pure (wpAny_pure h)
theorem evalArgs_star {f : Value} {x t : Sem Value} {rest : List (Bool × Sem Value)} {Q : Args → Shared → Prop}
    (h : wpAny (model prog w) A (spliced ((false, x) :: rest)) (fun vs s' => wpAny (model prog w) A t (fun v s2 => ∃ a, v = .ref a ∧ EmptyD s2.heap s'.heap.objs.size ∧ EmptyD s2.heap a ∧ (a == sysModules) = false ∧ Q ⟨vs, []⟩ s2) (fun _ _ => False) { s' with heap := s'.heap.push { cls := .type "dict", data := .dict #[] } }) E s) :
    wpAny (model prog w) A (evalArgs f true ((false, x) :: rest) [(none, t)]) Q E s := by
  unfold evalArgs
  refine wpAny_bind (wpAny_mono h (fun vs s' q => ?_) (fun _ _ x => x))
  refine wpAny_bind (wpAny_pure ?_)
  dsimp only
  refine wpAny_holding ?_
  rw [if_neg (by simp)]
  refine wpAny_bind (merged_empty (wpAny_mono q (fun v s2 q => ?_) (fun _ _ x => x)))
  obtain ⟨a, rfl, hd, ha, lo, hq⟩ := q
  refine ⟨a, rfl, hd, ha, lo, ?_⟩
  refine wpAny_bind (wpAny_pure ?_)
  refine wpAny_bind (wpAny_holding (keywords_empty hd ?_))
  exact wpAny_pure hq
end
end Mine

namespace Mine
open PySem PySem.W PySem.Calls

section
variable {M : Model} {A : Around} {E : Value → Shared → Prop} {s : Shared} {pos : Pos} {f : Value} {first : List Value} {Q : Value → Shared → Prop}
theorem callWith_kw {P : Heap → Prop} {args : List (Bool × Sem Value)} {kws : List (Option Str × Sem Value)} (hst : (args.any (·.1) || kws.any (·.1.isNone)) = true)
    (hk : ∀ h, P h → ∃ k, (k = Keeper.frame ∨ k = Keeper.machine ∨ k = Keeper.boundFrame) ∧ Looks M h (keeperOf f) k)
    (h : wpAny M A (evalArgs f true args kws) (fun a s₁ => P s₁.heap ∧ wpAny M A (call f (first ++ a.pos) a.kw) Q E s₁) E s) : wpAny M A (callWith pos f first args kws) Q E s := by
  unfold callWith
  refine wpAny_bind (wpAny_holding (wpAny_mono h (fun a s₁ h₁ => wpAny_bind (wpAny_standAt ?_)) fun _ _ x => x))
  obtain ⟨k, hk', L⟩ := hk _ h₁.1
  rw [hst]
  refine wpAny_bind (L.here ?_)
  have fin : ∀ {t : Sem Value}, wpAny M A t Q E s₁ → wpAny M A (t >>= fun r => holding [r] point >>= fun _ => pure r) Q E s₁ :=
    fun ht => wpAny_bind (wpAny_mono ht (fun r s₂ hr => wpAny_bind (wpAny_holding (wpAny_point (wpAny_pure hr)))) fun _ _ x => x)
  have mk (m : Value) : wpAny M A (callMarked m f (first ++ a.pos) a.kw) Q E s₁ := by unfold callMarked; exact Calls.wpAny_keep h₁.2
  rcases hk' with rfl | rfl | rfl <;> dsimp only <;> first | exact fin (mk _) | exact fin (wpAny_operating h₁.2)
end

section
variable {Γ : Cx} {n : Nat} {env : Env} {u : Led} {x : Str} {pos : Pos}
/-- C.name(e, **x), where x has no entry -/
theorem CallStar_ {K : Frag} {o e x : Expr} {name : Str} {apos kp : Pos} {C f : Addr} {mc : Value} {Q : D → Led → Prop} (hΓ : Γ.K = K) (hr : readsIn K C mc = true) (hf : findCls K (.ref C) mc name = some (.val (.ref f))) (hh : handedIn (.ref f) = true) (hk : keepIn K (.ref f) = true)
    (h : Ev Γ n (eval o env) (fun d u1 => d = .raw (.ref C) ∧ Ev Γ n (eval e env) (fun d1 u2 => Ev Γ n (eval x env) (fun d2 u3 => d2 = .dict [] ∧ OnL Γ (Is Γ.w.params) n (fun vs => call (.ref f) vs) [d1] Q u3) u2) u1) u)
    (hq : eval (.Call (.Attribute o name apos) [e] [⟨none, x, kp⟩] pos) env = (do
          let ov ← eval o env
          standAt apos.atName
          let (f, first) ← holding [ov] (do pure (← getAttr ov name true, []))
          callWith pos f first [(false, eval e env)] [(none, do let v ← eval x env; standAt pos; pure v)]) := by with_unfolding_all rfl) :
    Ev Γ n (eval (.Call (.Attribute o name apos) [e] [⟨none, x, kp⟩] pos) env) Q u := by
  subst hΓ
  rintro a ho rfl A dr os tk hA
  rw [hq]
  refine wpAny_bind ((h a ho rfl).to hA fun b tk v d st ob r q => ?_)
  obtain ⟨rfl, q⟩ := q
  cases r
  refine wpAny_bind (wpAny_standAt ?_)
  refine wpAny_bind (wpAny_holding (wpAny_bind (cls_value (s := sh b dr tk os) ob.K hr hf hh (wpAny_pure ?_))))
  refine callWith_kw (P := fun h => Γ.K.In h) rfl (fun h X => keeps_K hk h X) (evalArgs_star ?_)
  refine spliced_cons ((q b ob rfl).to hA fun c tk v1 d1 st1 oc r1 q1 => spliced_nil ?_)
  obtain ⟨cgs, cg, cu, ch⟩ := c
  have kp : Keep ch (ch.push { cls := .type "dict", data := .dict #[] }) := Keep.push ch _
  have og := oc.grow kp
  have stg : Step ⟨cgs, cg, cu, ch⟩ ⟨cgs, cg, cu, ch.push { cls := .type "dict", data := .dict #[] }⟩ := ⟨.refl _, .refl _, fun q o e nq => ⟨kp _ _ e, nq, id⟩⟩
  have e2 := Heap.get?_push_size ch (o := { cls := .type "dict", data := .dict #[] }) rfl
  have hnew : ch.objs.size ∉ cu.map (·.1) := fun hm => Nat.lt_irrefl _ (oc.lt _ hm)
  refine wpAny_bind (Wg.to (a := ⟨cgs, cg, cu, ch.push { cls := .type "dict", data := .dict #[] }⟩) (q1 _ og rfl) hA (dr := dr) (os := os) (tk := tk) fun c2 tk v2 d2 st2 oc2 r2 q2 => wpAny_bind (wpAny_standAt (wpAny_pure ?_)))
  obtain ⟨rfl, q2⟩ := q2
  cases r2 with | dict hD hF => ?_
  cases hF
  rename_i aD
  have hD' := hD.at (fun _ e => oc2.keep _ _ e)
  refine ⟨aD, rfl, ?_, DictS.empty (prog := Γ.prog) (w := Γ.w) rfl hD', hD.lo, oc2.K, ?_⟩
  · exact ⟨_, _, (st2.fram _ _ e2 hnew).1, rfl, rfl⟩
  · exact (q2 c2 oc2 rfl [v1] (.cons (r1.keep st2.keep) .nil)).to hA fun e3 tk v3 d3 st3 oe3 r3 q3 => ⟨e3, tk, d3, rfl, (((st.trans st1).trans stg).trans st2).trans st3, oe3, r3, q3⟩
end
end Mine

namespace Mine
open PySem PySem.W PySem.Calls

section
variable {Γ : Cx} {n : Nat} {env : Env} {u : Led} {x : Str} {pos : Pos}
/-- assert, where the test holds -/
theorem Assert_ {t : Expr} {msg : Option Expr} {Q : Fl → Led → Prop} (h : Ts Γ n (PySem.isTrue t env (eval t env)) (fun c u1 => c = true ∧ Q .next u1) u) : Ex Γ n (exec (.Assert t msg pos) env) Q u := by
  rintro a ho rfl A dr os tk hA
  refine wpAny_Assert_holds ((h a ho rfl).to hA fun b tk v d st ob r q => ?_)
  subst r
  exact ⟨q.1, b, tk, .next, rfl, st, ob, .next, q.2⟩

/-- o[i] as a target -/
theorem asgSub_ {o i : Expr} {p : Pos} {dv : D} {Q : Unit → Led → Prop}
    (h : Ev Γ n (eval o env) (fun d_o u2 => Ev Γ n (eval i env) (fun di u3 => OnL Γ (fun _ (_ _ : Unit) => True) n (fun vs => match vs with | [a, b, c] => setItem a b c | _ => unsupported "") [d_o, di, dv] Q u3) u2) u) :
    On1 Γ (fun _ (_ _ : Unit) => True) n (fun v => assign (.Subscript o i p) env v) dv Q u := by
  rintro a ho rfl v hv A dr os tk hA
  show wpAny _ _ (assign (.Subscript o i p) env v) _ _ _
  rw [assign_Subscript]
  refine wpAny_bind (wpAny_holding ((h a ho rfl).to hA fun c tk v2 d2 st2 oc r2 q2 => ?_))
  refine wpAny_bind (wpAny_holding ((q2 c oc rfl).to hA fun b3 tk v3 d3 st3 ob3 r3 q3 => ?_))
  refine wpAny_bind (wpAny_standAt (wpAny_bind (wpAny_holding ?_)))
  exact (q3 b3 ob3 rfl [v2, v3, v] (.cons (r2.keep st3.keep) (.cons r3 (.cons (hv.keep (st2.keep.trans st3.keep)) .nil)))).to hA fun b4 tk v4 d4 st4 ob4 r4 q4 => wpAny_release ⟨b4, tk, (), rfl, (st2.trans st3).trans st4, ob4, trivial, q4⟩

/-- two targets -/
theorem Assign2_ {t₁ t₂ e : Expr} {Q : Fl → Led → Prop}
    (h : Ev Γ n (eval e env) (fun d u1 => On1 Γ (fun _ (_ _ : Unit) => True) n (fun v => assign t₁ env v) d (fun _ u2 => On1 Γ (fun _ (_ _ : Unit) => True) n (fun v => assign t₂ env v) d (fun _ u3 => Q .next u3) u2) u1) u)
    (he : (assignEach [t₁, t₂] env).map (·.2) = [assign t₁ env, assign t₂ env] := by with_unfolding_all rfl)
    (hw : swappedStores [t₁, t₂] e env = pure none := by with_unfolding_all rfl) : Ex Γ n (exec (.Assign [t₁, t₂] e pos) env) Q u := by
  rintro a ho rfl A dr os tk hA
  refine wpAny_Assign_two ((h a ho rfl).to hA fun b tk v d st ob r q => ?_) he hw
  refine (q b ob rfl v r).to hA fun c tk v2 d2 st2 oc r2 q2 => ?_
  exact (q2 c oc rfl v (r.keep st2.keep)).to hA fun b3 tk v3 d3 st3 ob3 r3 q3 => ⟨b3, tk, .next, rfl, (st.trans st2).trans st3, ob3, .next, q3⟩

/-- type(x) -/
theorem typeOfD {d : D} {T : String} {Q : D → Led → Prop} (i : IsA d T) (hn : (Value.type T == Value.type "builtin_function_or_method") = false) (hQ : Q (.raw (.type T)) u) : OnL Γ (Is Γ.w.params) n (fun vs => call (.type "type") vs) [d] Q u := by
  rintro a ho rfl vs hv A dr os tk hA
  cases hv with | cons h1 hv => ?_
  cases hv
  exact call_type_of (i.typeIs ho h1) hn (Out.same ho (.raw _) hQ)
theorem typeOfI {d : D} {C : Addr} {ds : List (Str × D)} {Q : D → Led → Prop} (i : InstD u d C ds) (hQ : Q (.raw (.ref C)) u) : OnL Γ (Is Γ.w.params) n (fun vs => call (.type "type") vs) [d] Q u := by
  rintro a ho rfl vs hv A dr os tk hA
  cases hv with | cons h1 hv => ?_
  cases hv
  obtain ⟨x, da, es, m, rfl, I, hE⟩ := i.at ho h1
  have e := I.cls
  exact PyProof.Rows.call_type_obj (h := a.h) (g := a.gs) (d := dr) (t := tk) (os := os) I.at_ (by rw [e]; rfl) (by rw [e]; exact Out.same ho (.raw _) hQ)
theorem isT_ {T : String} {Q : D → Led → Prop} (hQ : Q (.bool true) u) : On2 Γ (Is Γ.w.params) n (compareOp .Is) (.raw (.type T)) (.raw (.type T)) Q u := by
  rintro a ho rfl v y hv hy A dr os tk hA
  cases hv; cases hy
  show wpAny _ _ (pure (Value.bool (Value.type T == Value.type T))) _ _ _
  rw [show (Value.type T == Value.type T) = true from beq_self_eq_true _]
  exact wpAny_pure (Out.same ho (.bool _) hQ)
theorem isR_ {r : Addr} {Q : D → Led → Prop} (hQ : Q (.bool true) u) : On2 Γ (Is Γ.w.params) n (compareOp .Is) (.raw (.ref r)) (.raw (.ref r)) Q u := by
  rintro a ho rfl v y hv hy A dr os tk hA
  cases hv; cases hy
  show wpAny _ _ (do return Value.bool (← isSame (.ref r) (.ref r))) _ _ _
  unfold isSame
  dsimp only
  rw [if_pos (beq_self_eq_true r)]
  exact wpAny_bind (wpAny_pure (wpAny_pure (Out.same ho (.bool _) hQ)))

theorem lenT {ds : List D} {Q : D → Led → Prop} (hz : ds.length < 2 ^ 62) (hQ : Q (.int ds.length) u) : OnL Γ (Is Γ.w.params) n (fun vs => call (.builtin "len") vs) [.tup ds] Q u := by
  rintro a ho rfl vs hv A dr os tk hA
  cases hv with | cons h1 hv => ?_
  cases hv
  cases h1 with | tup e hr => ?_
  have hl := hr.length
  refine PyProof.Rows.len_tuple ⟨_, ho.keep _ _ e, rfl, _, rfl⟩ (by simp; omega) ?_
  exact ⟨a, _, _, rfl, .refl a, ho, by rw [show ((List.toArray _).size : Int) = (ds.length : Int) from by simp [hl]]; exact .int _ _, hQ⟩

theorem inT_ {ds : List D} {ps : List PyData} {d : D} {p : PyData} {Q : D → Led → Prop} (hd : Dts ds ps) (he : Dt d p) (h1 : PyData.canLayAll0 ps = true) (h2 : p.canLay0 = true) (h3 : p.depth ≤ 100)
    (hQ : Q (.bool (ps.any fun y => PyData.eqv y p)) u) : On2 Γ (Is Γ.w.params) n (compareOp .In) d (.tup ds) Q u := by
  rintro a ho rfl v y hv hy A dr os tk hA
  obtain ⟨as, r1⟩ := (Dt.tup hd).reads ho.keep hy
  obtain ⟨bs, r2⟩ := he.reads ho.keep hv
  refine SeqAt.in_tuple_reads r1 r2 h1 h2 ?_ (Out.same ho (.bool _) hQ)
  have := hA.2.2
  have : min (PyData.depthAll ps) p.depth ≤ p.depth := Nat.min_le_right _ _
  show _ < 9900
  omega
end
theorem bind4 {P : Params} {X : Shared → Prop} {Z : Heap → Prop} {fd : FuncData} {x y z w : Str} {d e f k : D} (h : ∀ s a b c c', BindsTo s fd ⟨[a, b, c, c'], []⟩ [(x, a), (y, b), (z, c), (w, c')]) : ∀ (s : Shared) (g : Heap) (vs : List Value), X s → Z g → IsAll P g vs [d, e, f, k] → ∃ fs, BindsTo s fd ⟨vs, []⟩ fs ∧ IsF P g fs [(x, d), (y, e), (z, f), (w, k)] := by
  intro s g vs _ _ hv
  cases hv with | cons h1 hv => ?_
  cases hv with | cons h2 hv => ?_
  cases hv with | cons h3 hv => ?_
  cases hv with | cons h4 hv => ?_
  cases hv
  exact ⟨_, h s _ _ _ _, .cons h1 (.cons h2 (.cons h3 (.cons h4 .nil)))⟩
end Mine

namespace Mine
open PySem PySem.W PySem.Calls

section
variable {Γ : Cx} {n : Nat} {env : Env} {u : Led} {x : Str} {pos : Pos}
theorem truthyD {ds : List (Str × D)} {Q : Bool → Led → Prop} (hz : (ds.length : Int) < 2 ^ 63) (hQ : Q (!ds.isEmpty) u) : On1 Γ (fun _ (x y : Bool) => x = y) n truthy (.dict ds) Q u := by
  rintro a ho rfl v hv A dr os tk hA
  cases hv with | dict h hF => ?_
  rename_i aD fs
  have h' := h.at (fun _ e => ho.keep _ _ e)
  have hl : fs.length = ds.length := hF.length
  refine wpAny_truthy_dict (s := sh a dr tk os) h.lo (h'.2 Γ.prog Γ.w rfl) (by rw [hl]; exact hz) ?_
  have e : fs.isEmpty = ds.isEmpty := by cases fs <;> cases ds <;> simp_all
  rw [e]
  exact ⟨a, _, _, rfl, .refl a, ho, rfl, hQ⟩
end
end Mine

namespace Mine
open PySem PySem.W PySem.Calls

/-- a run of a generator's text up to where it next comes to rest -/
def SegP (M : Model) (A : Around) (Φ : End → Shared → Prop) (c : Code) (t : Sem Fin) (fs : List Frame) (s : Shared) : Prop :=
  ∀ Γ p, Γ.code = c → Γ.Woken A → ∃ e s', Runs M Γ p t fs s e s' ∧ Φ e s'
def GoesP (M : Model) (A : Around) (Φ : End → Shared → Prop) (gs : GenState) (s : Shared) : Prop := match gs with
  | .fresh c => SegP M A Φ c (M.den c) [] s
  | .suspended k _ c _ fs _ => SegP M A Φ c (k (.send .none)) fs s
  | _ => False

section
variable {M : Model} {A : Around} {Φ : End → Shared → Prop} {c : Code} {fs : List Frame} {s : Shared}
theorem segP_wrap {α : Type} {m : Sem α} {K : α → Sem Fin} {H : Value → Sem Fin} {gd lv} (h : wpAny M (A.over c fs) m (fun a s' => SegP M A Φ c (K a) fs s') (fun x s' => SegP M A Φ c (H x) fs s') s) : SegP M A Φ c (m.wrap K H gd lv) fs s := by
  rintro Γ p rfl hΓ
  exact runs_wrap_of_wp K H gd lv m (h (Γ.over fs) p (hΓ.over fs)) (fun a p' s' q => q Γ p' rfl hΓ) (fun x p' s' q => q Γ p' rfl hΓ)
theorem segP_at {q : Pos} {k : Unit → Sem Fin} (h : SegP M A Φ c (k ()) fs s) : SegP M A Φ c (.at q k) fs s :=
  segP_wrap (m := standAt q) (K := k) (H := .raise) (gd := id) (lv := id) (wpAny_standAt h)
theorem segP_point {l : List Value} {k : Unit → Sem Fin} (h : SegP M A Φ c (k ()) fs s) : SegP M A Φ c (.point l k) fs s :=
  segP_wrap (m := point) (K := k) (H := .raise) (gd := id) (lv := fun _ => l) (wpAny_point h)
theorem segP_call {c' : Code} {h g l} {k : Result → Sem Fin} (hc : ∀ p, SegP M A Φ c' (M.den c') (.ret k h g l c p [] :: fs) s) : SegP M A Φ c (.call c' h g l k) fs s := by
  rintro Γ p rfl hΓ
  obtain ⟨e, s', hr, he⟩ := hc p (Γ.goto c') p rfl (hΓ.goto c')
  exact ⟨e, s', runs_call_seg hr, he⟩
theorem segP_leaf {k h g l c₁ p₁ kp} (r : Result) (hk : SegP M A Φ c₁ (k r) fs s) : SegP M A Φ c (leafOf r) (.ret k h g l c₁ p₁ kp :: fs) s := by
  rintro Γ p rfl hΓ
  obtain ⟨e, s', hr, he⟩ := hk (Γ.goto c₁) p₁ rfl (hΓ.goto c₁)
  exact ⟨e, s', Runs.pop r hr, he⟩
theorem segP_again {c' : Code} (hq : c'.quiet = true) (hc : SegP M A Φ c' (M.den c') fs s) : SegP M A Φ c (.pure (.again c')) fs s := by
  rintro Γ p rfl hΓ
  obtain ⟨e, s', hr, he⟩ := hc (Γ.goto c') p rfl (hΓ.goto c')
  exact ⟨e, s', Runs.head (c₁ := c') (fun _ _ x => .again hq x) hr, he⟩
theorem segP_end (r : Result) (h : Φ (.ret r) s) : SegP M A Φ c (leafOf r) [] s := by
  rintro Γ p rfl _
  exact ⟨.ret r, s, Runs.leaf r, h⟩
theorem segP_yield {v g l} {k : Resume → Sem Fin} (hfs : splitAtGen fs = none) (h : ∀ p, Φ (.susp v g l k c p fs) s) : SegP M A Φ c (.yield v g l k) fs s := by
  rintro Γ p rfl _
  exact ⟨_, s, Runs.yield' fs hfs, h p⟩
end

/-- the room in a generator's frames -/
theorem okFrames {n : Nat} {A : Around} {c c' : Code} {k : Result → Sem Fin} {g : Bool} {l : List Value} {p : Pos} {kp : List Value} {fs : List Frame} (h : Ok n (A.over c fs)) (hw : c'.weight = 0) (hu : c'.cUnits = 0) : Ok n (A.over c' (.ret k none g l c p kp :: fs)) := by
  obtain ⟨h1, h2, h3⟩ := h
  refine ⟨h1, ?_, ?_⟩
  · simp only [Around.over, List.map_cons, Frame.where_, frameCount_cons] at h2 ⊢
    omega
  · simp only [Around.over, List.map_cons, Frame.where_, unitsOf_cons] at h3 ⊢
    omega
theorem okSwap {n : Nat} {A : Around} {c c' : Code} {fs : List Frame} (h : Ok n (A.over c fs)) (hw : c'.weight = 0) (hu : c'.cUnits = 0) : Ok n (A.over c' fs) := by
  obtain ⟨h1, h2, h3⟩ := h
  refine ⟨h1, ?_, ?_⟩
  · simp only [Around.over] at h2 ⊢
    omega
  · simp only [Around.over] at h3 ⊢
    omega
theorem okFunc {n : Nat} {A : Around} {c : Code} (h : Ok (n + 1) A) (hw : c.weight ≤ 4) (hu : c.cUnits ≤ 30) : Ok n (A.over c []) := by
  obtain ⟨h1, h2, h3⟩ := h
  refine ⟨h1, ?_, ?_⟩
  · simp only [Around.over, List.map_nil]
    show A.depth + 0 + c.weight + _ ≤ _
    omega
  · simp only [Around.over, List.map_nil]
    show A.units + 0 + c.cUnits + _ ≤ _
    omega

/-- what a generator still tells, and what it owns -/
def Ready (Γ : Cx) (A : Around) (Qe : Led → Prop) : List D → Led → GenState → Prop
  | [] => fun G gs => ∀ (a : Sg) dr os tk, Own Γ a.g a.u a.h → a.u = G → GoesP (model Γ.prog Γ.w) A (fun e s' => e = .ret (.ok (.ret .none)) ∧ ∃ b tk', s' = sh b dr tk' os ∧ Step a b ∧ Own Γ b.g b.u b.h ∧ Qe b.u) gs (sh a dr tk os)
  | d :: r => fun G gs => ∀ (a : Sg) dr os tk, Own Γ a.g a.u a.h → a.u = G → GoesP (model Γ.prog Γ.w) A (fun e s' => ∃ b tk' v g l k c p fs, e = .susp v g l k c p fs ∧ e.quiet = true ∧ s' = sh b dr tk' os ∧ Step a b ∧ Own Γ b.g b.u b.h ∧ Is Γ.w.params b.g v d ∧ Ready Γ A Qe r b.u e.genState) gs (sh a dr tk os)
def EndOk (Γ : Cx) (A : Around) (Qe : Led → Prop) (items : List D) (a : Sg) (dr : Drawn) (os : OsState) (e : End) (s' : Shared) : Prop := match items with
  | [] => e = .ret (.ok (.ret .none)) ∧ ∃ b tk', s' = sh b dr tk' os ∧ Step a b ∧ Own Γ b.g b.u b.h ∧ Qe b.u
  | d :: r => ∃ b tk' v g l k c p fs, e = .susp v g l k c p fs ∧ e.quiet = true ∧ s' = sh b dr tk' os ∧ Step a b ∧ Own Γ b.g b.u b.h ∧ Is Γ.w.params b.g v d ∧ Ready Γ A Qe r b.u e.genState
theorem ready_iff {Γ : Cx} {A : Around} {Qe : Led → Prop} {items : List D} {G : Led} {gs : GenState} : Ready Γ A Qe items G gs ↔ ∀ (a : Sg) dr os tk, Own Γ a.g a.u a.h → a.u = G → GoesP (model Γ.prog Γ.w) A (EndOk Γ A Qe items a dr os) gs (sh a dr tk os) := by
  cases items <;> exact Iff.rfl

/-- the walk of a generator's text: from the ledger u the items are told, one behind the other -/
def SL (Γ : Cx) (A : Around) (Qe : Led → Prop) (J : Sg → Sg → Prop) (items : List D) (c : Code) (t : Sem Fin) (fs : List Frame) (u : Led) : Prop :=
  ∀ (a₀ a : Sg) dr os tk, Step a₀ a → Own Γ a.g a.u a.h → a.u = u → J a₀ a → SegP (model Γ.prog Γ.w) A (EndOk Γ A Qe items a₀ dr os) c t fs (sh a dr tk os)
/-- what the walk's own steps keep -/
def Stable (Γ : Cx) (J : Sg → Sg → Prop) : Prop := ∀ a₀ a b, J a₀ a → Own Γ a.g a.u a.h → Step a b → Own Γ b.g b.u b.h → J a₀ b
abbrev JT : Sg → Sg → Prop := fun _ _ => True
theorem JT.stable {Γ : Cx} : Stable Γ JT := fun _ _ _ _ _ _ _ => trivial

section
variable {Γ : Cx} {n : Nat} {env : Env} {u : Led} {x : Str} {pos : Pos} {A : Around} {Qe : Led → Prop} {J : Sg → Sg → Prop} {items : List D} {c : Code} {fs : List Frame} {K : Flow → Sem Fin} {H : Value → Sem Fin} {gd : Bool → Bool} {lv : List Value → List Value}

theorem SL.of {J' : Sg → Sg → Prop} {t : Sem Fin} (h : SL Γ A Qe JT items c t fs u) : SL Γ A Qe J' items c t fs u :=
  fun a₀ a dr os tk st ow e _ => h a₀ a dr os tk st ow e trivial
theorem SL.up {J' : Sg → Sg → Prop} {t : Sem Fin} (hJ : ∀ a₀ a, J' a₀ a → J a₀ a) (h : SL Γ A Qe J items c t fs u) : SL Γ A Qe J' items c t fs u :=
  fun a₀ a dr os tk st ow e j => h a₀ a dr os tk st ow e (hJ _ _ j)

theorem sl_do {α : Type} {R : Heap → α → α → Prop} {m : Sem α} {KK : α → Sem Fin} (hA : Ok n (A.over c fs)) (hJ : Stable Γ J)
    (h : WL Γ (fun _ (x y : α) => x = y) n m (fun y u' => SL Γ A Qe J items c (KK y) fs u') u) : SL Γ A Qe J items c (m.wrap KK H gd lv) fs u := by
  rintro a₀ a dr os tk st ow rfl j
  refine segP_wrap ((h a ow rfl).to hA (dr := dr) (os := os) (tk := tk) fun b tk' x y s2 ob r q => ?_)
  subst r
  exact q a₀ b dr os tk' (st.trans s2) ob rfl (hJ _ _ _ j ow s2 ob)
/-- a statement that does not rest -/
theorem sl_ex {t : Sem Flow} (hA : Ok n (A.over c fs)) (hJ : Stable Γ J)
    (h : Ex Γ n t (fun f u' => match f with | .next => SL Γ A Qe J items c (K .next) fs u' | .brk => SL Γ A Qe J items c (K .brk) fs u' | .cont => SL Γ A Qe J items c (K .cont) fs u' | .ret _ => False) u) : SL Γ A Qe J items c (t.wrap K H gd lv) fs u := by
  rintro a₀ a dr os tk st ow rfl j
  refine segP_wrap ((h a ow rfl).to hA (dr := dr) (os := os) (tk := tk) fun b tk' x y s2 ob r q => ?_)
  cases r with
  | next => exact q a₀ b dr os tk' (st.trans s2) ob rfl (hJ _ _ _ j ow s2 ob)
  | brk => exact q a₀ b dr os tk' (st.trans s2) ob rfl (hJ _ _ _ j ow s2 ob)
  | cont => exact q a₀ b dr os tk' (st.trans s2) ob rfl (hJ _ _ _ j ow s2 ob)
  | ret i => exact q.elim
theorem sl_cons {st : Stmt} {rest : List Stmt} (h : SL Γ A Qe J items c ((exec st env).wrap (fun f => match f with | .next => (execs rest env).wrap K H gd lv | f => K f) H gd lv) fs u) : SL Γ A Qe J items c ((execs (st :: rest) env).wrap K H gd lv) fs u := by
  rw [execs_cons_wrap]; exact h
theorem sl_nil (h : SL Γ A Qe J items c (K .next) fs u) : SL Γ A Qe J items c ((execs [] env).wrap K H gd lv) fs u := h
theorem sl_if {t : Expr} {b e : List Stmt} (hA : Ok n (A.over c fs)) (hJ : Stable Γ J)
    (h : Ts Γ n (PySem.isTrue t env (eval t env)) (fun y u1 => if y = true then SL Γ A Qe J items c ((execs b env).wrap K H gd lv) fs u1 else SL Γ A Qe J items c ((execs e env).wrap K H gd lv) fs u1) u) : SL Γ A Qe J items c ((exec (.If t b e pos) env).wrap K H gd lv) fs u := by
  rintro a₀ a dr os tk st ow rfl j
  rw [exec_If]
  show SegP _ _ _ _ (.at pos fun _ => (PySem.isTrue t env (eval t env) >>= fun y => if y = true then execs b env else execs e env).wrap K H gd lv) _ _
  refine segP_at ?_
  rw [Sem.bind_eq_wrap', Sem.wrap_wrap]
  refine segP_wrap ((h a ow rfl).to hA (dr := dr) (os := os) (tk := tk) fun b' tk' x y s2 ob r q => ?_)
  subst r
  cases x
  · exact q a₀ b' dr os tk' (st.trans s2) ob rfl (hJ _ _ _ j ow s2 ob)
  · exact q a₀ b' dr os tk' (st.trans s2) ob rfl (hJ _ _ _ j ow s2 ob)
/-- a thing is told -/
theorem sl_yield {e : Expr} {yp : Pos} {d : D} {r : List D} (hA : Ok n (A.over c fs)) (hfs : splitAtGen fs = none) (hgd : gd false = false) (hfg : fs.any Frame.guarded = false)
    (h : Ev Γ n (eval e env) (fun d' u' => d' = d ∧ SL Γ A Qe JT r c (K .next) fs u') u) (hco : env.scope.isCoroutine = false) (hi : interactive env = false) : SL Γ A Qe J (d :: r) c ((exec (.Expr (.Yield (some e) yp) pos) env).wrap K H gd lv) fs u := by
  rintro a₀ a dr os tk st ow rfl j
  rw [exec_Expr env _ pos hi rfl]
  show SegP _ _ _ _ (.at pos fun _ => ((eval e env >>= fun v => (standAt yp >>= fun _ => yieldOut env v)) >>= fun x => dropValue (.Yield (some e) yp) pos x).wrap K H gd lv) _ _
  have hy : ∀ v, yieldOut env v = yieldValue v := fun v => by simp only [yieldOut, hco, Bool.false_eq_true, if_false]
  simp only [hy]
  refine segP_at ?_
  rw [Sem.bind_eq_wrap', Sem.bind_eq_wrap', Sem.wrap_wrap, Sem.wrap_wrap]
  refine segP_wrap ((h a ow rfl).to hA (dr := dr) (os := os) (tk := tk) fun b tk' v y s2 ob rr q => ?_)
  obtain ⟨rfl, q⟩ := q
  refine segP_at (segP_yield hfs fun p => ?_)
  refine ⟨b, tk', v, _, _, _, _, _, _, rfl, ?_, rfl, st.trans s2, ob, rr, ?_⟩
  · show (!(gd false || fs.any Frame.guarded)) = true
    rw [hgd, hfg]; rfl
  · rw [ready_iff]
    intro a' dr' os' tk'' ow' hu'
    exact q a' a' dr' os' tk'' (.refl _) ow' hu' trivial
theorem sl_done {k : Result → Sem Fin} {h : Option Value} {g : Bool} {l : List Value} {c₁ : Code} {p₁ : Pos} {kp : List Value} {f : Flow} (hk : SL Γ A Qe J items c₁ (k (.ok f)) fs u) : SL Γ A Qe J items c (.pure (.done f)) (.ret k h g l c₁ p₁ kp :: fs) u :=
  fun a₀ a dr os tk st ow e j => segP_leaf (.ok f) (hk a₀ a dr os tk st ow e j)
theorem sl_again {c' : Code} (hq : c'.quiet = true) (h : SL Γ A Qe J items c' ((model Γ.prog Γ.w).den c') fs u) : SL Γ A Qe J items c (.pure (.again c')) fs u :=
  fun a₀ a dr os tk st ow e j => segP_again hq (h a₀ a dr os tk st ow e j)
theorem sl_end (h : Qe u) : SL Γ A Qe J [] c (.pure (.done (.ret .none))) [] u := by
  rintro a₀ a dr os tk st ow rfl j
  exact segP_end (.ok (.ret .none)) ⟨rfl, a, tk, rfl, st, ow, h⟩
end
end Mine

namespace Mine
open PySem PySem.W PySem.Calls

section
variable {Γ : Cx} {n : Nat} {env : Env} {u : Led} {x : Str} {pos : Pos} {A : Around} {Qe : Led → Prop} {J : Sg → Sg → Prop} {items : List D} {c : Code} {fs : List Frame} {K : Flow → Sem Fin} {H : Value → Sem Fin} {gd : Bool → Bool} {lv : List Value → List Value}

theorem sl_while {test : Expr} {body orelse : List Stmt} (h : ∀ (k : Result → Sem Fin) (p : Pos), (∀ f, k (.ok f) = K f) → SL Γ A Qe J items (.whileLoop test body orelse env) ((model Γ.prog Γ.w).den (.whileLoop test body orelse env)) (.ret k none (gd false) (lv []) c p [] :: fs) u) :
    SL Γ A Qe J items c ((exec (.While test body orelse pos) env).wrap K H gd lv) fs u :=
  fun a₀ a dr os tk st ow e j => segP_at (segP_call fun p => h _ p (fun f => rfl) a₀ a dr os tk st ow e j)

def KW (test : Expr) (body orelse : List Stmt) (env : Env) (f : Flow) : Sem Fin := match f with
  | .next | .cont => .pure (.again (.whileLoop test body orelse env))
  | .brk => .pure (.done .next)
  | .ret v => .pure (.done (.ret v))
theorem sl_turn {test : Expr} {body orelse : List Stmt} (hA : Ok n (A.over (.whileLoop test body orelse env) fs)) (hJ : Stable Γ J)
    (h : Ts Γ n (PySem.isTrue test env (eval test env)) (fun y u1 => y = true ∧ ∀ HT, SL Γ A Qe J items (.whileLoop test body orelse env) ((execs body env).wrap (KW test body orelse env) HT id id) fs u1) u) :
    SL Γ A Qe J items (.whileLoop test body orelse env) ((model Γ.prog Γ.w).den (.whileLoop test body orelse env)) fs u := by
  rintro a₀ a dr os tk st ow rfl j
  show SegP _ _ _ _ ((whileTurn test body orelse env).onRaise (fun x => do noteFrame x env; theTreesLotGoes x)) _ _
  unfold whileTurn
  rw [Sem.onRaise_eq_wrap, Sem.bind_eq_wrap', Sem.wrap_wrap]
  refine segP_wrap ((h a ow rfl).to hA (dr := dr) (os := os) (tk := tk) fun b tk' x y s2 ob r q => ?_)
  subst r
  obtain ⟨rfl, q⟩ := q
  rw [if_pos rfl, Sem.bind_eq_wrap', Sem.wrap_wrap]
  rw [Sem.wrap_congr (execs body env) _ _ (K' := KW test body orelse env) (H' := fun e => (Sem.raise e : Sem PySem.Fin).wrap .pure (fun e => (do noteFrame e env; theTreesLotGoes e : Sem Unit).bind fun _ => .raise e) id id) (fun f => by cases f <;> rfl) (fun _ => rfl)]
  exact q _ a₀ b dr os tk' (st.trans s2) ob rfl (hJ _ _ _ j ow s2 ob)

theorem sl_func {body : List Stmt} (h : ∀ HT, SL Γ A Qe J items (.func body env) ((execs body env).wrap (fun f => .pure (.done (.ret (match f with | .ret v => v | _ => .none)))) HT id id) fs u) :
    SL Γ A Qe J items (.func body env) ((model Γ.prog Γ.w).den (.func body env)) fs u := by
  rintro a₀ a dr os tk st ow rfl j
  show SegP _ _ _ _ (.point [] fun _ => ((execs body env).onRaise (leaving env)) >>= _) _ _
  refine segP_point ?_
  rw [Sem.onRaise_eq_wrap, Sem.bind_eq_wrap', Sem.wrap_wrap]
  rw [Sem.wrap_congr (execs body env) _ _ (K' := fun f => .pure (.done (.ret (match f with | .ret v => v | _ => .none))))
    (H' := fun e => (leaving env e).wrap (fun _ => .raise e) .raise id id) (fun f => by cases f <;> rfl)
    (fun e => by rw [Sem.bind_eq_wrap, Sem.wrap_wrap]; rfl)]
  exact h _ a₀ a dr os tk st ow rfl j

/-- what a thing gives when it is gone through, under whatever frames -/
def IterA (Γ : Cx) (d : D) (items : List D) : Prop :=
  ∀ (A : Around) (gs : Array GenState) (g : Heap) (u : Led) (h : Heap) (v : Value) (dr : Drawn) (tk : Nat) (os : OsState) (Q : Value → Shared → Prop), A.handled = none → Own Γ g u h → Is Γ.w.params g v d →
    (∀ I fp wr P St h' tk', (∀ A' : Around, A'.handled = none → Walks Γ.prog Γ.w A' I fp wr items.length P St) → St 0 h' → Keep h h' → (∀ b ∈ wr, h.get? b = none) → (∀ i h, St i h → GoSkip h I ∧ ∀ b ∈ wr, ∃ o, h.get? b = some o) → (∀ b ∈ fp, b ∈ wr ∨ ∃ o, g.get? b = some o) →
      (∀ i v, i < items.length → P i v → ∃ d, items[i]? = some d ∧ Is Γ.w.params g v d) → Q (.ref I) (sh ⟨gs, g, u, h'⟩ dr tk' os)) →
    wpAny (model Γ.prog Γ.w) A (pyIter v) Q (fun _ _ => False) (sh ⟨gs, g, u, h⟩ dr tk os)
theorem iterListA {Γ : Cx} {ds : List D} : IterA Γ (.list ds) ds := by
  intro A gs g u h v dr tk os Q hh ho hv k
  cases hv with | list hl hr => ?_
  rename_i l vs m
  have hl' := ho.keep _ _ hl
  have hL : h.IsList l vs.toArray := ⟨_, hl', rfl, _, rfl⟩
  have ne : l ≠ h.objs.size := Nat.ne_of_lt (Heap.lt_size hl')
  have e : vs.toArray.size = ds.length := by rw [List.size_toArray, hr.length]
  have W : ∀ A' : Around, A'.handled = none → _ := fun A' hA' => e ▸ Walks.list (prog := Γ.prog) (w := Γ.w) (A := A') hA' h.objs.size l ne vs.toArray
  refine wpAny_pyIter_list hL (k _ _ _ _ _ _ _ W ⟨⟨_, Heap.get?_push_size _ rfl, rfl, rfl⟩, hL.at fun o q => Heap.get?_push_of_some _ q⟩ (Keep.push _ _) ?_ ?_ ?_ ?_)
  · intro b hb; rw [List.mem_singleton.mp hb]; exact fresh_size h
  · rintro i hp ⟨⟨o, ho, hc, hd⟩, _⟩
    exact ⟨⟨o, _, _, ho, hc, hd, by decide⟩, fun b hb => by rw [List.mem_singleton.mp hb]; exact ⟨o, ho⟩⟩
  · intro b hb
    rcases List.mem_cons.mp hb with rfl | hb
    · exact .inl (.head _)
    · rw [List.mem_singleton.mp hb]; exact .inr ⟨_, hl⟩
  · intro i v hi hp
    obtain ⟨v', hv', hi'⟩ := hr.get (List.getElem?_eq_getElem hi)
    have : vs[i]? = some v := by simpa using hp
    rw [hv'] at this; cases this
    exact ⟨_, List.getElem?_eq_getElem hi, hi'⟩

/-- a loop in a generator: what does not rest goes on, what rests must leave -/
theorem sl_for {t e : Expr} {body orelse : List Stmt} (hA : Ok n (A.over c fs)) (hJ : Stable Γ J) (hfs : splitAtGen fs = none) (hfg : fs.any Frame.guarded = false) (hgd : gd false = false)
    (h : Ev Γ n (eval e env) (fun d u1 => ∃ (its : List D) (I : Nat → Led → Prop), IterA Γ d its ∧ I 0 u1 ∧
      (∀ i di u2, its[i]? = some di → I i u2 → ∀ (J' : Sg → Sg → Prop) (F : Code) (fr : List Frame) (KT : Flow → Sem Fin) (HT : Value → Sem Fin), Stable Γ J' → Ok n (A.over F fr) → splitAtGen fr = none → fr.any Frame.guarded = false →
        (∀ u, I (i + 1) u → SL Γ A Qe J' items F (KT .next) fr u) → (∀ u, I (i + 1) u → SL Γ A Qe J' items F (KT .cont) fr u) → (∀ items' u, SL Γ A Qe JT items' c (K .next) fs u → SL Γ A Qe JT items' F (KT .brk) fr u) →
        On1 Γ (fun _ (_ _ : Unit) => True) n (fun v => assign t env v) di (fun _ u3 => SL Γ A Qe J' items F ((execs body env).wrap KT HT id id) fr u3) u2) ∧
      (∀ u2, I its.length u2 → ∀ (F : Code) (fr : List Frame) (KT : Flow → Sem Fin) (HT : Value → Sem Fin), Ok n (A.over F fr) → splitAtGen fr = none → fr.any Frame.guarded = false →
        (∀ f items' u, SL Γ A Qe JT items' c (K f) fs u → SL Γ A Qe JT items' F (KT f) fr u) → SL Γ A Qe JT items F ((execs orelse env).wrap KT HT id id) fr u2)) u)
    (hs : ∀ x, foldedSetIterable e env x = pure x := by intro _; with_unfolding_all rfl) : SL Γ A Qe J items c ((exec (.For t e body orelse pos) env).wrap K H gd lv) fs u := by
  rintro a₀ a dr os tk st ow rfl j
  rw [exec_For]
  rw [Sem.bind_eq_wrap', Sem.wrap_wrap]
  refine segP_wrap (wpAny_standAt ?_)
  rw [Sem.bind_eq_wrap', Sem.wrap_wrap]
  refine segP_wrap ((h a ow rfl).to hA (dr := dr) (os := os) (tk := tk) fun b tk' v d s2 ob r q => ?_)
  obtain ⟨its, I, hI, h0, turn, done⟩ := q
  rw [hs, Sem.bind_eq_wrap', Sem.wrap_wrap]
  refine segP_wrap (wpAny_pure ?_)
  rw [Sem.bind_eq_wrap', Sem.wrap_wrap]
  refine segP_wrap (wpAny_standAt ?_)
  rw [Sem.bind_eq_wrap', Sem.wrap_wrap]
  refine segP_wrap (wpAny_holding (wpAny_mono (hI (A.over c fs) b.gs b.g b.u b.h v dr tk' os _ hA.1 ob r (fun I' fp wr P St h' tk2 W hst hk hwr hex hfp hP => ?_)) (fun _ _ x => x) (fun _ _ f => f.elim)))
  let F : Code := .forLoop t (.ref I') body orelse env
  show SegP _ _ _ _ (.call F none (gd false) (lv []) (fun r => ((match r with | .ok f => (.pure f : Sem Flow) | .error e => .raise e).onRaise fun (x : Value) => do
        if (← field x 1) == Value.none then unsupported "frame.own-activation:exception-without-traceback"
        setFlight x env.frame).wrap K H gd lv)) _ _
  refine segP_call fun p => ?_
  have hkk : ∀ f, (fun r : Result => ((match r with | .ok f => (.pure f : Sem Flow) | .error e => .raise e).onRaise fun (x : Value) => do
        if (← field x 1) == Value.none then unsupported "frame.own-activation:exception-without-traceback"
        setFlight x env.frame).wrap K H gd lv) (.ok f) = K f := fun f => rfl
  generalize (fun r : Result => ((match r with | .ok f => (.pure f : Sem Flow) | .error e => .raise e).onRaise fun (x : Value) => do
        if (← field x 1) == Value.none then unsupported "frame.own-activation:exception-without-traceback"
        setFlight x env.frame).wrap K H gd lv) = k at hkk ⊢
  let fr : List Frame := .ret k none (gd false) (lv []) c p [] :: fs
  have okF : Ok n (A.over F fr) := okFrames hA rfl rfl
  have okB : Ok n (A.over (.block orelse env) fr) := okFrames hA rfl rfl
  have spF : splitAtGen fr = none := by show (splitAtGen fs).map _ = none; rw [hfs]; rfl
  have guF : fr.any Frame.guarded = false := by show (gd false || fs.any Frame.guarded) = false; rw [hgd, hfg]; rfl
  have main : ∀ (q i : Nat) (a₀ a' : Sg) dr os tk, i + q = its.length → Step a₀ b → LoopAt Γ b a' fp wr → St i a'.h → I i a'.u → SegP (model Γ.prog Γ.w) A (EndOk Γ A Qe items a₀ dr os) F ((model Γ.prog Γ.w).den F) fr (sh a' dr tk os) := by
    intro q
    induction q with
    | zero =>
      intro i a₀ a' dr os tk hi sa la sti hIi
      have : i = its.length := by omega
      subst this
      show SegP _ _ _ _ ((forTurn t (.ref I') body orelse env).onRaise (fun x => do noteFrame x env; theTreesLotGoes x)) _ _
      unfold forTurn
      rw [Sem.onRaise_eq_wrap, Sem.bind_eq_wrap', Sem.wrap_wrap]
      refine segP_wrap (wpAny_standAt ?_)
      rw [Sem.bind_eq_wrap', Sem.wrap_wrap]
      refine segP_wrap (wpAny_onRaise ((W (A.over F fr) okF.1).done _ _ _ sti fun h'' tk'' hk'' => ?_))
      show SegP _ _ _ _ (.pure (.again (.block orelse env))) _ _
      have l2 := la.next (h'' := h'') hwr hk''
      refine segP_again rfl ?_
      show SegP _ _ _ _ (((execs orelse env).onRaise (fun x => do noteFrame x env; theTreesLotGoes x)) >>= fun f => pure (Fin.done f)) _ _
      rw [Sem.onRaise_eq_wrap, Sem.bind_eq_wrap', Sem.wrap_wrap]
      exact done a'.u hIi (.block orelse env) fr (fun f => .pure (.done f)) _ okB spF guF (fun f items' u hu => sl_done (by rw [hkk]; exact hu)) a₀ ⟨a'.gs, a'.g, a'.u, h''⟩ dr os tk'' (sa.trans l2.step) l2.own rfl trivial
    | succ q ih =>
      intro i a₀ a' dr os tk hi sa la sti hIi
      show SegP _ _ _ _ ((forTurn t (.ref I') body orelse env).onRaise (fun x => do noteFrame x env; theTreesLotGoes x)) _ _
      unfold forTurn
      rw [Sem.onRaise_eq_wrap, Sem.bind_eq_wrap', Sem.wrap_wrap]
      refine segP_wrap (wpAny_standAt ?_)
      rw [Sem.bind_eq_wrap', Sem.wrap_wrap]
      refine segP_wrap (wpAny_onRaise ((W (A.over F fr) okF.1).item i _ _ _ (by omega) sti fun v' h'' tk'' hPv hst'' hk'' => ?_))
      obtain ⟨di, hdi, hIs⟩ := hP i v' (by omega) hPv
      have l2 := la.next (h'' := h'') hwr hk''
      dsimp only
      rw [Sem.bind_eq_wrap', Sem.wrap_wrap]
      refine segP_wrap (go_skip (hex _ _ hst'').1 ?_)
      rw [Sem.bind_eq_wrap', Sem.wrap_wrap]
      let J' : Sg → Sg → Prop := fun x y => Step x b ∧ LoopAt Γ b y fp wr ∧ St (i + 1) y.h
      have hJ' : Stable Γ J' := by
        rintro x y z ⟨j1, j2, j3⟩ oy syz oz
        obtain ⟨l3, hfp3⟩ := j2.body (hex _ _ j3).2 syz oz hfp
        exact ⟨j1, l3, (W (A.over F fr) okF.1).frame _ _ _ j3 hfp3⟩
      let KT : Flow → Sem PySem.Fin := fun f => match f with
        | .next | .cont => .pure (.again F)
        | .brk => .pure (.done .next)
        | .ret v => .pure (.done (.ret v))
      have nx : ∀ u, I (i + 1) u → SL Γ A Qe J' items F (.pure (.again F)) fr u := fun u hu => sl_again rfl (fun a₁ a₂ dr os tk st₂ ow₂ e₂ j₂ => ih (i + 1) a₁ a₂ dr os tk (by omega) j₂.1 j₂.2.1 j₂.2.2 (e₂ ▸ hu))
      let HT : Value → Sem PySem.Fin := fun e => (Sem.raise e : Sem PySem.Fin).wrap .pure (fun e => (do noteFrame e env; theTreesLotGoes e : Sem Unit).bind fun _ => .raise e) id id
      have key := turn i di a'.u hdi hIi J' F fr KT HT hJ' okF spF guF nx nx (fun items' u hu => sl_done (by rw [hkk]; exact hu)) ⟨a'.gs, a'.g, a'.u, h''⟩ l2.own rfl v' (hIs.keep la.step.keep)
      refine segP_wrap (key.to okF (dr := dr) (os := os) (tk := tk'') fun e tke _ _ st2 oe _ q2 => ?_)
      rw [Sem.bind_eq_wrap', Sem.wrap_wrap]
      rw [Sem.wrap_congr (execs body env) _ _ (K' := KT) (H' := HT) (fun f => by cases f <;> rfl) (fun _ => rfl)]
      exact q2 a₀ e dr os tke ((sa.trans l2.step).trans st2) oe rfl (hJ' a₀ _ _ ⟨sa, l2, hst''⟩ l2.own st2 oe)
  exact main its.length 0 a₀ ⟨b.gs, b.g, b.u, h'⟩ dr os tk2 (by omega) (st.trans s2) (LoopAt.start ob hk hwr) hst h0
end
end Mine

namespace Mine
open PySem PySem.W PySem.Calls

section
variable {M : Model} {A : Around} {E : Value → Shared → Prop} {s : Shared}
theorem resumeP {α : Type} {Φ : End → Shared → Prop} {g : Nat} {gs : GenState} {l : List Value} {k : GenResult → Sem α} {Q : α → Shared → Prop} (hg : s.gens[g]? = some gs) (hgo : GoesP M A Φ gs (s.setGen g .running)) (hq : ∀ e s₁, Φ e s₁ → e.quiet = true)
    (hend : ∀ e s₁, Φ e s₁ → wpAny M A (k e.result) Q E (s₁.setGen g e.genState)) : wpAny M A (.resume g (.send .none) l k) Q E s := by
  intro Γ p hΓ
  rw [Sem.wp_resume]
  cases gs with
  | fresh c =>
    obtain ⟨e₁, s₁, hr, he⟩ := hgo (Γ.wake c p) p rfl (hΓ.wake c p)
    exact ⟨_, _, by unfold Wakes; rw [hg]; exact ⟨e₁, s₁, hr, hq e₁ s₁ he, rfl, rfl⟩, hend e₁ s₁ he Γ p hΓ⟩
  | suspended k₀ l₀ c₀ p₀ fs₀ cl =>
    obtain ⟨e₁, s₁, hr, he⟩ := hgo (Γ.wake c₀ p) p₀ rfl (hΓ.wake c₀ p)
    exact ⟨_, _, by unfold Wakes; rw [hg]; exact ⟨e₁, s₁, hr, hq e₁ s₁ he, rfl, rfl⟩, hend e₁ s₁ he Γ p hΓ⟩
  | running => exact hgo.elim
  | finished => exact hgo.elim
end
section
variable {prog : Program} {w : World} {A : Around} {E : Value → Shared → Prop} {s : Shared}
theorem pyNext_genP {a : Addr} {g : Nat} {gs : GenState} {Φ : End → Shared → Prop} {Q : Option Value → Shared → Prop} (hh : A.handled = none) (hl : s.heap.NoLimit) (hroom : A.depth < recursionLimit) (hg : s.heap.IsGen a g) (hgs : s.gens[g]? = some gs)
    (hgo : GoesP (model prog w) A.in1 Φ gs (s.setGen g .running)) (hq : ∀ e s₁, Φ e s₁ → e.quiet = true)
    (hY : ∀ v gd l k c p fs s₁, Φ (.susp v gd l k c p fs) s₁ → Q (some v) (s₁.setGen g (End.genState (.susp v gd l k c p fs))))
    (hP : ∀ r s₁, Φ (.ret r) s₁ → r = .ok (.ret .none) ∧ ∀ h', Keep s₁.heap h' → Q none { s₁.setGen g .finished with heap := h' }) : wpAny (model prog w) A (pyNext (.ref a)) Q E s := by
  unfold pyNext
  refine wpAny_bind (wpAny_attempt (wpAny_callSpecial?_slot (name := Str.ofString "__next__") hg.typeIs slot_gen_next (wpAny_call_entry slot_gen_next hg.typeIs entry_gen_next ?_ (args_gen_next _))))
  show wpAny _ A.in1 (Builtin.Generator.genWake (.ref a) (.send .none)) _ _ s
  unfold Builtin.Generator.genWake
  refine wpAny_bind (wpAny_holding (wpAny_genNumber hg (wpAny_bind (wpAny_genState hgs ?_))))
  cases gs with
  | running => exact hgo.elim
  | finished => exact hgo.elim
  | _ =>
    refine wpAny_bind (wpAny_roomToWake hl hroom ?_)
    show wpAny _ A.in1 (.resume g (.send .none) [] _) _ _ s
    refine resumeP hgs hgo hq fun e s₁ he => ?_
    cases e with
    | ret r =>
      obtain ⟨rfl, hp⟩ := hP r s₁ he
      show wpAny _ A.in1 (newExc (.type "StopIteration") [] >>= _) _ _ _
      refine wpAny_bind ?_
      simp only [newExc, newTuple]
      refine wpAny_bind (wpAny_newObj_type ?_ (by size_fits))
      refine wpAny_bind (m := firstArgMember _ _) (wpAny_of_eq (a := Value.none) (by first | rfl | (simp only [firstArgMember]; rfl)) ?_)
      refine wpAny_newObj_type ?_ (by size_fits)
      simp only [raiseNew]
      refine wpAny_bind (wpAny_bind (wpAny_handled ?_))
      first | rw [show A.in1.handled = none from hh] | rw [hh]
      refine wpAny_throw ?_
      refine wpAny_bind (wpAny_isInstance (T := "StopIteration") (b := true) ⟨_, Heap.get?_push_size _ rfl, rfl⟩ isSubtype_stop ?_)
      exact wpAny_pure (hp _ fun b o hb => Heap.get?_push_of_some _ (Heap.get?_push_of_some _ hb))
    | susp v gd l k c p fs => exact wpAny_pure ⟨v, rfl, wpAny_pure (hY v gd l k c p fs s₁ he)⟩
end

/-- a step of the walk whose end is told of the whole state -/
def WS (Γ : Cx) {α : Type} (n : Nat) (t : Sem α) (Φ : α → Sg → Prop) (a : Sg) : Prop :=
  ∀ A dr os tk, Ok n A → wpAny (model Γ.prog Γ.w) A t (fun x s' => ∃ b tk', s' = sh b dr tk' os ∧ Step a b ∧ Own Γ b.g b.u b.h ∧ Φ x b) (fun _ _ => False) (sh a dr tk os)
theorem GOk.push (a : Array GenState) {x : GenState} (h : x.bare = true) : GOk a (a.push x) := by
  refine ⟨fun i z e => ?_, fun i z e n => ?_⟩
  · have hi := (Array.getElem?_eq_some_iff.mp e).1
    rw [Array.getElem?_push, if_neg (Nat.ne_of_lt hi)]; exact e
  · rw [Array.getElem?_push] at e
    split at e
    · cases e; exact h
    · rw [n] at e; cases e
theorem Step.newGen {gs : Array GenState} {g h : Heap} {u : Led} {x : GenState} (hx : x.bare = true) : Step ⟨gs, g, u, h⟩ ⟨gs.push x, g, u, h⟩ := ⟨GOk.push _ hx, .refl _, fun q o e n => ⟨e, n, id⟩⟩

section
variable {Γ : Cx} {n : Nat} {env : Env} {u : Led} {x : Str} {pos : Pos}
theorem callWS_ {first : List Value} {fs : List D} {df : D} {es : List Expr} {Φ : Value → Sg → Prop} (hc : Callee Γ df) (vf : Value) {a : Sg} (hf : Is Γ.w.params a.g vf df) (hfs : IsAll Γ.w.params a.g first fs)
    (h : As Γ n (spliced (backTo pos (starEach es env))) (fun ds u1 => ∀ b, Step a b → Own Γ b.g b.u b.h → b.u = u1 → ∀ vs, IsAll Γ.w.params b.g vs (fs ++ ds) → WS Γ n (call vf vs) Φ b) a.u) (ho : Own Γ a.g a.u a.h)
    (he : es = [] ∨ ∃ e r, es = e :: r ∧ starEach es env = (false, eval e env) :: starEach r env) (hp : ((backTo pos (starEach es env)).any (·.1)) = false) :
    WS Γ n (callWith pos vf first (backTo pos (starEach es env)) []) Φ a := by
  intro A dr os tk hA
  have key : wpAny (model Γ.prog Γ.w) A (spliced (backTo pos (starEach es env))) (fun vs s₁ => (∃ g, Keep Γ.H0 g ∧ Keep g s₁.heap ∧ Is Γ.w.params g vf df) ∧ wpAny (model Γ.prog Γ.w) A (call vf (first ++ vs)) (fun x s' => ∃ b tk', s' = sh b dr tk' os ∧ Step a b ∧ Own Γ b.g b.u b.h ∧ Φ x b) (fun _ _ => False) s₁) (fun _ _ => False) (sh a dr tk os) := by
    refine (h a ho rfl).to hA fun b tk vs ds st ob r q => ⟨⟨b.g, ob.base, ob.keep, hf.keep st.keep⟩, ?_⟩
    refine wpAny_mono (q b st ob rfl _ ((hfs.keep st.keep).append r) A dr os tk hA) ?_ (fun _ _ f => f)
    rintro x _ ⟨c, tk', rfl, st3, oc, hq⟩
    exact ⟨c, tk', rfl, st.trans st3, oc, hq⟩
  refine callWith_of (P := fun h => ∃ g, Keep Γ.H0 g ∧ Keep g h ∧ Is Γ.w.params g vf df) (by rw [hp]; rfl) (fun h ⟨g, k1, k2, i⟩ => hc g h vf k1 k2 i) ?_
  rcases he with rfl | ⟨e, r, rfl, he⟩
  · refine PyProof.Rows.evalArgs_nil3 ?_
    obtain ⟨k3, k4⟩ : (∃ g, Keep Γ.H0 g ∧ Keep g (sh a dr tk os).heap ∧ Is Γ.w.params g vf df) ∧ wpAny (model Γ.prog Γ.w) A (call vf (first ++ [])) (fun x s' => ∃ b tk', s' = sh b dr tk' os ∧ Step a b ∧ Own Γ b.g b.u b.h ∧ Φ x b) (fun _ _ => False) (sh a dr tk os) := by
      refine ⟨⟨a.g, ho.base, ho.keep, hf⟩, ?_⟩
      intro G p hG
      exact (key G p hG).2 G p hG
    exact ⟨k3, k4⟩
  · have e2 : backTo pos (starEach (e :: r) env) = (false, eval e env) :: backTo pos (starEach r env) := by rw [he]; rfl
    rw [e2] at key ⊢
    exact evalArgs_plain key
/-- a method of an object, called, whose end is told of the whole state -/
theorem CallIWS_ {K : Frag} {o : Expr} {name : Str} {apos : Pos} {es : List Expr} {pl : Sem Bool} {Φ : Value → Sg → Prop} {a : Sg} (hΓ : Γ.K = K)
    (h : Ev Γ n (eval o env) (fun d u1 => ∃ C ds f, InstD u1 d C ds ∧ methOk K C name f = true ∧ valD ds name = none ∧ As Γ n (spliced (backTo pos (starEach es env))) (fun es u2 => ∀ b, Step a b → Own Γ b.g b.u b.h → b.u = u2 → ∀ vs, IsAll Γ.w.params b.g vs (d :: es) → WS Γ n (call (.ref f) vs) Φ b) u1) u)
    (hq : eval (.Call (.Attribute o name apos) es [] pos) env = (do
          let ov ← eval o env
          standAt apos.atName
          let (f, first) ← holding [ov] (getMethod ov name pl)
          callWith pos f first (backTo pos (starEach es env)) []) := by with_unfolding_all rfl)
    (he : es = [] ∨ ∃ e r, es = e :: r ∧ starEach es env = (false, eval e env) :: starEach r env := by with_unfolding_all first | exact .inl rfl | exact .inr ⟨_, _, rfl, rfl⟩) (hp : ((backTo pos (starEach es env)).any (·.1)) = false := by with_unfolding_all rfl)
    (ho : Own Γ a.g a.u a.h) (hu : a.u = u) : WS Γ n (eval (.Call (.Attribute o name apos) es [] pos) env) Φ a := by
  subst hΓ
  subst hu
  intro A dr os tk hA
  refine PyProof.Rows.MethodCall_ (pl := pl) ((h a ho rfl).to hA fun b tk v d st ob r q => ?_) hq
  obtain ⟨C, ds, f, i, hm, hv, q⟩ := q
  obtain ⟨x, da, es', m, rfl, I, hE⟩ := i.at ob r
  have hl : getL name es' = some none := by
    rcases hE.got name with ⟨v, d', g1, g2, g3⟩ | ⟨g1, _⟩
    · rw [hv] at g2; cases g2
    · exact g1
  refine getMeth (s := sh b dr tk os) ob.K I hm hl ?_
  have hk : keepIn Γ.K (.ref f) = true := by simp only [methOk, Bool.and_eq_true] at hm; exact hm.2
  refine wpAny_mono (callWS_ (df := .raw (.ref f)) (first := [.ref x]) (fs := [d]) (Callee.fn rfl hk) (.ref f) (.raw _) (.cons r .nil) (q.mono fun _ _ qq c sc oc e vs hv => qq c (st.trans sc) oc e vs hv) ob he hp A dr os tk hA) ?_ (fun _ _ f => f)
  rintro y _ ⟨c, tk', rfl, st3, oc, hq⟩
  exact ⟨c, tk', rfl, st.trans st3, oc, hq⟩

/-- a generator's def, called -/
theorem genCall {K : Frag} {f : Addr} {oc : Value} {od : Option Addr} {osl : Array (Option Value)} {fd : FuncData} {body : List Stmt} {ds : List D} {bs : List (Str × D)} {rs : List Str} {m : List (Str × Option D)}
    (hΓ : Γ.K = K) (hK : K.lookup f = some ⟨oc, od, .func fd, osl⟩) (hcd : codeIn K fd.code fd.qualname = true) (hb : fd.body = .stmts body) (hbind : BindL Γ n fd [] ds bs u)
    (hm : Init bs rs m) (hnd' : decide ((m.map (·.1)).Nodup) = true) (hloc' : ((bs.map (·.1)).all fun y => decide (fd.scope.names.lookup y = some .local)) = true)
    (hcell' : (fd.scope.names.all fun y => decide (y.2 ≠ .cell)) = true) (hco : fd.scope.isCoroutine = false) (hgen : fd.scope.isGenerator = true) (hk : fd.scope.kind = .function)
    {a : Sg} (ho : Own Γ a.g a.u a.h) (hu : a.u = u) {vs : List Value} (hv : IsAll Γ.w.params a.g vs ds) :
    WS Γ (n + 1) (call (.ref f) vs) (fun v b => ∃ ga L, v = .ref ga ∧ b.u = (L, .ns m) :: u ∧ (∃ gs0, b.gs = gs0.push (.fresh (.func body (callEnv fd L f))) ∧ GOk a.gs gs0 ∧ b.g.IsGen ga gs0.size)) a := by
  have hnd := of_decide_eq_true hnd'
  have hloc : ∀ y ∈ bs.map (·.1), fd.scope.names.lookup y = some .local := fun y hy => of_decide_eq_true (List.all_eq_true.mp hloc' y hy)
  have hcell : ∀ y ∈ fd.scope.names, y.2 ≠ .cell := fun y hy => of_decide_eq_true (List.all_eq_true.mp hcell' y hy)
  subst hΓ
  obtain ⟨gs, g, uu, hp⟩ := a
  obtain rfl : uu = u := hu
  intro A dr os tk hA
  refine wpAny_call (codeAny_call_generator hA.room (ho.K _ _ hK) rfl hco hgen hb (codeRec_of ho.K hcd) ((hbind ⟨gs, g, uu, hp⟩ ho rfl vs hv).to hA.in1 fun b tk1 fs bs' st0 ob hf q => ?_))
  obtain ⟨rfl, hbu⟩ := q
  obtain ⟨bgs, bg, bu, bh⟩ := b
  obtain rfl : bu = uu := hbu
  refine wpAny_newFunctionEnv hcell (fun y hy => hloc _ (hf.keys ▸ List.mem_map_of_mem (f := (·.1)) hy)) (fun h₀ hns hsb => ⟨(Γ.nolimit.keeps ob.H0).fresh _ hsb, ?_⟩) hk
  have hk₀ : Keep bh h₀ := fun q o e => hsb.extBut q o (Nat.ne_of_lt (Heap.lt_size e)) (Heap.get?_push_of_some _ e)
  have o1 : Own Γ bg ((bh.objs.size, .ns m) :: bu) h₀ := by
    have o' := ob.grow hk₀
    refine ⟨o'.base, o'.keep, List.nodup_cons.mpr ⟨fun hm => Nat.lt_irrefl _ (ob.lt _ hm), ob.nodup⟩, fun p hp' => ?_⟩
    rcases List.mem_cons.mp hp' with rfl | hp'
    · refine ⟨⟨_, hns, hnd, fun y => slots_of hf hm hnd y⟩, ?_⟩
      cases q : bg.get? bh.objs.size with
      | none => rfl
      | some z => exact absurd (Heap.lt_size (ob.keep _ _ q)) (Nat.lt_irrefl _)
    · exact o'.ok p hp'
  have st : Step ⟨bgs, bg, bu, bh⟩ ⟨bgs, bg, (bh.objs.size, .ns m) :: bu, h₀⟩ := ⟨.refl _, .refl _, fun q o e nq => ⟨hk₀ _ _ e, fun hm => by
    rcases List.mem_cons.mp hm with z | z
    · dsimp only at z e; rw [z] at e; exact Nat.lt_irrefl _ (Heap.lt_size e)
    · exact nq z, id⟩⟩
  obtain ⟨g', st2, o2, e2⟩ := o1.alloc (gs := bgs) ({ cls := .type "generator", data := .fields #[.int bgs.size 0, .str fd.name (tk1 + fs.length), .str fd.qualname (tk1 + fs.length + 1)] } : Obj) rfl
  refine ⟨⟨bgs.push (.fresh (.func body (callEnv fd bh.objs.size f))), g', (bh.objs.size, .ns m) :: bu, _⟩, _, rfl, ((st0.trans st).trans st2).trans (Step.newGen rfl), o2, _, _, rfl, rfl, bgs, rfl, st0.gens, _, _, _, e2, rfl, rfl, rfl⟩
end
end Mine

namespace Mine
open PySem PySem.W PySem.Calls

theorem bindL_of {Γ : Cx} {n : Nat} {u : Led} {fd : FuncData} {kw : List (Str × Value)} {ds : List D} {bs : List (Str × D)} (h : ∀ (s : Shared) (g : Heap) (vs : List Value), Γ.K.In s.heap → Keep Γ.H0 g → IsAll Γ.w.params g vs ds → ∃ fs, BindsTo s fd ⟨vs, kw⟩ fs ∧ IsF Γ.w.params g fs bs) : BindL Γ n fd kw ds bs u := by
  rintro a ho rfl vs hv A dr os tk hA
  obtain ⟨fs, hb, hf⟩ := h (sh a dr tk os) a.g vs ho.K ho.base hv
  exact hb _ _ _ _ ⟨a, tk, bs, rfl, .refl a, ho, hf, rfl, rfl⟩

theorem own_frame {Γ : Cx} {a b : Sg} {W : Led} (oa : Own Γ a.g (a.u ++ W) a.h) (st : Step a b) (ob : Own Γ b.g b.u b.h) :
    Own Γ b.g (b.u ++ W) b.h ∧ ∀ g0, Step ⟨g0, a.g, a.u ++ W, a.h⟩ ⟨g0, b.g, b.u ++ W, b.h⟩ := by
  have nd := oa.nodup
  rw [List.map_append, List.nodup_append] at nd
  have tr : ∀ p ∈ W, ∃ o, a.h.get? p.1 = some o ∧ b.h.get? p.1 = some o ∧ p.1 ∉ b.u.map (·.1) ∧ b.g.get? p.1 = none := fun p hp => by
    have ok := oa.ok p (List.mem_append_right _ hp)
    obtain ⟨o, e⟩ := ok.1.lt
    have hn : p.1 ∉ a.u.map (·.1) := fun hm => nd.2.2 _ hm _ (List.mem_map_of_mem (f := (·.1)) hp) rfl
    obtain ⟨z1, z2, z3⟩ := st.fram p.1 o e hn
    exact ⟨o, e, z1, z2, z3 ok.2⟩
  refine ⟨⟨ob.base, ob.keep, ?_, fun p hp => ?_⟩, fun g0 => ⟨.refl _, st.keep, fun q o e hq => ?_⟩⟩
  · rw [List.map_append, List.nodup_append]
    refine ⟨ob.nodup, nd.2.1, fun x hx y hy => ?_⟩
    rintro rfl
    obtain ⟨p, hp, rfl⟩ := List.mem_map.mp hy
    obtain ⟨_, _, _, z, _⟩ := tr p hp
    exact z hx
  · rcases List.mem_append.mp hp with hp | hp
    · exact ob.ok p hp
    · obtain ⟨o, e1, e2, _, z⟩ := tr p hp
      exact ⟨((oa.ok p (List.mem_append_right _ hp)).1.keep st.keep).at fun o' e' => by rw [e1] at e'; cases e'; exact e2, z⟩
  · dsimp only at e hq ⊢
    rw [List.map_append, List.mem_append, not_or] at hq
    obtain ⟨z1, z2, z3⟩ := st.fram q o e hq.1
    refine ⟨z1, ?_, z3⟩
    rw [List.map_append, List.mem_append, not_or]
    exact ⟨z2, hq.2⟩

def hsg (a : Sg) : Sg := ⟨#[], a.g, a.u, a.h⟩
theorem Step.hs {a b : Sg} (s : Step a b) : Step (hsg a) (hsg b) := ⟨.refl _, s.keep, s.fram⟩
/-- the rows of generators: what was there, and at i the one that runs -/
structure GB (g0 y : Array GenState) : Prop where
  old : ∀ (i : Nat) (z : GenState), g0[i]? = some z → y[i]? = some z
  new : ∀ (i : Nat) (z : GenState), y[i]? = some z → g0[i]? = none → i ≠ g0.size → z.bare = true
  has : g0.size < y.size
theorem GB.start (g0 : Array GenState) (x : GenState) : GB g0 (g0.push x) := by
  refine ⟨fun i z e => ?_, fun i z e n hi => ?_, by simp⟩
  · have hl := (Array.getElem?_eq_some_iff.mp e).1
    rw [Array.getElem?_push, if_neg (Nat.ne_of_lt hl)]; exact e
  · rw [Array.getElem?_push, if_neg hi] at e
    rw [n] at e; cases e
theorem GB.step {g0 y y' : Array GenState} (h : GB g0 y) (k : GOk y y') : GB g0 y' := by
  refine ⟨fun i z e => k.1 i z (h.old i z e), fun i z e n hi => ?_, ?_⟩
  · cases q : y[i]? with
    | none => exact k.2 i z e q
    | some z' => have := k.1 i z' q; rw [e] at this; cases this; exact h.new i z q n hi
  · obtain ⟨z, hz⟩ : ∃ z, y[g0.size]? = some z := ⟨_, Array.getElem?_eq_getElem h.has⟩
    exact (Array.getElem?_eq_some_iff.mp (k.1 _ z hz)).1
theorem GB.set {g0 y : Array GenState} (h : GB g0 y) (x : GenState) : GB g0 (y.setIfInBounds g0.size x) := by
  refine ⟨fun i z e => ?_, fun i z e n hi => ?_, by simpa using h.has⟩
  · have hl := (Array.getElem?_eq_some_iff.mp e).1
    rw [Array.getElem?_setIfInBounds, if_neg (Nat.ne_of_gt hl)]; exact h.old i z e
  · rw [Array.getElem?_setIfInBounds, if_neg (fun e => hi e.symm)] at e
    exact h.new i z e n hi
theorem GB.get {g0 y : Array GenState} (h : GB g0 y) (x : GenState) : (y.setIfInBounds g0.size x)[g0.size]? = some x := by
  rw [Array.getElem?_setIfInBounds, if_pos rfl, if_pos h.has]
theorem GB.done {g0 y : Array GenState} (h : GB g0 y) {x : GenState} (e : y[g0.size]? = some x) (hx : x.bare = true) : GOk g0 y := by
  refine ⟨h.old, fun i z e' n => ?_⟩
  by_cases hi : i = g0.size
  · subst hi; rw [e] at e'; cases e'; exact hx
  · exact h.new i z e' n hi

section
variable {Γ : Cx} {n : Nat} {env : Env} {u : Led} {x : Str} {pos : Pos} {A : Around}
/-- the next thing of a generator that owns G, beside W -/
theorem genStep {Qe : Led → Prop} {c : Sg} {G W : Led} {ga : Addr} {g0 : Array GenState} {gs : GenState} {items : List D} {dr : Drawn} {os : OsState} {tk : Nat} {Q : Option Value → Shared → Prop} {E : Value → Shared → Prop} (hA : Ok n A)
    (hc : Own Γ c.g (G ++ W) c.h) (hR : Ready Γ A.in1 Qe items G gs) (hgs : c.gs[g0.size]? = some gs) (hB : GB g0 c.gs) (hI : c.g.IsGen ga g0.size)
    (hY : ∀ d r, items = d :: r → ∀ (G' : Led) g' h' gens' gs' v tk', gs'.bare = true → GB g0 gens' → gens'[g0.size]? = some gs' → Own Γ g' (G' ++ W) h' → (∀ z, Step ⟨z, c.g, G ++ W, c.h⟩ ⟨z, g', G' ++ W, h'⟩) → Is Γ.w.params g' v d → Ready Γ A.in1 Qe r G' gs' → Q (some v) (sh ⟨gens', g', G' ++ W, h'⟩ dr tk' os))
    (hN : items = [] → ∀ (G' : Led) g' h' gens' tk', GOk g0 gens' → Own Γ g' (G' ++ W) h' → (∀ z, Step ⟨z, c.g, G ++ W, c.h⟩ ⟨z, g', G' ++ W, h'⟩) → Qe G' → Q none (sh ⟨gens', g', G' ++ W, h'⟩ dr tk' os)) :
    wpAny (model Γ.prog Γ.w) A (pyNext (.ref ga)) Q E (sh c dr tk os) := by
  have oG : Own Γ c.g G c.h := hc.sub (List.sublist_append_left G W)
  refine pyNext_genP (Φ := EndOk Γ A.in1 Qe items ⟨c.gs.setIfInBounds g0.size .running, c.g, G, c.h⟩ dr os) hA.1 (Γ.nolimit.keeps hc.H0) hA.room (hI.keeps hc.keep) hgs (ready_iff.mp hR ⟨c.gs.setIfInBounds g0.size .running, c.g, G, c.h⟩ dr os tk oG rfl) ?_ ?_ ?_
  · intro e s₁ he
    cases items with
    | nil => rw [he.1]; rfl
    | cons d r => obtain ⟨b, tk', v, g, l, k, c', p, fs, _, hq, _⟩ := he; exact hq
  · intro v gd l k c' p fs s₁ he
    cases items with
    | nil => cases he.1
    | cons d r =>
      obtain ⟨b, tk', v', g, l', k', c2, p', fs', e, hq, rfl, st, ob, hi, hr⟩ := he
      cases e
      obtain ⟨o2, st2⟩ := own_frame (a := ⟨c.gs.setIfInBounds g0.size .running, c.g, G, c.h⟩) hc st ob
      have b1 := (hB.set .running).step st.gens
      exact hY d r rfl b.u b.g b.h _ _ v tk' (End.bare_of_quiet hq) (b1.set _) (b1.get _) o2 st2 hi hr
  · intro r s₁ he
    cases items with
    | cons d r' => obtain ⟨b, tk', v', g, l', k', c2, p', fs', e, _⟩ := he; cases e
    | nil =>
      obtain ⟨e, b, tk', rfl, st, ob, hq⟩ := he
      cases e
      refine ⟨rfl, fun h' hk => ?_⟩
      obtain ⟨o2, st2⟩ := own_frame (a := ⟨c.gs.setIfInBounds g0.size .running, c.g, G, c.h⟩) hc st ob
      have b1 := (hB.set .running).step st.gens
      exact hN rfl b.u b.g h' _ tk' ((b1.set .finished).done (b1.get _) rfl) (o2.grow hk) (fun z => (st2 z).trans (Step.view _ hk)) hq
end
end Mine

namespace Mine
open PySem PySem.W PySem.Calls

/-- what a comprehension does with one thing that a generator told -/
def GenElt (Γ : Cx) (n : Nat) (elt target : Expr) (scope : Scope) (cl : List (Str × Addr)) (names : List (Str × NameKind)) (env : Env) (rs : List Str) (items : List D) (el : D → D) : Prop :=
  ∀ (i : Nat) (di : D) (acc : List D) (C Dd : Addr) (m : List (Str × Option D)) (W : Led), items[i]? = some di → m.map (·.1) = rs → let cenv := compEnvC scope cl C env; EnvI cenv names C cl →
    On1 Γ (fun _ (_ _ : Unit) => True) n (fun v => assign target cenv v) di (fun _ u3 => Ev Γ n (eval elt cenv) (fun d u5 => d = el di ∧ ∃ m', m'.map (·.1) = rs ∧ u5 = (C, .ns m') :: (Dd, .list acc) :: W) u3) ((C, .ns m) :: (Dd, .list acc) :: W)
/-- a generator, made -/
def GenMade (Γ : Cx) (k : Nat) (a : Sg) (v : Value) (b : Sg) (items : List D) (Qe : Led → Prop) (w : Led) : Prop :=
  ∃ (ga : Addr) (G : Led) (g0 : Array GenState) (gs : GenState), v = .ref ga ∧ b.u.Perm (G ++ w) ∧ b.gs = g0.push gs ∧ GOk a.gs g0 ∧ gs.bare = true ∧ b.g.IsGen ga g0.size ∧ ∀ A, Ok k A → Ready Γ A Qe items G gs

section
variable {Γ : Cx} {n : Nat} {env : Env} {u : Led} {x : Str} {pos : Pos}
theorem AssignCompGen_ {k : Nat} {y : Str} {py spos : Pos} {elt target iter : Expr} {scope : Scope} {cl : List (Str × Addr)} {names : List (Str × NameKind)} {rs : List Str} {items : List D} {el : D → D} {Qe : Led → Prop} {w : Led} {Q : Fl → Led → Prop} (hnk : k + 1 ≤ n)
    (hsw : swapsWith (.ListComp elt [⟨target, iter, [], 0⟩] scope pos) (some (.Name y py)) spos.line env = pure true)
    (hclos : closureFor scope env = pure cl) (hn : (relabel scope env).names = names) (hch : compChk scope rs = true) (hE : envChk names (cl.map (·.1)) = true) (hkind : scope.kind = .function) (hG : env.globals = mainGlobals) (hB : env.builtins = builtinsNs) (hz : items.length ≤ sizeLine)
    (hit : ∀ a, Own Γ a.g a.u a.h → a.u = u → WS Γ n (eval iter env) (fun v b => GenMade Γ k a v b items Qe w) a)
    (turn : GenElt Γ n elt target scope cl names env rs items el)
    (done : ∀ G', Qe G' → On1 Γ (fun _ (_ _ : Unit) => True) n (fun v => storeName env y v) (.list (items.map el)) (fun _ u3 => Q .next u3) (G' ++ w))
    (hs : ∀ x, foldedSetIterable iter env x = pure x := by intro _; with_unfolding_all rfl) : Ex Γ n (exec (.Assign [.Name y py] (.ListComp elt [⟨target, iter, [], 0⟩] scope pos) spos) env) Q u := by
  rintro a ho rfl A dr os tk hA
  have hch' := hch
  simp only [compChk, Bool.and_eq_true, decide_eq_true_eq, List.all_eq_true] at hch'
  rw [exec_Assign_Name_used _ _ _ _ hsw]
  refine wpAny_bind (wpAny_standAt (wpAny_bind ?_))
  show wpAny _ A (do let _ ← comprehension (.ListComp elt [⟨target, iter, [], 0⟩] scope pos) scope env _ (newList []) false (eval iter env) (some (assign (.Name y py) env))) _ _ _
  refine wpAny_bind (wpAny_mono (wpAny_comprehension_free (use := some (assign (.Name y py) env)) (Q := fun _ s' => Out Γ (IsFl Γ.w.params) Q a dr os .next s') rfl hs hclos hkind (fun x hx hl => ?_)
    (wpAny_mono (hit a ho rfl A dr os tk hA) ?_ (fun _ _ f => f.elim))) (fun _ s' hq => wpAny_pure (wpAny_pure hq)) fun _ _ e => e)
  · have := (hch'.1 x hx).2; rw [hl] at this; simpa using this
  rintro v _ ⟨b, tk1, rfl, st, ob0, ga, G, g0, gs, rfl, perm, hbg, hgk, hbare, hIs, hR⟩
  obtain ⟨hch'', hnd⟩ := hch'
  have hcell : ∀ y ∈ scope.names, y.2 ≠ .cell := fun y hy => (hch'' y hy).1
  have ob : Own Γ b.g (G ++ w) b.h := ob0.perm perm.symm
  refine wpAny_pyIter_gen (s := sh b dr tk1 os) (hIs.keeps ob.keep) ?_
  refine wpAny_newObj_type (wpAny_newFunctionEnv hcell (by intro y hy; simp at hy) (fun h₁ hns₁ hsb₁ => ?_) hkind)
  dsimp only [sh] at hns₁ hsb₁ ⊢
  generalize hH2 : b.h.push { cls := .type "list", dict := none, data := .seq ([] : List Value).toArray } = H2 at hns₁ hsb₁ ⊢
  have hC : H2.objs.size = b.h.objs.size + 1 := by rw [← hH2, Heap.size_push]
  have old : ∀ q o, b.h.get? q = some o → h₁.get? q = some o := fun q o e => by
    have hlt := Heap.lt_size e
    exact hsb₁.extBut q o (by rw [hC]; exact Nat.ne_of_lt (Nat.lt_succ_of_lt hlt)) (Heap.get?_push_of_some _ (hH2 ▸ Heap.get?_push_of_some _ e))
  have hDC : b.h.objs.size ≠ H2.objs.size := by omega
  have hD₁ : h₁.get? b.h.objs.size = some (PySem.W.listOf ([] : List Value).toArray 0) := hsb₁.extBut _ _ hDC (Heap.get?_push_of_some _ (hH2 ▸ Heap.get?_push_size _ rfl))
  have fresh' : ∀ q, b.h.objs.size ≤ q → b.h.get? q = none ∧ b.g.get? q = none ∧ q ∉ (G ++ w).map (·.1) := fun q hq => by
    have e1 : b.h.get? q = none := by
      cases e : b.h.get? q with
      | none => rfl
      | some o => exact absurd (Heap.lt_size e) (Nat.not_lt.mpr hq)
    refine ⟨e1, ?_, fun hm => ?_⟩
    · cases e : b.g.get? q with
      | none => rfl
      | some o => rw [ob.keep _ _ e] at e1; cases e1
    · obtain ⟨p, hp, rfl⟩ := List.mem_map.mp hm
      obtain ⟨o, e⟩ := (ob.ok p hp).1.lt
      rw [e1] at e; cases e
  have fD := fresh' b.h.objs.size (Nat.le_refl _)
  have fC := fresh' H2.objs.size (by omega)
  have o1 : Own Γ b.g ((H2.objs.size, .ns (rs.map fun y => (y, none))) :: (b.h.objs.size, .list []) :: (G ++ w)) h₁ := by
    have o0 : Own Γ b.g (G ++ w) h₁ := ob.grow old
    refine ⟨o0.base, o0.keep, ?_, ?_⟩
    · rw [List.map_cons, List.map_cons, List.nodup_cons, List.nodup_cons, List.mem_cons, not_or]
      exact ⟨⟨fun e => hDC e.symm, fC.2.2⟩, fD.2.2, ob.nodup⟩
    · intro p hp
      rcases List.mem_cons.mp hp with rfl | hp
      · refine ⟨⟨_, hns₁, by rw [keysNone]; exact hnd, fun y => ?_⟩, fC.2.1⟩
        rcases lookNone rs y with e | e <;> rw [e] <;> rfl
      · rcases List.mem_cons.mp hp with rfl | hp
        · exact ⟨⟨[], 0, hD₁, .nil⟩, fD.2.1⟩
        · exact o0.ok p hp
  have envi : EnvI (compEnvC scope cl H2.objs.size env) names H2.objs.size cl := ⟨hkind, hn, rfl, rfl, hG, hB, hE⟩
  have pm : ∀ (G : Led) (e1 e2 : Ent), (G ++ (H2.objs.size, e1) :: (b.h.objs.size, e2) :: w).Perm ((H2.objs.size, e1) :: (b.h.objs.size, e2) :: (G ++ w)) := fun G e1 e2 => List.perm_middle.trans (List.perm_middle.cons _)
  have l1 : ∀ z, Step ⟨z, b.g, G ++ w, b.h⟩ ⟨z, b.g, (H2.objs.size, .ns (rs.map fun y => (y, none))) :: (b.h.objs.size, .list []) :: (G ++ w), h₁⟩ := by
    refine fun z => ⟨.refl _, .refl _, fun q o e nq => ⟨old _ _ e, fun hm => ?_, id⟩⟩
    rw [List.map_cons, List.map_cons] at hm
    rcases List.mem_cons.mp hm with z | hm
    · dsimp only at z e; rw [z, fC.1] at e; cases e
    · rcases List.mem_cons.mp hm with z | hm
      · dsimp only at z e; rw [z, fD.1] at e; cases e
      · exact nq hm
  let Inv : Nat → Shared → Prop := fun k s => ∃ (i : Nat) (c : Sg) (tkc : Nat) (m' : List (Str × Option D)) (G' : Led) (gs' : GenState), i + k = items.length ∧ s = sh c dr tkc os ∧ Own Γ c.g c.u c.h ∧ c.u = (H2.objs.size, .ns m') :: (b.h.objs.size, .list ((items.take i).map el)) :: (G' ++ w) ∧ m'.map (·.1) = rs ∧
    (∀ z, Step ⟨z, b.g, G ++ w, b.h⟩ ⟨z, c.g, c.u, c.h⟩) ∧ GB g0 c.gs ∧ c.gs[g0.size]? = some gs' ∧ Ready Γ A.in1 Qe (items.drop i) G' gs'
  have skip : ∀ {g' h' : Heap}, Keep b.g g' → Keep g' h' → GoSkip h' ga := fun k1 k2 => by
    obtain ⟨o, nm, qn, e, hc, hd, _⟩ := (hIs.keeps k1).keeps k2
    exact ⟨o, _, _, e, hc, hd, by decide⟩
  have loop : codeAny (model Γ.prog Γ.w) A (.compLoop (.ListComp elt [⟨target, iter, [], 0⟩] scope pos) 0 (.ref ga) (.ref b.h.objs.size) (compEnvC scope cl H2.objs.size env))
      (compPost (model Γ.prog Γ.w) A (fun _ _ => False) (some (assign (.Name y py) env)) (fun _ s' => Out Γ (IsFl Γ.w.params) Q a dr os .next s') (.ref b.h.objs.size) H2.objs.size) (sh ⟨b.gs, b.g, (H2.objs.size, .ns (rs.map fun y => (y, none))) :: (b.h.objs.size, .list []) :: (G ++ w), h₁⟩ dr (tk1 + 0) os) := by
    have hA1 : Ok k A.in1 := (hA.le hnk).in1
    refine codeAny_compLoopG Inv ?_ items.length ⟨0, _, _, _, G, gs, by omega, rfl, o1, rfl, by simp [Function.comp_def], l1, hbg ▸ GB.start g0 gs, by show b.gs[g0.size]? = _; rw [hbg]; exact Array.getElem?_push_size .., hR _ hA1⟩
    rintro kk s ⟨i, c, tkc, m', G', gs', hik, rfl, oc, hcu, hm', stc, gb, hgs, hrd⟩
    have oc' : Own Γ c.g (G' ++ (H2.objs.size, .ns m') :: (b.h.objs.size, .list ((items.take i).map el)) :: w) c.h := (hcu ▸ oc).perm (pm _ _ _)
    have kc : Keep b.g c.g := (stc #[]).keep
    refine genStep (W := (H2.objs.size, .ns m') :: (b.h.objs.size, .list ((items.take i).map el)) :: w) hA oc' hrd hgs gb (hIs.keeps kc) ?_ ?_
    · intro d r hd G'' g' h' gens' gs'' v tk' hbare' gb' hgs' o' st' hi' hr'
      have hi : i < items.length := by
        have := congrArg List.length hd
        simp at this; omega
      have hdi : items[i]? = some d := by
        have e0 : (items.drop i)[0]? = items[i]? := by rw [List.getElem?_drop]; simp
        rw [← e0, hd]; rfl
      have hdr : items.drop (i + 1) = r := by
        have : items.drop (i + 1) = (items.drop i).drop 1 := by rw [List.drop_drop]
        rw [this, hd]; rfl
      have o2 : Own Γ g' ((H2.objs.size, .ns m') :: (b.h.objs.size, .list ((items.take i).map el)) :: (G'' ++ w)) h' := o'.perm (pm _ _ _).symm
      refine go_skip (s := sh ⟨gens', g', _, h'⟩ dr tk' os) (skip (kc.trans (st' #[]).keep) o'.keep) ?_
      refine Wg.to (turn i d _ _ _ m' (G'' ++ w) hdi hm' envi ⟨gens', g', _, h'⟩ o2 rfl v hi') hA (dr := dr) (os := os) (tk := tk') fun e tke _ _ st2 oe _ q2 => ?_
      refine wpAny_pure ?_
      rw [if_pos rfl]
      refine (q2 e oe rfl).to hA fun f tkf x dx st3 of r3 q3 => ?_
      obtain ⟨rfl, m2, hm2, hfu⟩ := q3
      have key := append_ (Γ := Γ) (n := n) (l := b.h.objs.size) (ds := (items.take i).map el) (d := el d) (u := f.u) (Q := fun _ u7 => u7 = (H2.objs.size, .ns m2) :: (b.h.objs.size, .list ((items.take i).map el ++ [el d])) :: (G'' ++ w)) (hfu ▸ Set1.there Set1.here) (by simp only [List.length_map, List.length_take]; omega) rfl
      refine (key f of rfl [.ref b.h.objs.size, x] (.cons (.raw _) (.cons r3 .nil))).to hA (dr := dr) (os := os) (tk := tkf) fun e3 tke3 _ _ st5 oe3 _ q5 => ?_
      have hstp := (st2.trans st3).trans st5
      refine ⟨kk - 1, by omega, i + 1, e3, tke3, m2, G'', gs'', by omega, rfl, oe3, ?_, hm2, fun z => ?_, gb'.step hstp.gens, hstp.gens.1 _ _ hgs', hdr ▸ hr'⟩
      · rw [q5, List.take_add_one, hdi]; simp
      · have s1 := stc z
        have s2 : Step ⟨z, c.g, c.u, c.h⟩ ⟨z, c.g, _, c.h⟩ := Step.perm (hcu ▸ pm _ _ _)
        have s3 := st' z
        have s4 : Step ⟨z, g', _, h'⟩ ⟨z, g', (H2.objs.size, .ns m') :: (b.h.objs.size, .list ((items.take i).map el)) :: (G'' ++ w), h'⟩ := Step.perm (pm _ _ _).symm
        have s5 : Step ⟨z, g', (H2.objs.size, .ns m') :: (b.h.objs.size, .list ((items.take i).map el)) :: (G'' ++ w), h'⟩ ⟨z, e3.g, e3.u, e3.h⟩ := ⟨.refl _, hstp.keep, hstp.fram⟩
        exact (((s1.trans s2).trans s3).trans s4).trans s5
    · intro hd G'' g' h' gens' tk' gk' o' st' hq'
      have hlen : i = items.length := by
        have := congrArg List.length hd
        simp at this; omega
      have hall : (items.take i).map el = items.map el := by rw [hlen, List.take_length]
      have o2 : Own Γ g' ((H2.objs.size, .ns m') :: (b.h.objs.size, .list ((items.take i).map el)) :: (G'' ++ w)) h' := o'.perm (pm _ _ _).symm
      obtain ⟨g2, o4, st4, is4⟩ := (o2.del Del.here).frz (gs := #[]) Del.here (Frz.list (a := b.h.objs.size) (ds := (items.take i).map el))
      have nd := o2.nodup
      rw [List.map_cons, List.map_cons, List.nodup_cons, List.mem_cons, not_or, List.nodup_cons] at nd
      have nsC := (o2.ok (H2.objs.size, .ns m') (.head _))
      obtain ⟨μ, ⟨oC, es, ep, hoC, rC⟩, _⟩ := nsC.1
      have gC : g2.get? H2.objs.size = none := ((st4.fram _ oC hoC (fun hm => by
        rcases List.mem_cons.mp hm with z | z
        · exact nd.1.1 z
        · exact nd.1.2 z)).2.2) nsC.2
      show wpAny _ A (assign (.Name y py) env (.ref b.h.objs.size)) _ _ _
      refine wpAny_assign_Name (Wg.to (done G'' hq' ⟨gens', g2, G'' ++ w, h'⟩ o4 rfl _ (hall ▸ is4)) hA (dr := dr) (os := os) (tk := tk') fun e tke _ _ st2 oe _ q2 => ?_)
      obtain ⟨z1, z2, z3⟩ := st2.fram H2.objs.size oC hoC nd.1.2
      refine ⟨μ, ⟨oC, es, ep, z1, rC⟩, fun h'' hs'' => ?_⟩
      have hs2 : ∀ q ob, q ≠ H2.objs.size → e.h.get? q = some ob → h''.get? q = some ob := fun q ob ne hq => (hs''.2 q ne).trans hq
      refine ⟨⟨e.gs, e.g, e.u, h''⟩, tke, .next, rfl, ?_, oe.off (z3 gC) z2 hs2, .next, q2⟩
      have s2 : Step ⟨#[], c.g, c.u, c.h⟩ ⟨#[], c.g, _, c.h⟩ := Step.perm (hcu ▸ pm _ _ _)
      have s4 : Step ⟨#[], g', _, h'⟩ ⟨#[], g', (H2.objs.size, .ns m') :: (b.h.objs.size, .list ((items.take i).map el)) :: (G'' ++ w), h'⟩ := Step.perm (pm _ _ _).symm
      have H0 := ((((((stc #[]).trans s2).trans (st' #[])).trans s4).trans (Step.del Del.here)).trans st4).trans st2.hs
      have H1 : Step (hsg b) ⟨#[], b.g, G ++ w, b.h⟩ := Step.perm perm.symm
      have H := (st.hs.trans H1).trans (H0.off fC.1 hs2)
      exact ⟨(hgk.trans gk').trans st2.gens, H.keep, H.fram⟩
  exact codeAny_compStart_list loop (wpAny_pyIter_gen (s := sh ⟨b.gs, b.g, _, h₁⟩ dr (tk1 + 0) os) (hIs.keeps o1.keep) loop)
end
end Mine

namespace Mine
open PySem PySem.W PySem.Calls

theorem keep_take {α : Type} {sel : Nat → Bool} {a : Nat} : ∀ (l : List α) (off : Nat), (∀ k, off ≤ k → k < off + l.length → sel k = decide (a ≤ k)) →
    ((l.zipIdx off).filterMap fun (p : α × Nat) => if sel p.2 = true then none else some p.1) = l.take (a - off)
  | [], off, h => by simp
  | x :: r, off, h => by
    have ih := keep_take r (off + 1) (fun k h1 h2 => h k (by omega) (by simp only [List.length_cons]; omega))
    have h0 := h off (Nat.le_refl _) (by simp)
    rw [List.zipIdx_cons, List.filterMap_cons]
    by_cases q : a ≤ off
    · have e : sel off = true := by rw [h0]; simpa using q
      simp only [e, if_true]
      rw [ih, show a - (off + 1) = 0 by omega, show a - off = 0 by omega]; simp
    · have e : sel off = false := by rw [h0]; simpa using q
      simp only [e, Bool.false_eq_true, if_false]
      rw [ih, show a - off = (a - (off + 1)) + 1 by omega, List.take_succ_cons]

section
variable {prog : Program} {w : World} {A : Around} {E : Value → Shared → Prop} {s : Shared}
theorem upd_list {h : Heap} {l : Addr} {xs ys : Array Value} {m : Nat} {f : Array Value → Array Value} (hl : h.get? l = some (PySem.W.listOf xs m)) (e : f xs = ys) : ∃ m', (h.update l (Obj.mapSeq f)).get? l = some (PySem.W.listOf ys m') := by
  subst e
  obtain ⟨m', e⟩ : ∃ m', Obj.mapSeq f (PySem.W.listOf xs m) = PySem.W.listOf (f xs) m' := ⟨_, rfl⟩
  exact ⟨m', by rw [Heap.get?_update_self _ hl (by rw [e]; rfl), e]⟩
theorem delItem_slice {l sl : Addr} {vs : List Value} {m : Nat} {i : Int} {t : Tok} {Q : Unit → Shared → Prop} (hl : s.heap.get? l = some (PySem.W.listOf vs.toArray m)) (hs : s.heap.IsSliceOf sl (.int i t) .none .none) (hz : vs.length ≤ sizeLine)
    (h : ∀ h' m', h'.get? l = some (PySem.W.listOf (vs.take (cut (some i) 0 vs.length)).toArray m') → (∀ b ob, b ≠ l → s.heap.get? b = some ob → h'.get? b = some ob) → Q () { s with heap := h' }) :
    wpAny (model prog w) A (delItem (.ref l) (.ref sl)) Q E s := by
  have hls : s.heap.IsList l vs.toArray := ⟨_, hl, rfl, _, rfl⟩
  obtain ⟨os, hos, hcs, hds⟩ := id hs
  have hTs : s.TypeIs (.ref sl) "slice" := ⟨os, hos, hcs⟩
  unfold delItem
  refine wpAny_holding ?_
  refine wpAny_bind (wpAny_sequenceKey hls.typeIs (by decide) ?_)
  refine wpAny_bind (wpAny_callSpecial?_slot (name := Str.ofString "__delitem__") hls.typeIs F.slot_list_delitem
    (wpAny_call_entry F.slot_list_delitem hls.typeIs F.entry_list_delitem ?_ (F.args_list_delitem_2 _ _)))
  show wpAny _ _ (Builtin.List.listSubscript? (.ref sl) >>= _) _ _ s
  refine wpAny_bind ?_
  unfold Builtin.List.listSubscript?
  refine wpAny_bind (wpAny_specialOf hTs slice_no_index ?_)
  simp only [Option.isNone_none, if_true]
  refine wpAny_pure ?_
  show wpAny _ _ (typeOf (.ref sl) >>= _) _ _ s
  refine wpAny_bind (wpAny_typeOf hTs ?_)
  rw [if_neg (by decide)]
  rw [listSliceParts_eq]
  refine wpAny_bind (wpAny_bind (wpAny_field hos hds (x := .none) rfl (wpAny_bind (wpAny_listPart .none ?_))))
  rw [if_neg (show ¬ ((rawPart none == rawInt 0) = true) from Bool.false_ne_true)]
  refine wpAny_bind (wpAny_field hos hds (x := .int i t) rfl (wpAny_bind (wpAny_listPart (.int i t) ?_)))
  refine wpAny_bind (wpAny_field hos hds (x := .none) rfl (wpAny_bind (wpAny_listPart .none (wpAny_pure ?_))))
  refine wpAny_bind (m := Builtin.List.listItems (.ref l)) ?_
  unfold Builtin.List.listItems
  refine wpAny_bind (wpAny_seqItems hl rfl (wpAny_pure ?_))
  refine wpAny_bind (wpAny_of_eq (sliceIndices_raw (some i) none none vs.toArray.size (by simp)) ?_)
  refine wpAny_bind (wpAny_rule ?_)
  have hcut : (sliceBounds (some i) none none vs.toArray.size) = (((cut (some i) 0 vs.length : Nat) : Int), ((vs.length : Nat) : Int), (1 : Int)) := by
    rw [sliceBounds_cut]; simp [cut]
  rw [hcut]
  have hk : ∀ (sel : Nat → Bool), (∀ k, k < vs.length → sel k = decide (cut (some i) 0 vs.length ≤ k)) → (vs.toArray.toList.zipIdx.filterMap fun (x : Value × Nat) => if sel x.2 = true then none else some x.1) = vs.take (cut (some i) 0 vs.length) := fun sel hsel =>
    keep_take vs 0 (fun k _ h2 => hsel k (by omega))
  have fin : ∀ {f : Array Value → Array Value}, f vs.toArray = (vs.take (cut (some i) 0 vs.length)).toArray → wpAny (model prog w) A.in1 (ret Value.none) (fun fin s' => ∃ v, fin = PySem.Fin.done (Flow.ret v) ∧ wpAny (model prog w) A (pure ()) Q E s') E { s with heap := s.heap.update l (Obj.mapSeq f) } := fun e => by
    obtain ⟨m', e⟩ := upd_list hl e
    exact wpAny_pure ⟨.none, rfl, wpAny_pure (h _ m' e (fun b ob ne q => ((Heap.SameBut.update ..).2 b ne).trans q))⟩
  refine wpAny_bind (m := updateSeq l _) (wpAny_updateSeq hl rfl ?_ (by simpa using hz) ?_)
  · refine wpAny_bind (wpAny_letGo ?_)
    refine fin (f := fun xs => (List.filterMap (fun (x : Value × Nat) => if _ = true then none else some x.1) xs.toList.zipIdx).toArray) (congrArg List.toArray (hk _ (fun k hk => ?_)))
    show (if (1 : Int) > 0 then decide (((cut (some i) 0 vs.length : Nat) : Int) ≤ (k : Int)) && decide ((k : Int) < (vs.length : Int)) && (((k : Int) - ((cut (some i) 0 vs.length : Nat) : Int)) % 1 == 0) else _) = _
    rw [if_pos (by decide)]
    simp only [Int.emod_one, beq_self_eq_true, Bool.and_true]
    rw [show decide ((k : Int) < (vs.length : Int)) = true from by simpa using hk, Bool.and_true]
    simp
  · refine Nat.le_trans (Nat.le_of_eq (congrArg Array.size (congrArg List.toArray (hk _ (fun k hk => ?_))))) (by simp only [List.size_toArray, List.length_take]; omega)
    show (if (1 : Int) > 0 then decide (((cut (some i) 0 vs.length : Nat) : Int) ≤ (k : Int)) && decide ((k : Int) < (vs.length : Int)) && (((k : Int) - ((cut (some i) 0 vs.length : Nat) : Int)) % 1 == 0) else _) = _
    rw [if_pos (by decide)]
    simp only [Int.emod_one, beq_self_eq_true, Bool.and_true]
    rw [show decide ((k : Int) < (vs.length : Int)) = true from by simpa using hk, Bool.and_true]
    simp
end
end Mine

namespace Mine
open PySem PySem.W PySem.Calls

theorem IsAll.dropLast {P : Params} {g : Heap} {vs : List Value} {ds : List D} (h : IsAll P g vs ds) : IsAll P g vs.dropLast ds.dropLast := by
  rw [List.dropLast_eq_take, List.dropLast_eq_take, h.length]; exact h.take _
section
variable {Γ : Cx} {n : Nat} {env : Env} {u : Led} {x : Str} {pos : Pos}
theorem truthyN {Q : Bool → Led → Prop} (hQ : Q false u) : On1 Γ (fun _ (x y : Bool) => x = y) n truthy .none Q u := by
  rintro a ho rfl v hv A dr os tk hA
  cases hv
  exact wpAny_pure (Out.same ho rfl hQ)
/-- x += e -/
theorem AugI_ {e : Expr} {p : Pos} {i j : Int} {m : List (Str × Option D)} {Q : Fl → Led → Prop} {names : List (Str × NameKind)} {L : Addr} {cs : List (Str × Addr)} (he : EnvI env names L cs) (hk : (x, NameKind.local) ∈ names) (hL : (L, Ent.ns m) ∈ u) (hx : (x, some (.int i)) ∈ m)
    (h : Ev Γ n (eval e env) (fun d u1 => d = .int j ∧ On1 Γ (fun _ (_ _ : Unit) => True) n (fun v => storeName env x v) (.int (i + j)) (fun _ u2 => Q .next u2) u1) u) : Ex Γ n (exec (.AugAssign (.Name x p) .Add e pos) env) Q u := by
  rintro a ho rfl A dr os tk hA
  obtain ⟨μ, hn, nd, hs⟩ := ho.ns hL
  have hxx := hs x
  rw [lookup_of_mem nd hx] at hxx
  obtain ⟨v, hv, hi⟩ := hxx
  cases hi
  refine wpAny_AugAssign_Name (wpAny_loadName_local he.fn (he.kind hk) (he.loc ▸ hn) hv ?_)
  refine (h a ho rfl).to hA fun b tk v d st ob r q => ?_
  obtain ⟨rfl, q⟩ := q
  cases r
  refine PyProof.Rows.iadd_int ?_
  exact (q b ob rfl _ (.int _ _)).to hA fun c tk v2 d2 st2 oc r2 q2 => ⟨c, tk, .next, rfl, st.trans st2, oc, .next, q2⟩
/-- del l[i:] -/
theorem Delete_ {o e : Expr} {p p2 : Pos} {Q : Fl → Led → Prop}
    (h : Ev Γ n (eval o env) (fun d1 u1 => Ev Γ n (eval e env) (fun d2 u2 => ∃ l ds lo u3, d1 = .raw (.ref l) ∧ d2 = .int lo ∧ Set1 u2 l (.list ds) (.list (ds.take (cut (some lo) 0 ds.length))) u3 ∧ ds.length ≤ sizeLine ∧ Q .next u3) u1) u) :
    Ex Γ n (exec (.Delete [.Subscript o (.Slice (some e) none none p) p2] pos) env) Q u := by
  rintro a ho rfl A dr os tk hA
  refine wpAny_Delete (wpAny_deleteEach_cons (wpAny_delete_Subscript ((h a ho rfl).to hA fun b tk v d st ob r q => wpAny_Slice ?_)))
  refine wpAny_mono ((q b ob rfl A dr os tk hA) : wpAny _ _ (evalPart (some e) env) _ _ _) ?_ (fun _ _ f => f)
  rintro v2 _ ⟨c, tk2, d2, rfl, st2, oc, r2, l, ds, lo, u3, rfl, rfl, hs, hz, q2⟩
  cases r
  cases r2
  rw [evalPart_none]
  refine wpAny_pure (wpAny_pure ?_)
  obtain ⟨cgs, cg, cu, ch⟩ := c
  rename_i tl
  have kp : Keep ch (ch.push { cls := .type "slice", data := .fields #[.int lo tl, .none, .none] }) := Keep.push ch _
  have og := oc.grow kp
  obtain ⟨vs, m, hl, hr⟩ := (og.ok _ hs.mem).1
  refine delItem_slice (vs := vs) (m := m) hl (Heap.IsSliceOf.new _ _ _ _) (by rw [hr.length]; exact hz) fun h' m' hp hb => ?_
  refine wpAny_deleteEach_nil ?_
  refine ⟨⟨cgs, cg, u3, h'⟩, _, .next, rfl, ((st.trans st2).trans (Step.view _ kp)).trans (Step.set hs hb), og.set hs hb ⟨_, m', hp, ?_⟩, .next, q2⟩
  rw [hr.length]; exact hr.take _
/-- l.pop() -/
theorem pop_ {l : Addr} {ds : List D} {d : D} {u' : Led} {Q : D → Led → Prop} (hs : Set1 u l (.list ds) (.list ds.dropLast) u') (hd : ds[ds.length - 1]? = some d) (hz : ds.length ≤ sizeLine) (hQ : Q d u') :
    OnL Γ (Is Γ.w.params) n (fun vs => call (.builtin "list.pop") vs) [.raw (.ref l)] Q u := by
  rintro ⟨gs, g, _, h⟩ ho rfl vs hv A dr os tk hA
  cases hv with | cons h1 h2 => ?_
  cases h2
  cases h1
  obtain ⟨vs, m, hl, hr⟩ := (ho.ok _ hs.mem).1
  obtain ⟨y, hy, hyi⟩ := hr.get hd
  have hT : (sh ⟨gs, g, [], h⟩ dr tk os).TypeIs (.ref l) "list" := ⟨_, hl, rfl⟩
  refine call_meets (S := fun _ R s => s.heap.get? l = some { cls := .type "list", dict := none, data := .seq vs.toArray m, slots := #[] } ∧ R (.ok (.ret y)) { s with heap := s.heap.update l (Obj.mapSeq fun xs => xs.eraseIdxIfInBounds (vs.toArray.size - 1)) }) F.slot_list_pop hT F.entry_list_pop (F.args_list_pop_1 _) (MeetsSeq.list_pop_last l vs.toArray m y (by rw [List.size_toArray, hr.length]; simpa using hy) (by rw [List.size_toArray, hr.length]; exact hz)) ⟨hl, ?_⟩
  obtain ⟨m', e⟩ := upd_list (f := fun xs => xs.eraseIdxIfInBounds (vs.toArray.size - 1)) (ys := vs.dropLast.toArray) hl (by
    rw [List.eraseIdxIfInBounds_toArray, List.size_toArray, List.eraseIdx_length_sub_one])
  have hb : ∀ b ob, b ≠ l → h.get? b = some ob → (h.update l (Obj.mapSeq fun xs => xs.eraseIdxIfInBounds (vs.toArray.size - 1))).get? b = some ob := fun b ob ne q => ((Heap.SameBut.update ..).2 b ne).trans q
  exact ⟨⟨gs, g, u', _⟩, _, _, rfl, Step.set hs hb, ho.set hs hb ⟨_, m', e, hr.dropLast⟩, hyi, hQ⟩
end
end Mine

namespace Mine
open PySem PySem.W PySem.Calls

theorem WS.mono {Γ : Cx} {α : Type} {n : Nat} {t : Sem α} {Φ Ψ : α → Sg → Prop} {a : Sg} (h : WS Γ n t Φ a) (e : ∀ x b, Step a b → Own Γ b.g b.u b.h → Φ x b → Ψ x b) : WS Γ n t Ψ a :=
  fun A dr os tk hA => wpAny_mono (h A dr os tk hA) (by rintro x _ ⟨b, tk', rfl, st, ob, q⟩; exact ⟨b, tk', rfl, st, ob, e x b st ob q⟩) (fun _ _ f => f)
theorem WS.up {Γ : Cx} {α : Type} {n m : Nat} {t : Sem α} {Φ : α → Sg → Prop} {a : Sg} (h : WS Γ n t Φ a) (e : n ≤ m) : WS Γ m t Φ a := fun A dr os tk hA => h A dr os tk (hA.le e)
section
variable {Γ : Cx} {n : Nat} {env : Env} {u : Led} {x : Str} {pos : Pos}
theorem genMade_ {k : Nat} {K : Frag} {f : Addr} {oc : Value} {od : Option Addr} {osl : Array (Option Value)} {fd : FuncData} {body : List Stmt} {ds : List D} {bs : List (Str × D)} {rs : List Str} {m : List (Str × Option D)} {items : List D} {Qe : Led → Prop} {Gx w : Led}
    (hΓ : Γ.K = K) (hK : K.lookup f = some ⟨oc, od, .func fd, osl⟩) (hcd : codeIn K fd.code fd.qualname = true) (hb : fd.body = .stmts body) (hbind : BindL Γ n fd [] ds bs u)
    (hm : Init bs rs m) (hnd' : decide ((m.map (·.1)).Nodup) = true) (hloc' : ((bs.map (·.1)).all fun y => decide (fd.scope.names.lookup y = some .local)) = true)
    (hcell' : (fd.scope.names.all fun y => decide (y.2 ≠ .cell)) = true) (hco : fd.scope.isCoroutine = false) (hgen : fd.scope.isGenerator = true) (hk : fd.scope.kind = .function)
    (hE : envChk fd.scope.names (fd.closure.map (·.1)) = true) (hG : fd.globals = mainGlobals) (hB : fd.builtins = builtinsNs) (hw : u.Perm (Gx ++ w))
    (h : ∀ A L, Ok k A → let env := callEnv fd L f; EnvI env fd.scope.names L fd.closure → ∀ HT, SL Γ A Qe JT items (.func body env) ((execs body env).wrap (fun f => .pure (.done (.ret (match f with | .ret v => v | _ => .none)))) HT id id) [] ((L, .ns m) :: Gx))
    {a : Sg} (ho : Own Γ a.g a.u a.h) (hu : a.u = u) {vs : List Value} (hv : IsAll Γ.w.params a.g vs ds) : WS Γ (n + 1) (call (.ref f) vs) (fun v b => GenMade Γ k a v b items Qe w) a := by
  refine (genCall hΓ hK hcd hb hbind hm hnd' hloc' hcell' hco hgen hk ho hu hv).mono ?_
  rintro v b st ob ⟨ga, L, rfl, hbu, gs0, hgs, hgk, hI⟩
  refine ⟨ga, (L, .ns m) :: Gx, gs0, _, rfl, ?_, hgs, hgk, rfl, hI, fun A hA => ?_⟩
  · rw [hbu]; exact hw.cons _
  · rw [ready_iff]
    intro a' dr os tk ow hu'
    exact sl_func (fun HT => h A L hA ⟨hk, rfl, rfl, rfl, hG, hB, hE⟩ HT) a' a' dr os tk (.refl _) ow hu' trivial

theorem itemMn {e i : Expr} {l : Addr} {ds : List D} {k : Int} {d : D} {Q : D → Led → Prop} (hL : (l, Ent.list ds) ∈ u) (h0 : k < 0) (h1 : -(ds.length : Int) ≤ k) (hz : (ds.length : Int) ≤ 2 ^ 62) (hd : ds[(k + ds.length).toNat]? = some d) (hQ : Q d u)
    (hs : ∀ o t, subscripted i false o (.int k t) = operate [o, .int k t] (getItem o (.int k t)) := by intros; with_unfolding_all rfl) : On2 Γ (Is Γ.w.params) n (PyProof.Rows.subscriptTail e i) (.raw (.ref l)) (.int k) Q u := by
  rintro s ho rfl v x hv hx A dr os tk hA
  cases hx with | int _ t => ?_
  cases hv
  obtain ⟨vs, m, hl, hr⟩ := (ho.ok _ hL).1
  obtain ⟨y, hy, hi⟩ := hr.get hd
  have hL : s.h.IsList _ _ := ⟨_, hl, rfl, _, rfl⟩
  exact PyProof.Rows.tail_any ⟨_, hl, rfl⟩ slot_list_getitem.lookup (PySem.wpAny_getItem_list_neg hL h0 (by rw [List.size_toArray, hr.length]; exact h1) (by omega) (by rw [List.size_toArray, hr.length]; simpa using hy) (Out.same ho hi hQ)) (hs _ _)
theorem SL.sub {A : Around} {Qe : Led → Prop} {J : Sg → Sg → Prop} {items : List D} {c : Code} {t : Sem PySem.Fin} {fs : List Frame} {u u' : Led} (hJ : Stable Γ J) (d : u'.Sublist u) (h : SL Γ A Qe J items c t fs u') : SL Γ A Qe J items c t fs u := by
  rintro a₀ ⟨gs, g, uu, hp⟩ dr os tk st ow rfl j
  have s2 : Step ⟨gs, g, uu, hp⟩ ⟨gs, g, u', hp⟩ := Step.sub d
  exact h a₀ ⟨gs, g, u', hp⟩ dr os tk (st.trans s2) (ow.sub d) rfl (hJ _ _ _ j ow s2 (ow.sub d))
theorem sl_ind {ι : Type} {A : Around} {Qe : Led → Prop} {c : Code} {t : Sem PySem.Fin} {fs : List Frame} (items : ι → List D) (led : ι → Led) (μ : ι → Nat)
    (step : ∀ i, (∀ j, μ j < μ i → SL Γ A Qe JT (items j) c t fs (led j)) → SL Γ A Qe JT (items i) c t fs (led i)) : ∀ i, SL Γ A Qe JT (items i) c t fs (led i) := by
  have key : ∀ k i, μ i < k → SL Γ A Qe JT (items i) c t fs (led i) := by
    intro k
    induction k with
    | zero => intro i h; omega
    | succ k ih => exact fun i h => step i fun j hj => ih j (by omega)
  exact fun i => key _ i (Nat.lt_succ_self _)
end
end Mine

namespace Mine
open PySem PySem.W PySem.Calls

theorem preSum_list : ∀ (ns : List Int) (k : Nat), k ≤ ns.length → preSum (fun i => (ns[i]?).getD 0) k = (ns.take k).sum := by
  intro ns k
  induction k with
  | zero => intro _; rfl
  | succ k ih =>
    intro h
    have hk : k < ns.length := by omega
    rw [List.take_add_one]
    show preSum _ k + (ns[k]?).getD 0 = _
    rw [ih (by omega), List.getElem?_eq_getElem hk, Option.toList_some, List.sum_append]
    simp
section
variable {Γ : Cx} {n : Nat} {env : Env} {u : Led} {x : Str} {pos : Pos}
theorem sumI {ns : List Int} {Q : D → Led → Prop} (hQ : Q (.int ns.sum) u) : OnL Γ (Is Γ.w.params) n (fun vs => call (.builtin "sum") vs) [.list (ns.map .int)] Q u := by
  rintro ⟨gs, g, uu, h⟩ ho rfl vs hv A dr os tk hA
  cases hv with | cons h1 h2 => ?_
  cases h2
  cases h1 with | list hl hr => ?_
  rename_i l vs m
  have hl' := ho.keep _ _ hl
  have hL : h.IsList l vs.toArray := ⟨_, hl', rfl, _, rfl⟩
  have ne : l ≠ h.objs.size := Nat.ne_of_lt (Heap.lt_size hl')
  have e : vs.length = ns.length := by rw [hr.length, List.length_map]
  refine call_sum_walkG ?_
  refine wpAny_pyIter_list hL ?_
  refine ⟨h.objs.size, _, _, _, _, _, fun i => (ns[i]?).getD 0, rfl, Walks.list (prog := Γ.prog) (w := Γ.w) (A := A.in1) (show A.in1.handled = none from hA.1) h.objs.size l ne vs.toArray, ⟨⟨_, Heap.get?_push_size _ rfl, rfl, rfl⟩, hL.at fun o q => Heap.get?_push_of_some _ q⟩, ?_, ?_, ?_⟩
  · intro b hb
    rcases List.mem_cons.mp hb with rfl | hb
    · show h.objs.size < (h.push _).objs.size
      rw [Heap.size_push]; exact Nat.lt_succ_self _
    · rw [List.mem_singleton.mp hb]; have := Heap.lt_size hl'
      show l < (h.push _).objs.size
      rw [Heap.size_push]; exact Nat.lt_succ_of_lt this
  · intro i v hp
    have hv : vs[i]? = some v := by simpa using hp
    have hi := (List.getElem?_eq_some_iff.mp hv).1
    have hn : ns[i]? = some (ns[i]'(by omega)) := List.getElem?_eq_getElem _
    obtain ⟨v', hv', hi'⟩ := hr.get (i := i) (d := .int (ns[i]'(by omega))) (by rw [List.getElem?_map, hn]; rfl)
    rw [hv] at hv'; cases hv'
    cases hi'
    exact ⟨_, by show _ = Value.int ((ns[i]?).getD 0) _; rw [hn]; rfl⟩
  · intro h' tk' t' hk
    have kp : Keep h h' := fun b o q => hk b o (by
      intro hm; rw [List.mem_singleton.mp hm] at q; exact Nat.lt_irrefl _ (Heap.lt_size q)) (Heap.get?_push_of_some _ q)
    rw [preSum_list ns _ (by rw [List.size_toArray, e]; exact Nat.le_refl _), List.size_toArray, e, List.take_length]
    exact Out.grow (a := ⟨gs, g, uu, h⟩) ho kp (.int _ _) hQ
end
end Mine

namespace Mine
open PySem PySem.W PySem.Calls

section
variable {prog : Program} {w : World} {A : Around} {E : Value → Shared → Prop} {s : Shared}
theorem list_no_keys : typeLookup (.type "list") (Str.ofString "keys") = pure none := am_miss_of_fast (by kernel_rfl)
/-- a list has no keys -/
theorem keys_list {a : Addr} {xs : Array Value} {k : Nat} {Q : Option Value → Shared → Prop} (hx : s.heap.get? a = some (PySem.W.listOf xs k)) (hA : A.handled = none)
    (h : ∀ h' tk, Keep s.heap h' → Q none { s with heap := h', toks := tk }) : wpAny (model prog w) A (getAttr? (.ref a) (Str.ofString "keys")) Q E s := by
  obtain ⟨hp, g, d, tk, os⟩ := s
  have hT : ∀ tk', (⟨hp, g, d, tk', os⟩ : Shared).TypeIs (.ref a) "list" := fun _ => ⟨_, hx, rfl⟩
  have f1 := sub_AttributeError
  have f3 := F.slot_list_getattribute.lookup
  have f4 := F.slot_list_getattribute.bind (.ref a)
  have f5 := am_list_getattr_none
  have hk : (["__module__", "__name__", "__qualname__", "__doc__", "__annotations__"] : List Str).contains (Str.ofString "keys") = false := by decide +kernel
  have hs : (Str.ofString "keys").length + 100 ≤ sizeLine := by decide +kernel
  unfold getAttr? getAttrBy? getAttrBy
  repeat (any_goals (first | assumption | exact hT _ | ((with_reducible show wpAny _ _ (call (Value.builtin "list.__getattribute__") _ _) _ _ _); refine call_meets F.slot_list_getattribute (hT _) am_entry_list_getattribute (F.args_list_getattribute_2 _ _) (meets_getattribute_miss_list a xs k #[] (Str.ofString "keys") _ list_no_keys hk hs) ⟨hx, hA, fun h' tk' e hx' => ?_⟩) | wp_step))
  obtain ⟨t', u', he⟩ := hx'.there
  show wpAny _ _ (getattributeRaised _ _ _ _ _ _ _) _ _ _
  unfold getattributeRaised
  repeat (any_goals (first | assumption | wp_step))
  exact h _ _ hx'.keeps
theorem entry_upd : entryFor table "dict.update.loop" = some Builtin.«dict.update.loop» := entryFor_of_tree (by kernel_rfl)
theorem plain_upd : plainId "dict.update.loop" = true := by decide +kernel
/-- pairs put into a dict, one behind the other -/
theorem upd_loop {d I l : Addr} {items : Array Value} {prs : List (Str × Value)} {h0 : Heap} {R : Result → Shared → Prop} (hh : A.handled = none) (hlI : l ≠ I) (hdI : d ≠ I) (hdl : d ≠ l) (hn : items.size = prs.length) (hz : prs.length ≤ 1000) (hnd : (prs.map (·.1)).Nodup)
    (hit : ∀ (i : Nat) (v : Value), items[i]? = some v → ∃ (a : Addr) (k : Str) (t : Tok) (x : Value) (n : Nat) (dd : Option Addr) (sl : Array (Option Value)), v = .ref a ∧ prs[i]? = some (k, x) ∧ a ≠ d ∧ a ≠ I ∧ h0.get? a = some (⟨.type "tuple", dd, .seq #[.str k t, x] n, sl⟩ : Obj))
    (hR : ∀ h' tk, h'.DictOf (PySem.strKind prog w) d prs → (∀ b o, b ≠ d → b ≠ I → h0.get? b = some o → h'.get? b = some o) → R (.ok (.ret .none)) { s with heap := h', toks := tk }) :
    ∀ (k i : Nat) (ti : Tok) (h : Heap) (tk : Nat), i + k = prs.length → h.DictOf (PySem.strKind prog w) d (prs.take i) → h.IsListIter I l i → h.IsList l items → (∀ b o, b ≠ d → b ≠ I → h0.get? b = some o → h.get? b = some o) →
      codeAny (model prog w) A (.builtin "dict.update.loop" ⟨[.ref d, .ref I, .int i ti, .none], []⟩) R { s with heap := h, toks := tk } := by
  have W := fun A' (hA' : A'.handled = none) => Walks.list (prog := prog) (w := w) (A := A') hA' I l hlI items
  intro k
  induction k with
  | zero =>
    intro i ti h tk hik hd hI hl hk
    have : i = prs.length := by omega
    subst this
    refine codeAny_builtin entry_upd ?_
    rw [Around.under_plainId plain_upd _]
    show wpAny _ _ (pyNext (.ref I) >>= _) _ _ _
    refine wpAny_bind ((W _ (show A.in1.handled = none from hh)).done _ _ _ ⟨hn ▸ hI, hl⟩ fun h' tk' hk' => ?_)
    show wpAny _ _ (Builtin.Dict.addKeywords d [] >>= fun _ => ret .none) _ _ _
    refine wpAny_bind (wpAny_pure (wpAny_pure (hR h' tk' ?_ fun b o h1 h2 e => hk' b o (by simpa using h2) (hk b o h1 h2 e))))
    rw [List.take_length] at hd
    obtain ⟨o, es, ep, ho, r⟩ := hd
    exact ⟨o, es, ep, hk' _ _ (by simpa using hdI) ho, r⟩
  | succ k ih =>
    intro i ti h tk hik hd hI hl hk
    refine codeAny_builtin entry_upd ?_
    rw [Around.under_plainId plain_upd _]
    show wpAny _ _ (pyNext (.ref I) >>= _) _ _ _
    refine wpAny_bind ((W _ (show A.in1.handled = none from hh)).item i _ _ _ (by omega) ⟨hI, hl⟩ fun v h' tk' hv hst' hk' => ?_)
    obtain ⟨a, k', t, x, n, dd, sl, rfl, hp, had, haI, hg⟩ := hit i v hv
    have ho := hk' _ _ (by simpa using haI) (hk _ _ had haI hg)
    have hT : ({ s with heap := h', toks := tk' } : Shared).TypeIs (.ref a) "tuple" := ⟨_, ho, rfl⟩
    have hd' : h'.DictOf (PySem.strKind prog w) d (prs.take i) := by
      obtain ⟨o, es, ep, ho, r⟩ := hd
      exact ⟨o, es, ep, hk' _ _ (by simpa using hdI) ho, r⟩
    have htk : prs.take (i + 1) = prs.take i ++ [(k', x)] := by rw [List.take_add_one, hp]; rfl
    have hnew : k' ∉ (prs.take i).map (·.1) := by
      have nd2 : ((prs.take (i + 1)).map (·.1)).Nodup := ((List.take_sublist _ _).map _).nodup hnd
      rw [htk, List.map_append, List.nodup_append] at nd2
      exact fun hm => nd2.2.2 _ hm k' (by simp) rfl
    have hst : stored (prs.take i) k' x = prs.take (i + 1) := by
      rw [htk]
      unfold stored
      rw [if_neg]
      intro hc
      obtain ⟨p, hp', e⟩ := List.any_eq_true.mp hc
      exact hnew (List.mem_map.mpr ⟨p, hp', by simpa using e⟩)
    refine wpAny_bind (wpAny_holding (wpAny_bind (wpAny_tryCatch ?_)))
    unfold Builtin.Dict.pairItems
    refine wpAny_bind (wpAny_typeOf hT ?_)
    rw [if_pos (by decide)]
    refine wpAny_bind (wpAny_seqItems ho rfl (wpAny_pure ?_))
    show wpAny _ _ (holding [.str k' t, x] (dictSet d (.str k' t) x)) _ _ _
    refine wpAny_holding (wpAny_dictSet_pairs (knd := PySem.strKind prog w) (k := k') (isStrOf_self k' t) hd' (fun h2 hd2 hb2 => ?_) (by simp only [List.length_take]; show _ ≤ 16777216; omega))
    refine wpAny_pure ⟨Code.quiet_builtin _ (by decide +kernel), ?_⟩
    have hb : ∀ b o, b ≠ d → h'.get? b = some o → h2.get? b = some o := fun b o ne e => (hb2.2 b ne).trans e
    exact ih (i + 1) _ h2 _ (by omega) (hst ▸ hd2) (hst'.1.at fun o e => hb _ _ (fun e' => hdI e'.symm) e) (hst'.2.at fun o e => hb _ _ (fun e' => hdl e'.symm) e) (fun b o h1 h3 e => hb b o h1 (hk' b o (by simpa using h3) (hk b o h1 h3 e)))
end
theorem pairs_of {P : Params} {g : Heap} : ∀ {ds : List (Str × D)} {vs : List Value}, IsAll P g vs (ds.map fun p => .tup [.str p.1, p.2]) → ∃ prs : List (Str × Value), IsF P g prs ds ∧
    ∀ (i : Nat) (v : Value), vs[i]? = some v → ∃ (a : Addr) (k : Str) (t : Tok) (x : Value) (n : Nat) (dd : Option Addr) (sl : Array (Option Value)), v = .ref a ∧ prs[i]? = some (k, x) ∧ g.get? a = some (⟨.type "tuple", dd, .seq #[.str k t, x] n, sl⟩ : Obj)
  | [], vs, h => by cases h; exact ⟨[], .nil, fun i v e => by simp at e⟩
  | (k, d) :: ds, vs, h => by
    cases h with | cons h1 h2 => ?_
    obtain ⟨prs, hf, hp⟩ := pairs_of h2
    cases h1 with | tup e hr => ?_
    rename_i a dd sl n xs
    cases hr with | cons a1 hr => ?_
    cases hr with | cons a2 hr => ?_
    cases hr
    cases a1
    rename_i x t
    refine ⟨(k, x) :: prs, .cons a2 hf, fun i v hv => ?_⟩
    cases i with
    | zero => simp at hv; subst hv; exact ⟨_, _, _, _, _, _, _, rfl, rfl, e⟩
    | succ i => simp at hv; simpa using hp i v hv
section
variable {Γ : Cx} {n : Nat} {env : Env} {u : Led} {x : Str} {pos : Pos}
theorem dictOfPairs {ds : List (Str × D)} {Q : D → Led → Prop} (nd : (ds.map (·.1)).Nodup) (hz : ds.length ≤ 1000) (hQ : Q (.dict ds) u) : OnL Γ (Is Γ.w.params) n (fun vs => call (.type "dict") vs) [.list (ds.map fun p => .tup [.str p.1, p.2])] Q u := by
  rintro ⟨gs, g, uu, h⟩ ho rfl vs hv A dr os tk hA
  cases hv with | cons h1 h2 => ?_
  cases h2
  cases h1 with | list hl hr => ?_
  rename_i l vs m
  obtain ⟨prs, hf, hp⟩ := pairs_of hr
  have hl' := ho.keep _ _ hl
  have e : vs.length = ds.length := by rw [hr.length, List.length_map]
  have ep : prs.length = ds.length := hf.length
  refine callType_codes (s := sh ⟨gs, g, uu, h⟩ dr tk os) (Q₁ := fun obj s₁ => obj = .ref h.objs.size ∧ s₁ = sh ⟨gs, g, uu, h.push { cls := .type "dict", data := .dict #[] }⟩ dr tk os) F.kt_called_dict (F.kt_typeCall_dict_1 _) F.entry_dict_init (kt_code_dict_new _ ⟨rfl, rfl⟩) ?_
  rintro obj s₁ ⟨rfl, rfl⟩
  have hnew : (h.push { cls := .type "dict", data := .dict #[] }).DictOf (PySem.strKind Γ.prog Γ.w) h.objs.size [] := Heap.DictOf.new h
  have hl1 := Heap.get?_push_of_some (h := h) { cls := .type "dict", data := .dict #[] } hl'
  refine ⟨hnew.typeIs (s := sh ⟨gs, g, uu, h.push _⟩ dr tk os), F.args_dict_init_2 _ _, ?_⟩
  unfold Builtin.«dict.__init__»
  refine wpAny_bind ?_
  unfold Builtin.Dict.selfAndRest
  refine wpAny_bind (wpAny_notOrdered_dict (hnew.typeIs (s := sh ⟨gs, g, uu, h.push _⟩ dr tk os)) ?_)
  show wpAny _ _ (pure (h.objs.size, [Value.ref l])) _ _ _
  refine wpAny_pure ?_
  show wpAny _ _ (Builtin.Dict.updateFrom "dict.__init__" h.objs.size (.ref l) [] .none) _ _ _
  unfold Builtin.Dict.updateFrom
  have hT : (sh ⟨gs, g, uu, h.push { cls := .type "dict", data := .dict #[] }⟩ dr tk os).TypeIs (.ref l) "list" := ⟨_, hl1, rfl⟩
  refine wpAny_bind (wpAny_typeOf hT ?_)
  rw [if_pos (by decide)]
  refine wpAny_bind (m := getAttr? (.ref l) (Str.ofString "keys")) (keys_list (s := sh ⟨gs, g, uu, h.push { cls := .type "dict", data := .dict #[] }⟩ dr tk os) hl1 (show A.in1.in1.handled = none from hA.1) fun h2 tk2 k2 => ?_)
  rw [if_pos (show (none : Option Value).isNone = true from rfl)]
  refine wpAny_bind (wpAny_rule ?_)
  have hl2 := k2 _ _ hl1
  have hL : h2.IsList l vs.toArray := ⟨_, hl2, rfl, _, rfl⟩
  have k02 : Keep h h2 := fun b o q => k2 _ _ (Heap.get?_push_of_some _ q)
  have hd2 : h2.DictOf (PySem.strKind Γ.prog Γ.w) h.objs.size [] := by
    obtain ⟨o, es, ep, ho, r⟩ := hnew
    exact ⟨o, es, ep, k2 _ _ ho, r⟩
  have hdlt : h.objs.size < h2.objs.size := by
    obtain ⟨o, es, ep, ho, r⟩ := hd2
    exact Heap.lt_size ho
  have hllt : l < h.objs.size := Heap.lt_size hl'
  refine wpAny_bind (wpAny_pyIter_list (s := { sh ⟨gs, g, uu, h.push { cls := .type "dict", data := .dict #[] }⟩ dr tk os with heap := h2, toks := tk2 }) hL ?_)
  refine wpAny_pure ⟨Code.quiet_builtin _ (by decide +kernel), ?_⟩
  refine upd_loop (s := sh ⟨gs, g, uu, h⟩ dr tk os) (h0 := h) (items := vs.toArray) (prs := prs) (l := l) (show A.in1.handled = none from hA.1) (Nat.ne_of_lt (Nat.lt_trans hllt hdlt)) (Nat.ne_of_lt hdlt) (Nat.ne_of_gt hllt) (by rw [List.size_toArray, e, ep]) (by omega) (by rw [hf.keys]; exact nd) ?_ ?_ prs.length 0 0 _ _ (by omega) ?_ ⟨_, Heap.get?_push_size _ rfl, rfl, rfl⟩ (hL.at fun o q => Heap.get?_push_of_some _ q) (fun b o _ _ q => Heap.get?_push_of_some _ (k02 _ _ q))
  · intro i v hv
    obtain ⟨a, k, t, x, n, dd, sl, rfl, h1, h2'⟩ := hp i v (by simpa using hv)
    have := Heap.lt_size (ho.keep _ _ h2')
    exact ⟨a, k, t, x, n, dd, sl, rfl, h1, Nat.ne_of_lt this, Nat.ne_of_lt (Nat.lt_trans this hdlt), ho.keep _ _ h2'⟩
  · intro h' tk' hd' hk'
    have kp : Keep h h' := fun b o q => hk' b o (fun e => by rw [e] at q; exact Nat.lt_irrefl _ (Heap.lt_size q)) (fun e => by rw [e] at q; exact Nat.lt_asymm (Heap.lt_size q) hdlt) q
    have oh := ho.grow kp
    have hS : DictS Γ.w.params h' h.objs.size prs := DictS.of hd' (notMods ho)
    have hfr : ∀ a ∈ [h.objs.size], a ∉ uu.map (·.1) := fun a ha hm => by
      rw [List.mem_singleton.mp ha] at hm; exact Nat.lt_irrefl _ (ho.lt _ hm)
    have st : Step ⟨gs, g, uu, h⟩ ⟨gs, addTo g h' [h.objs.size], uu, h'⟩ := Step.grow (S := [h.objs.size]) oh kp (fun a ha => by rw [List.mem_singleton.mp ha]; exact fresh_size h)
    refine ⟨rfl, ⟨gs, addTo g h' [h.objs.size], uu, h'⟩, tk', _, rfl, st, oh.add hfr, .dict (hS.at fun o q => addTo_get q (.inr (.head _))) (hf.keep (addTo_keep oh.keep)), hQ⟩
  · obtain ⟨o, es, ep, ho, r⟩ := hd2
    exact ⟨o, es, ep, Heap.get?_push_of_some _ ho, r⟩
end
end Mine

namespace Mine
open PySem PySem.W PySem.Calls

section
variable {Γ : Cx} {n : Nat} {env : Env} {u : Led} {x : Str} {pos : Pos}
theorem compGen_ {k : Nat} {elt target iter : Expr} {scope : Scope} {cl : List (Str × Addr)} {names : List (Str × NameKind)} {rs : List Str} {items : List D} {el : D → D} {Qe : Led → Prop} {w : Led} {Q : D → Led → Prop} (hnk : k + 1 ≤ n)
    (hclos : closureFor scope env = pure cl) (hn : (relabel scope env).names = names) (hch : compChk scope rs = true) (hE : envChk names (cl.map (·.1)) = true) (hkind : scope.kind = .function) (hG : env.globals = mainGlobals) (hB : env.builtins = builtinsNs) (hz : items.length ≤ sizeLine)
    (hit : ∀ a, Own Γ a.g a.u a.h → a.u = u → WS Γ n (eval iter env) (fun v b => GenMade Γ k a v b items Qe w) a)
    (turn : GenElt Γ n elt target scope cl names env rs items el)
    (done : ∀ G', Qe G' → Q (.list (items.map el)) (G' ++ w))
    (hs : ∀ x, foldedSetIterable iter env x = pure x := by intro _; with_unfolding_all rfl) : Ev Γ n (eval (.ListComp elt [⟨target, iter, [], 0⟩] scope pos) env) Q u := by
  rintro a ho rfl A dr os tk hA
  have hch' := hch
  simp only [compChk, Bool.and_eq_true, decide_eq_true_eq, List.all_eq_true] at hch'
  rw [eval_ListComp]
  refine wpAny_comprehension_free (use := none) (Q := Out Γ (Is Γ.w.params) Q a dr os) rfl hs hclos hkind (fun x hx hl => ?_) (wpAny_mono (hit a ho rfl A dr os tk hA) ?_ (fun _ _ f => f.elim))
  · have := (hch'.1 x hx).2; rw [hl] at this; simpa using this
  rintro v _ ⟨b, tk1, rfl, st, ob0, ga, G, g0, gs, rfl, perm, hbg, hgk, hbare, hIs, hR⟩
  obtain ⟨hch'', hnd⟩ := hch'
  have hcell : ∀ y ∈ scope.names, y.2 ≠ .cell := fun y hy => (hch'' y hy).1
  have ob : Own Γ b.g (G ++ w) b.h := ob0.perm perm.symm
  refine wpAny_pyIter_gen (s := sh b dr tk1 os) (hIs.keeps ob.keep) ?_
  refine wpAny_newObj_type (wpAny_newFunctionEnv hcell (by intro y hy; simp at hy) (fun h₁ hns₁ hsb₁ => ?_) hkind)
  dsimp only [sh] at hns₁ hsb₁ ⊢
  generalize hH2 : b.h.push { cls := .type "list", dict := none, data := .seq ([] : List Value).toArray } = H2 at hns₁ hsb₁ ⊢
  have hC : H2.objs.size = b.h.objs.size + 1 := by rw [← hH2, Heap.size_push]
  have old : ∀ q o, b.h.get? q = some o → h₁.get? q = some o := fun q o e => by
    have hlt := Heap.lt_size e
    exact hsb₁.extBut q o (by rw [hC]; exact Nat.ne_of_lt (Nat.lt_succ_of_lt hlt)) (Heap.get?_push_of_some _ (hH2 ▸ Heap.get?_push_of_some _ e))
  have hDC : b.h.objs.size ≠ H2.objs.size := by omega
  have hD₁ : h₁.get? b.h.objs.size = some (PySem.W.listOf ([] : List Value).toArray 0) := hsb₁.extBut _ _ hDC (Heap.get?_push_of_some _ (hH2 ▸ Heap.get?_push_size _ rfl))
  have fresh' : ∀ q, b.h.objs.size ≤ q → b.h.get? q = none ∧ b.g.get? q = none ∧ q ∉ (G ++ w).map (·.1) := fun q hq => by
    have e1 : b.h.get? q = none := by
      cases e : b.h.get? q with
      | none => rfl
      | some o => exact absurd (Heap.lt_size e) (Nat.not_lt.mpr hq)
    refine ⟨e1, ?_, fun hm => ?_⟩
    · cases e : b.g.get? q with
      | none => rfl
      | some o => rw [ob.keep _ _ e] at e1; cases e1
    · obtain ⟨p, hp, rfl⟩ := List.mem_map.mp hm
      obtain ⟨o, e⟩ := (ob.ok p hp).1.lt
      rw [e1] at e; cases e
  have fD := fresh' b.h.objs.size (Nat.le_refl _)
  have fC := fresh' H2.objs.size (by omega)
  have o1 : Own Γ b.g ((H2.objs.size, .ns (rs.map fun y => (y, none))) :: (b.h.objs.size, .list []) :: (G ++ w)) h₁ := by
    have o0 : Own Γ b.g (G ++ w) h₁ := ob.grow old
    refine ⟨o0.base, o0.keep, ?_, ?_⟩
    · rw [List.map_cons, List.map_cons, List.nodup_cons, List.nodup_cons, List.mem_cons, not_or]
      exact ⟨⟨fun e => hDC e.symm, fC.2.2⟩, fD.2.2, ob.nodup⟩
    · intro p hp
      rcases List.mem_cons.mp hp with rfl | hp
      · refine ⟨⟨_, hns₁, by rw [keysNone]; exact hnd, fun y => ?_⟩, fC.2.1⟩
        rcases lookNone rs y with e | e <;> rw [e] <;> rfl
      · rcases List.mem_cons.mp hp with rfl | hp
        · exact ⟨⟨[], 0, hD₁, .nil⟩, fD.2.1⟩
        · exact o0.ok p hp
  have envi : EnvI (compEnvC scope cl H2.objs.size env) names H2.objs.size cl := ⟨hkind, hn, rfl, rfl, hG, hB, hE⟩
  have pm : ∀ (G : Led) (e1 e2 : Ent), (G ++ (H2.objs.size, e1) :: (b.h.objs.size, e2) :: w).Perm ((H2.objs.size, e1) :: (b.h.objs.size, e2) :: (G ++ w)) := fun G e1 e2 => List.perm_middle.trans (List.perm_middle.cons _)
  have l1 : ∀ z, Step ⟨z, b.g, G ++ w, b.h⟩ ⟨z, b.g, (H2.objs.size, .ns (rs.map fun y => (y, none))) :: (b.h.objs.size, .list []) :: (G ++ w), h₁⟩ := by
    refine fun z => ⟨.refl _, .refl _, fun q o e nq => ⟨old _ _ e, fun hm => ?_, id⟩⟩
    rw [List.map_cons, List.map_cons] at hm
    rcases List.mem_cons.mp hm with z | hm
    · dsimp only at z e; rw [z, fC.1] at e; cases e
    · rcases List.mem_cons.mp hm with z | hm
      · dsimp only at z e; rw [z, fD.1] at e; cases e
      · exact nq hm
  let Inv : Nat → Shared → Prop := fun k s => ∃ (i : Nat) (c : Sg) (tkc : Nat) (m' : List (Str × Option D)) (G' : Led) (gs' : GenState), i + k = items.length ∧ s = sh c dr tkc os ∧ Own Γ c.g c.u c.h ∧ c.u = (H2.objs.size, .ns m') :: (b.h.objs.size, .list ((items.take i).map el)) :: (G' ++ w) ∧ m'.map (·.1) = rs ∧
    (∀ z, Step ⟨z, b.g, G ++ w, b.h⟩ ⟨z, c.g, c.u, c.h⟩) ∧ GB g0 c.gs ∧ c.gs[g0.size]? = some gs' ∧ Ready Γ A.in1 Qe (items.drop i) G' gs'
  have skip : ∀ {g' h' : Heap}, Keep b.g g' → Keep g' h' → GoSkip h' ga := fun k1 k2 => by
    obtain ⟨o, nm, qn, e, hc, hd, _⟩ := (hIs.keeps k1).keeps k2
    exact ⟨o, _, _, e, hc, hd, by decide⟩
  have loop : codeAny (model Γ.prog Γ.w) A (.compLoop (.ListComp elt [⟨target, iter, [], 0⟩] scope pos) 0 (.ref ga) (.ref b.h.objs.size) (compEnvC scope cl H2.objs.size env))
      (compPost (model Γ.prog Γ.w) A (fun _ _ => False) none (Out Γ (Is Γ.w.params) Q a dr os) (.ref b.h.objs.size) H2.objs.size) (sh ⟨b.gs, b.g, (H2.objs.size, .ns (rs.map fun y => (y, none))) :: (b.h.objs.size, .list []) :: (G ++ w), h₁⟩ dr (tk1 + 0) os) := by
    have hA1 : Ok k A.in1 := (hA.le hnk).in1
    refine codeAny_compLoopG Inv ?_ items.length ⟨0, _, _, _, G, gs, by omega, rfl, o1, rfl, by simp [Function.comp_def], l1, hbg ▸ GB.start g0 gs, by show b.gs[g0.size]? = _; rw [hbg]; exact Array.getElem?_push_size .., hR _ hA1⟩
    rintro kk s ⟨i, c, tkc, m', G', gs', hik, rfl, oc, hcu, hm', stc, gb, hgs, hrd⟩
    have oc' : Own Γ c.g (G' ++ (H2.objs.size, .ns m') :: (b.h.objs.size, .list ((items.take i).map el)) :: w) c.h := (hcu ▸ oc).perm (pm _ _ _)
    have kc : Keep b.g c.g := (stc #[]).keep
    refine genStep (W := (H2.objs.size, .ns m') :: (b.h.objs.size, .list ((items.take i).map el)) :: w) hA oc' hrd hgs gb (hIs.keeps kc) ?_ ?_
    · intro d r hd G'' g' h' gens' gs'' v tk' hbare' gb' hgs' o' st' hi' hr'
      have hi : i < items.length := by
        have := congrArg List.length hd
        simp at this; omega
      have hdi : items[i]? = some d := by
        have e0 : (items.drop i)[0]? = items[i]? := by rw [List.getElem?_drop]; simp
        rw [← e0, hd]; rfl
      have hdr : items.drop (i + 1) = r := by
        have : items.drop (i + 1) = (items.drop i).drop 1 := by rw [List.drop_drop]
        rw [this, hd]; rfl
      have o2 : Own Γ g' ((H2.objs.size, .ns m') :: (b.h.objs.size, .list ((items.take i).map el)) :: (G'' ++ w)) h' := o'.perm (pm _ _ _).symm
      refine go_skip (s := sh ⟨gens', g', _, h'⟩ dr tk' os) (skip (kc.trans (st' #[]).keep) o'.keep) ?_
      refine Wg.to (turn i d _ _ _ m' (G'' ++ w) hdi hm' envi ⟨gens', g', _, h'⟩ o2 rfl v hi') hA (dr := dr) (os := os) (tk := tk') fun e tke _ _ st2 oe _ q2 => ?_
      refine wpAny_pure ?_
      rw [if_pos rfl]
      refine (q2 e oe rfl).to hA fun f tkf x dx st3 of r3 q3 => ?_
      obtain ⟨rfl, m2, hm2, hfu⟩ := q3
      have key := append_ (Γ := Γ) (n := n) (l := b.h.objs.size) (ds := (items.take i).map el) (d := el d) (u := f.u) (Q := fun _ u7 => u7 = (H2.objs.size, .ns m2) :: (b.h.objs.size, .list ((items.take i).map el ++ [el d])) :: (G'' ++ w)) (hfu ▸ Set1.there Set1.here) (by simp only [List.length_map, List.length_take]; omega) rfl
      refine (key f of rfl [.ref b.h.objs.size, x] (.cons (.raw _) (.cons r3 .nil))).to hA (dr := dr) (os := os) (tk := tkf) fun e3 tke3 _ _ st5 oe3 _ q5 => ?_
      have hstp := (st2.trans st3).trans st5
      refine ⟨kk - 1, by omega, i + 1, e3, tke3, m2, G'', gs'', by omega, rfl, oe3, ?_, hm2, fun z => ?_, gb'.step hstp.gens, hstp.gens.1 _ _ hgs', hdr ▸ hr'⟩
      · rw [q5, List.take_add_one, hdi]; simp
      · have s1 := stc z
        have s2 : Step ⟨z, c.g, c.u, c.h⟩ ⟨z, c.g, _, c.h⟩ := Step.perm (hcu ▸ pm _ _ _)
        have s3 := st' z
        have s4 : Step ⟨z, g', _, h'⟩ ⟨z, g', (H2.objs.size, .ns m') :: (b.h.objs.size, .list ((items.take i).map el)) :: (G'' ++ w), h'⟩ := Step.perm (pm _ _ _).symm
        have s5 : Step ⟨z, g', (H2.objs.size, .ns m') :: (b.h.objs.size, .list ((items.take i).map el)) :: (G'' ++ w), h'⟩ ⟨z, e3.g, e3.u, e3.h⟩ := ⟨.refl _, hstp.keep, hstp.fram⟩
        exact (((s1.trans s2).trans s3).trans s4).trans s5
    · intro hd G'' g' h' gens' tk' gk' o' st' hq'
      have hlen : i = items.length := by
        have := congrArg List.length hd
        simp at this; omega
      have hall : (items.take i).map el = items.map el := by rw [hlen, List.take_length]
      have o2 : Own Γ g' ((H2.objs.size, .ns m') :: (b.h.objs.size, .list ((items.take i).map el)) :: (G'' ++ w)) h' := o'.perm (pm _ _ _).symm
      obtain ⟨g2, o4, st4, is4⟩ := (o2.del Del.here).frz (gs := #[]) Del.here (Frz.list (a := b.h.objs.size) (ds := (items.take i).map el))
      have nd := o2.nodup
      rw [List.map_cons, List.map_cons, List.nodup_cons, List.mem_cons, not_or, List.nodup_cons] at nd
      have nsC := (o2.ok (H2.objs.size, .ns m') (.head _))
      obtain ⟨μ, ⟨oC, es, ep, hoC, rC⟩, _⟩ := nsC.1
      have gC : g2.get? H2.objs.size = none := ((st4.fram _ oC hoC (fun hm => by
        rcases List.mem_cons.mp hm with z | z
        · exact nd.1.1 z
        · exact nd.1.2 z)).2.2) nsC.2
      refine ⟨μ, ⟨oC, es, ep, hoC, rC⟩, fun h'' hs'' => ?_⟩
      have hs2 : ∀ q ob, q ≠ H2.objs.size → h'.get? q = some ob → h''.get? q = some ob := fun q ob ne hq => (hs''.2 q ne).trans hq
      refine ⟨⟨gens', g2, G'' ++ w, h''⟩, tk', _, rfl, ?_, o4.off gC nd.1.2 hs2, hall ▸ is4, done G'' hq'⟩
      have s2 : Step ⟨#[], c.g, c.u, c.h⟩ ⟨#[], c.g, _, c.h⟩ := Step.perm (hcu ▸ pm _ _ _)
      have s4 : Step ⟨#[], g', _, h'⟩ ⟨#[], g', (H2.objs.size, .ns m') :: (b.h.objs.size, .list ((items.take i).map el)) :: (G'' ++ w), h'⟩ := Step.perm (pm _ _ _).symm
      have H0 := (((((stc #[]).trans s2).trans (st' #[])).trans s4).trans (Step.del Del.here)).trans st4
      have H1 : Step (hsg b) ⟨#[], b.g, G ++ w, b.h⟩ := Step.perm perm.symm
      have H := (st.hs.trans H1).trans (H0.off fC.1 hs2)
      exact ⟨hgk.trans gk', H.keep, H.fram⟩
  exact codeAny_compStart_list loop (wpAny_pyIter_gen (s := sh ⟨b.gs, b.g, _, h₁⟩ dr (tk1 + 0) os) (hIs.keeps o1.keep) loop)
end
end Mine

namespace Mine
open PySem PySem.W PySem.Calls
theorem g_len {P : Params} : nsIn (hd.heap_39 P) mainGlobals (Str.ofString "len") = some none := by kernel_rfl
theorem b_len : bootBuiltins (Str.ofString "len") = some (.builtin "len") := by kernel_rfl
theorem n_len : Str.ofString "len" ≠ Str.ofString "__name__" := by decide +kernel
theorem g_range {P : Params} : nsIn (hd.heap_39 P) mainGlobals (Str.ofString "range") = some none := by kernel_rfl
theorem b_range : bootBuiltins (Str.ofString "range") = some (.type "range") := by kernel_rfl
theorem n_range : Str.ofString "range" ≠ Str.ofString "__name__" := by decide +kernel
theorem g_str {P : Params} : nsIn (hd.heap_39 P) mainGlobals (Str.ofString "str") = some none := by kernel_rfl
theorem b_str : bootBuiltins (Str.ofString "str") = some (.type "str") := by kernel_rfl
theorem n_str : Str.ofString "str" ≠ Str.ofString "__name__" := by decide +kernel
theorem g_tuple {P : Params} : nsIn (hd.heap_39 P) mainGlobals (Str.ofString "tuple") = some none := by kernel_rfl
theorem b_tuple : bootBuiltins (Str.ofString "tuple") = some (.type "tuple") := by kernel_rfl
theorem n_tuple : Str.ofString "tuple" ≠ Str.ofString "__name__" := by decide +kernel
theorem g_isi {P : Params} : nsIn (hd.heap_39 P) mainGlobals (Str.ofString "isinstance") = some none := by kernel_rfl
theorem b_isi : bootBuiltins (Str.ofString "isinstance") = some (.builtin "isinstance") := by kernel_rfl
theorem n_isi : Str.ofString "isinstance" ≠ Str.ofString "__name__" := by decide +kernel
theorem g_max {P : Params} : nsIn (hd.heap_39 P) mainGlobals (Str.ofString "max") = some none := by kernel_rfl
theorem b_max : bootBuiltins (Str.ofString "max") = some (.builtin "max") := by kernel_rfl
theorem n_max : Str.ofString "max" ≠ Str.ofString "__name__" := by decide +kernel
theorem g_int {P : Params} : nsIn (hd.heap_39 P) mainGlobals (Str.ofString "int") = some none := by kernel_rfl
theorem b_int : bootBuiltins (Str.ofString "int") = some (.type "int") := by kernel_rfl
theorem n_int : Str.ofString "int" ≠ Str.ofString "__name__" := by decide +kernel
theorem g_abs {P : Params} : nsIn (hd.heap_39 P) mainGlobals (Str.ofString "abs") = some none := by kernel_rfl
theorem b_abs : bootBuiltins (Str.ofString "abs") = some (.builtin "abs") := by kernel_rfl
theorem n_abs : Str.ofString "abs" ≠ Str.ofString "__name__" := by decide +kernel
theorem g_sum {P : Params} : nsIn (hd.heap_39 P) mainGlobals (Str.ofString "sum") = some none := by kernel_rfl
theorem b_sum : bootBuiltins (Str.ofString "sum") = some (.builtin "sum") := by kernel_rfl
theorem n_sum : Str.ofString "sum" ≠ Str.ofString "__name__" := by decide +kernel
theorem g_dict {P : Params} : nsIn (hd.heap_39 P) mainGlobals (Str.ofString "dict") = some none := by kernel_rfl
theorem b_dict : bootBuiltins (Str.ofString "dict") = some (.type "dict") := by kernel_rfl
theorem n_dict : Str.ofString "dict" ≠ Str.ofString "__name__" := by decide +kernel
theorem g_list {P : Params} : nsIn (hd.heap_39 P) mainGlobals (Str.ofString "list") = some none := by kernel_rfl
theorem b_list : bootBuiltins (Str.ofString "list") = some (.type "list") := by kernel_rfl
theorem n_list : Str.ofString "list" ≠ Str.ofString "__name__" := by decide +kernel
theorem g_type {P : Params} : nsIn (hd.heap_39 P) mainGlobals (Str.ofString "type") = some none := by kernel_rfl
theorem b_type : bootBuiltins (Str.ofString "type") = some (.type "type") := by kernel_rfl
theorem n_type : Str.ofString "type" ≠ Str.ofString "__name__" := by decide +kernel
theorem g_enumerate {P : Params} : nsIn (hd.heap_39 P) mainGlobals (Str.ofString "enumerate") = some none := by kernel_rfl
theorem b_enumerate : bootBuiltins (Str.ofString "enumerate") = some (.type "enumerate") := by kernel_rfl
theorem n_enumerate : Str.ofString "enumerate" ≠ Str.ofString "__name__" := by decide +kernel
theorem g_callable {P : Params} : nsIn (hd.heap_39 P) mainGlobals (Str.ofString "callable") = some none := by kernel_rfl
theorem b_callable : bootBuiltins (Str.ofString "callable") = some (.builtin "callable") := by kernel_rfl
theorem n_callable : Str.ofString "callable" ≠ Str.ofString "__name__" := by decide +kernel
theorem g_next {P : Params} : nsIn (hd.heap_39 P) mainGlobals (Str.ofString "_law_next") = some (some (.ref 630)) := by kernel_rfl
theorem k_next {P : Params} : keepIn (hd.heap_39 P) (.ref 630) = true := by kernel_rfl
theorem g_state {P : Params} : nsIn (hd.heap_39 P) mainGlobals (Str.ofString "_law_state") = some (some (.ref 635)) := by kernel_rfl
theorem k_state {P : Params} : keepIn (hd.heap_39 P) (.ref 635) = true := by kernel_rfl
theorem g_text {P : Params} : nsIn (hd.heap_39 P) mainGlobals (Str.ofString "_law_text") = some (some (.ref 642)) := by kernel_rfl
theorem k_text {P : Params} : keepIn (hd.heap_39 P) (.ref 642) = true := by kernel_rfl
theorem g_words {P : Params} : nsIn (hd.heap_39 P) mainGlobals (Str.ofString "_law_words") = some (some (.ref 649)) := by kernel_rfl
theorem k_words {P : Params} : keepIn (hd.heap_39 P) (.ref 649) = true := by kernel_rfl
theorem g_kinds {P : Params} : nsIn (hd.heap_39 P) mainGlobals (Str.ofString "_law_kinds") = some (some (.ref 657)) := by kernel_rfl
theorem k_kinds {P : Params} : keepIn (hd.heap_39 P) (.ref 657) = true := by kernel_rfl
theorem g_change {P : Params} : nsIn (hd.heap_39 P) mainGlobals (Str.ofString "_law_change") = some (some (.ref 662)) := by kernel_rfl
theorem k_change {P : Params} : keepIn (hd.heap_39 P) (.ref 662) = true := by kernel_rfl
theorem g_table {P : Params} : nsIn (hd.heap_39 P) mainGlobals (Str.ofString "_law_table") = some (some (.ref 669)) := by kernel_rfl
theorem k_table {P : Params} : keepIn (hd.heap_39 P) (.ref 669) = true := by kernel_rfl
theorem g_moved {P : Params} : nsIn (hd.heap_39 P) mainGlobals (Str.ofString "_law_moved") = some (some (.ref 676)) := by kernel_rfl
theorem k_moved {P : Params} : keepIn (hd.heap_39 P) (.ref 676) = true := by kernel_rfl
theorem g_machine {P : Params} : nsIn (hd.heap_39 P) mainGlobals (Str.ofString "_law_machine") = some (some (.ref 681)) := by kernel_rfl
theorem k_machine {P : Params} : keepIn (hd.heap_39 P) (.ref 681) = true := by kernel_rfl
theorem g_rules {P : Params} : nsIn (hd.heap_39 P) mainGlobals (Str.ofString "_law_rules") = some (some (.ref 686)) := by kernel_rfl
theorem k_rules {P : Params} : keepIn (hd.heap_39 P) (.ref 686) = true := by kernel_rfl
theorem g_inh {P : Params} : nsIn (hd.heap_39 P) mainGlobals (Str.ofString "inherit_place") = some (some (.ref 443)) := by kernel_rfl
theorem k_inh {P : Params} : keepIn (hd.heap_39 P) (.ref 443) = true := by kernel_rfl
theorem g_merged {P : Params} : nsIn (hd.heap_39 P) mainGlobals (Str.ofString "merged_tokendefs") = some (some (.ref 450)) := by kernel_rfl
theorem k_merged {P : Params} : keepIn (hd.heap_39 P) (.ref 450) = true := by kernel_rfl
theorem g_tt {P : Params} : nsIn (hd.heap_39 P) mainGlobals (Str.ofString "_TokenType") = some (some (.ref 66)) := by kernel_rfl
theorem k_tt {P : Params} : keepIn (hd.heap_39 P) (.ref 66) = true := by kernel_rfl
theorem g_plain {P : Params} : nsIn (hd.heap_39 P) mainGlobals (Str.ofString "Plain") = some (some (.ref 600)) := by kernel_rfl
theorem k_plain {P : Params} : keepIn (hd.heap_39 P) (.ref 600) = true := by kernel_rfl
theorem g_plexer {P : Params} : nsIn (hd.heap_39 P) mainGlobals (Str.ofString "PlainLexer") = some (some (.ref 621)) := by kernel_rfl
theorem k_plexer {P : Params} : keepIn (hd.heap_39 P) (.ref 621) = true := by kernel_rfl
theorem g_pmatch {P : Params} : nsIn (hd.heap_39 P) mainGlobals (Str.ofString "PlainMatch") = some (some (.ref 573)) := by kernel_rfl
theorem k_pmatch {P : Params} : keepIn (hd.heap_39 P) (.ref 573) = true := by kernel_rfl
theorem g_lexer {P : Params} : nsIn (hd.heap_39 P) mainGlobals (Str.ofString "Lexer") = some (some (.ref 259)) := by kernel_rfl
theorem k_lexer {P : Params} : keepIn (hd.heap_39 P) (.ref 259) = true := by kernel_rfl
theorem g_include {P : Params} : nsIn (hd.heap_39 P) mainGlobals (Str.ofString "include") = some (some (.ref 273)) := by kernel_rfl
theorem k_include {P : Params} : keepIn (hd.heap_39 P) (.ref 273) = true := by kernel_rfl
theorem g_inherit {P : Params} : nsIn (hd.heap_39 P) mainGlobals (Str.ofString "_inherit") = some (some (.ref 294)) := by kernel_rfl
theorem k_inherit {P : Params} : keepIn (hd.heap_39 P) (.ref 294) = true := by kernel_rfl
theorem g_combined {P : Params} : nsIn (hd.heap_39 P) mainGlobals (Str.ofString "combined") = some (some (.ref 315)) := by kernel_rfl
theorem k_combined {P : Params} : keepIn (hd.heap_39 P) (.ref 315) = true := by kernel_rfl
theorem g_default {P : Params} : nsIn (hd.heap_39 P) mainGlobals (Str.ofString "default") = some (some (.ref 395)) := by kernel_rfl
theorem k_default {P : Params} : keepIn (hd.heap_39 P) (.ref 395) = true := by kernel_rfl
theorem g_names {P : Params} : nsIn (hd.heap_39 P) mainGlobals (Str.ofString "_law_names") = some (some (.ref 650)) := by kernel_rfl
abbrev stl (ws : List Str) : List D := ws.map .str
abbrev sRoot : Str := Str.ofString "root"
abbrev sS : Str := Str.ofString "s"
abbrev sT : Str := Str.ofString "t"
abbrev sU : Str := Str.ofString "u"
abbrev names4 : List Str := [sRoot, sS, sT, sU]
theorem is_names {Γ : Cx} (hK : Γ.K = hd.heap_39 Γ.w.params) : Is Γ.w.params Γ.H0 (.ref 650) (.list (stl names4)) := by
  refine .list (vs := [.str sRoot 1091, .str sS 1092, .str sT 1093, .str sU 1094]) (n := 0) (Γ.X _ _ (by rw [hK]; rfl)) (.cons (.str _ _) (.cons (.str _ _) (.cons (.str _ _) (.cons (.str _ _) .nil))))

-- where a thing stands in a row
local macro_rules | `(tactic| mem_news) => `(tactic| ((with_reducible (repeat (first | apply List.mem_cons_self | (apply HoleF.mem; assumption) | assumption | apply List.mem_cons_of_mem))); done))
-- the frame that is entered
local macro_rules | `(tactic| tb_rel) => `(tactic| ((with_reducible (repeat (first | apply Init.nil | apply Init.bind | apply Init.rest | apply CellLed.nil | (apply CellLed.bound; (focus mem_news)) | (apply CellLed.free; (focus with_unfolding_all rfl))))); done))
local macro_rules | `(tactic| tb_rel) => `(tactic| ((with_reducible (repeat (first | apply List.mem_cons_self | (apply HoleF.mem; assumption) | assumption | apply List.mem_cons_of_mem))); done))
-- setting
local macro_rules | `(tactic| tb_start) => `(tactic| ((with_reducible (repeat (first | apply Put.here | apply Set1.here | apply Del.here | apply Hole.here | (apply HoleF.at; assumption) | (apply Hole.set; assumption) | apply Put.there | apply Set1.there | apply Hole.there | apply Del.there))); done))
local macro_rules | `(tactic| kt_len) => `(tactic| exact Nat.le_of_ble_eq_true rfl)
-- what is frozen, seen anew
local macro_rules | `(tactic| kt_eqs) => `(tactic| ((with_reducible (repeat (first | apply ReO.hit | apply ReD.hit | apply ReO.same | apply ReD.same | apply ReU.cons | apply ReE.ns | apply ReE.cell | apply ReE.dict | apply ReM.cons | apply ReK.cons | apply ReM.same | apply ReK.same | apply ReE.same | apply ReU.same))); done))
-- one step: statements
local macro_rules | `(tactic| kd_addW) => `(tactic| (show Ex _ _ _ _ _; first
  | (show Ex _ _ (execs (_ :: _) _) _ _; refine cons_ ?_) | (show Ex _ _ (execs [] _) _ _; refine nil_ ?_)
  | (show Ex _ _ (exec (Stmt.Assign [Expr.Name _ _] _ _) _) _ _; refine Assign_ ?_)
  | (show Ex _ _ (exec (Stmt.If _ _ _ _) _) _ _; refine If_ ?_)
  | (show Ex _ _ (exec (Stmt.Return (some _) _) _) _ _; refine Return_ ?_)
  | (show Ex _ _ (exec (Stmt.Expr _ _) _) _ _; refine ExprU_ ?_)
  | (show Ex _ _ (exec (Stmt.Return none _) _) _ _; refine ReturnN_ ?_)
  | (show Ex _ _ (exec (Stmt.Break _) _) _ _; refine Break_ ?_)
  | (show Ex _ _ (exec (Stmt.Continue _) _) _ _; refine Continue_ ?_)
  | (show Ex _ _ (exec (Stmt.Pass _) _) _ _; refine Pass_ ?_)))
-- expressions
local macro_rules | `(tactic| kd_addB) => `(tactic| (show Ev _ _ _ _ _; first
  | (show Ev _ _ (eval (Expr.Name _ _) _) _ _; first
    | refine Name_ (by assumption) (by tb_rel) (by tb_rel) (by tb_rel) ?_
    | refine NameC_ (by assumption) (by tb_rel) (by tb_rel) (by tb_rel) ?_)
  | (show Ev _ _ (eval (Expr.Constant _ _ _) _) _ _; first | refine Int_ ?_ | refine Str_ ?_ | refine None_ ?_ | refine Bool_ ?_)
  | (show Ev _ _ (eval (Expr.Subscript _ _ _) _) _ _; (fail_if_success show Ev _ _ (eval (Expr.Subscript _ (Expr.Slice _ _ _ _) _) _) _ _); refine Sub_ ?_)
  | (show Ev _ _ (eval (Expr.BinOp _ _ _ _) _) _ _; refine BinOp_ ?_)
  | (show Ev _ _ (eval (Expr.Tuple _ _ _) _) _ _; refine Tuple_ ?_)
  | (show Ev _ _ (eval (Expr.List _ _) _) _ _; refine List_ ?_)
  | (show Ev _ _ (eval (Expr.Compare _ _ _ _) _) _ _; refine Compare_ ?_)
  | (show Ev _ _ (eval (Expr.IfExp _ _ _ _) _) _ _; refine IfExp_ ?_)
  | (show Ev _ _ (eval (Expr.UnaryOp _ _ _) _) _ _; refine UnaryOp_ ?_)
  | (show Ev _ _ (evalPart none _) _ _; refine partN_ ?_)
  | (show Ev _ _ (evalPart (some _) _) _ _; refine partS_ ?_)))
-- tests, arguments, targets
local macro_rules | `(tactic| kxs_still) => `(tactic| first
  | (show As _ _ _ _ _; first | (show As _ _ (spliced (backTo _ (starEach [] _))) _ _; refine argE_nil ?_) | refine argU_cons ?_)
  | (show Ts _ _ _ _ _; first
    | (show Ts _ _ (PySem.isTrue (Expr.Compare _ _ _ _) _ _) _ _; refine tCmp_ ?_)
    | (show Ts _ _ (PySem.isTrue (Expr.UnaryOp _ _ _) _ _) _ _; refine tNot_ ?_)
    | (show Ts _ _ (PySem.isTrue (Expr.BoolOp _ _ _) _ _) _ _; first | refine tAnd_ ?_ | refine tOr_ ?_))
  | (show On1 _ _ _ _ _ _ _; first
    | (show On1 _ _ _ (unaryOp _) _ _ _; refine negI ?_)
    | (show On1 _ _ _ (bindName _ _) _ _ _; refine bindN_ ?_)
    | (show On1 _ _ _ (fun v => storeName _ _ v) _ _ _; first
      | refine store_ (by assumption) (by tb_rel) (by tb_start) (by tb_start) ?_
      | refine storeC_ (by assumption) (by tb_rel) (by tb_rel) (by tb_start) ?_)
    | (show On1 _ _ _ (fun v => assign (Expr.Name _ _) _ v) _ _ _; refine asgName_ ?_)
    | (show On1 _ _ _ (fun v => assign (Expr.Tuple _ _ _) _ v) _ _ _; first | refine asgTup2_ ?_ | refine asgTup3_ ?_))
  | (show On2 _ _ _ _ _ _ _ _; first
    | (show On2 _ _ _ (binaryOp Operator.Add) (.int _) (.int _) _ _; refine addI ?_)
    | (show On2 _ _ _ (compareOp CmpOp.Eq) (.str _) (.str _) _ _; refine eqS ?_)
    | (show On2 _ _ _ (compareOp CmpOp.Lt) (.int _) (.int _) _ _; refine ltI ?_)
    | (show On2 _ _ _ (compareOp CmpOp.Eq) (.int _) (.int _) _ _; refine eqI ?_)
    | (show On2 _ _ _ (compareOp CmpOp.Is) _ .none _ _; refine isNone_ ?_)
    | (show On2 _ _ _ (compareOp CmpOp.IsNot) _ .none _ _; refine isntNone_ ?_)
    | (show On2 _ _ _ (binaryOp Operator.Sub) (.int _) (.int _) _ _; refine subI ?_)
    | (show On2 _ _ _ (compareOp CmpOp.Gt) (.int _) (.int _) _ _; refine gtI ?_)
    | (show On2 _ _ _ (compareOp CmpOp.GtE) (.int _) (.int _) _ _; refine geI ?_))
  | (show OnC _ _ _ _ _ _; refine onC_raw ?_)
  | (show AsgAll _ _ _ _ _ _; first | refine asgAll_cons ?_ | refine asgAll_nil ?_))
-- a builtin, a def called
local macro_rules | `(tactic| kcf_m) => `(tactic| (show Ev _ _ _ _ _; first
  | (show Ev _ _ (eval (Expr.Call (Expr.Name _ _) _ _ _) _) _ _; first
    | refine CallU_ (NameB_ (by assumption) (by assumption) (by tb_rel) g_len b_len n_len ⟨.builtin, ?_⟩)
    | refine CallU_ (NameB_ (by assumption) (by assumption) (by tb_rel) g_range b_range n_range ⟨.type, ?_⟩)
    | refine CallU_ (NameG_ (by assumption) (by assumption) (by tb_rel) g_next (.raw _) ⟨Callee.fn (by assumption) k_next, ?_⟩)
    | refine CallU_ (NameG_ (by assumption) (by assumption) (by tb_rel) g_text (.raw _) ⟨Callee.fn (by assumption) k_text, ?_⟩)
    | refine CallU_ (NameG_ (by assumption) (by assumption) (by tb_rel) g_words (.raw _) ⟨Callee.fn (by assumption) k_words, ?_⟩)
    | refine CallU_ (NameB_ (by assumption) (by assumption) (by tb_rel) g_str b_str n_str ⟨.type, ?_⟩)
    | refine CallU_ (NameB_ (by assumption) (by assumption) (by tb_rel) g_tuple b_tuple n_tuple ⟨.type, ?_⟩)
    | refine CallU_ (NameG_ (by assumption) (by assumption) (by tb_rel) g_kinds (.raw _) ⟨Callee.fn (by assumption) k_kinds, ?_⟩)
    | refine CallU_ (NameG_ (by assumption) (by assumption) (by tb_rel) g_moved (.raw _) ⟨Callee.fn (by assumption) k_moved, ?_⟩)
    | refine CallU_ (NameG_ (by assumption) (by assumption) (by tb_rel) g_change (.raw _) ⟨Callee.fn (by assumption) k_change, ?_⟩)
    | refine CallU_ (NameG_ (by assumption) (by assumption) (by tb_rel) g_tt (.raw _) ⟨Callee.fn (by assumption) k_tt, ?_⟩)
    | refine CallU_ (NameG_ (by assumption) (by assumption) (by tb_rel) g_plain (.raw _) ⟨Callee.fn (by assumption) k_plain, ?_⟩)
    | refine CallU_ (NameB_ (by assumption) (by assumption) (by tb_rel) g_abs b_abs n_abs ⟨.builtin, ?_⟩)
    | refine CallU_ (NameB_ (by assumption) (by assumption) (by tb_rel) g_list b_list n_list ⟨.type, ?_⟩)
    | refine CallU_ (NameG_ (by assumption) (by assumption) (by tb_rel) g_inh (.raw _) ⟨Callee.fn (by assumption) k_inh, ?_⟩)
    | refine CallU_ (NameG_ (by assumption) (by assumption) (by tb_rel) g_merged (.raw _) ⟨Callee.fn (by assumption) k_merged, ?_⟩)
    | refine CallU_ (NameB_ (by assumption) (by assumption) (by tb_rel) g_isi b_isi n_isi ⟨.builtin, ?_⟩)
    | refine CallU_ (NameB_ (by assumption) (by assumption) (by tb_rel) g_max b_max n_max ⟨.builtin, ?_⟩)
    | refine CallU_ (NameB_ (by assumption) (by assumption) (by tb_rel) g_int b_int n_int ⟨.type, ?_⟩)
    | refine CallU_ (NameB_ (by assumption) (by assumption) (by tb_rel) g_type b_type n_type ⟨.type, ?_⟩)
    | refine CallU_ (NameB_ (by assumption) (by assumption) (by tb_rel) g_dict b_dict n_dict ⟨.type, ?_⟩)
    | refine CallU_ (NameB_ (by assumption) (by assumption) (by tb_rel) g_sum b_sum n_sum ⟨.builtin, ?_⟩))
  | (show Ev _ _ (eval (Expr.Name _ _) _) _ _; first
    | refine NameB_ (by assumption) (by assumption) (by tb_rel) g_tuple b_tuple n_tuple ?_
    | refine NameB_ (by assumption) (by assumption) (by tb_rel) g_str b_str n_str ?_
    | refine NameB_ (by assumption) (by assumption) (by tb_rel) g_int b_int n_int ?_
    | refine NameG_ (by assumption) (by assumption) (by tb_rel) g_inherit (.raw _) ?_
    | refine NameG_ (by assumption) (by assumption) (by tb_rel) g_tt (.raw _) ?_
    | refine NameG_ (by assumption) (by assumption) (by tb_rel) g_lexer (.raw _) ?_
    | refine NameG_ (by assumption) (by assumption) (by tb_rel) g_include (.raw _) ?_
    | refine NameG_ (by assumption) (by assumption) (by tb_rel) g_default (.raw _) ?_
    | refine NameG_ (by assumption) (by assumption) (by tb_rel) g_combined (.raw _) ?_
    | refine NameG_ (by assumption) (by assumption) (by tb_rel) g_names (is_names (by assumption)) ?_)))
local macro_rules | `(tactic| kqd_in) => `(tactic| with_reducible first | kd_addW | kd_addB | kxs_still)
local macro_rules | `(tactic| kd_all) => `(tactic| repeat (first | (with_reducible (first | kd_addW | kd_addB | kxs_still)) | (with_reducible kcf_m)))





theorem next_ok {Γ : Cx} (hK : Γ.K = hd.heap_39 Γ.w.params) {u : Led} {f : Ent → Led} {st : Addr} {ns : List D} {k many : Int} {Q : D → Led → Prop} (hs : Hole st u (rng ns k) f) (hn : NsOk ns) (hk0 : 0 ≤ k) (hk1 : k < 2 ^ 40) (hm : 0 < many)
    (hQ : ∀ r, 0 ≤ r → r < many → Q (.int r) (f (rng ns (k + 1)))) : OnL Γ (Is Γ.w.params) 3 (fun vs => call (.ref 630) vs) [.raw (.ref st), .int many] Q u := by
  have hl := hn.pos
  have hl2 := hn.le
  have hs1 := hs.set (rng ns (k + 1))
  refine def_ hK rfl (by kernel_rfl) rfl (bs := [(Str.ofString "state", .raw (.ref st)), (Str.ofString "many", .int many)]) (rs := [Str.ofString "numbers", Str.ofString "at", Str.ofString "turn"]) ?_ (by tb_rel) (by kernel_rfl) (by kernel_rfl) (by kernel_rfl) rfl rfl rfl (by kernel_rfl) rfl rfl ?_
  · intro s g vs _ _ hv
    cases hv with | cons h1 hv => ?_
    cases hv with | cons h2 hv => ?_
    cases hv
    exact ⟨_, BindsTo.of_eq rfl, .cons h1 (.cons h2 .nil)⟩
  · intro L env he
    dsimp only at he
    refine cons_ ?_
    refine AssignSwap2_ (x := Str.ofString "numbers") (y := Str.ofString "at") ?_
    kd_all
    refine itemM (.tail _ hs1.mem) (by decide) (by decide) rfl ?_
    kd_all
    refine itemM (.tail _ hs1.mem) (by decide) (by decide) rfl ?_
    kd_all
    refine newTuple_ ?_ (by kt_len)
    refine ⟨_, _, rfl, ?_⟩
    kd_all
    refine AssignSub_ ?_
    kd_all
    refine setL_ (ds := [.list ns, .int k]) (by decide) (by decide) (show (1 : Int) < ((2 : Nat) : Int) by decide) (Set1.there hs1) ?_
    kd_all
    refine lenL (by omega) ?_
    refine fdivI (by omega) (nolong (by omega)) ?_
    kd_all
    refine lenL (by omega) (modI (by omega) ?_)
    have h1 : 0 ≤ k.fmod ns.length := Int.fmod_nonneg_of_pos _ (by omega)
    have h2 : k.fmod ns.length < ns.length := Int.fmod_lt_of_pos _ (by omega)
    obtain ⟨x, hx, hx0, hx1⟩ := hn.int (k.fmod ns.length).toNat (by omega)
    refine itemL h1 (by omega) hx ?_
    kd_all
    have h3 : 0 ≤ k.fdiv ns.length := Int.fdiv_nonneg hk0 (by omega)
    have h4 : k.fdiv ns.length ≤ k := by
      rw [Int.fdiv_eq_ediv_of_nonneg _ (by omega)]
      exact Int.ediv_le_self _ hk0
    refine fdivI (by omega) (nolong (by omega)) ?_
    kd_all
    refine mulI (mulok (by omega)) ?_
    kd_all
    refine modI (by omega) ?_
    exact ⟨_, _, .here, hQ _ (Int.fmod_nonneg_of_pos _ hm) (Int.fmod_lt_of_pos _ hm)⟩





/-- a text of good signs -/
def Tx (t : Str) : Prop := ∀ c ∈ t.cps.toList, c < 0x110000
theorem Tx.nil : Tx (Str.ofString "") := by intro c h; simp [show (Str.ofString "").cps.toList = [] from by decide +kernel] at h
theorem Tx.append {a b : Str} (h : Tx a) (k : Tx b) : Tx (a ++ b) := by
  intro c hc
  have : (a ++ b).cps = a.cps ++ b.cps := rfl
  rw [this, Array.toList_append, List.mem_append] at hc
  exact hc.elim (h c) (k c)
theorem Str.len_append (a b : Str) : (a ++ b).length = a.length + b.length := by
  show (a.cps ++ b.cps).size = _
  rw [Array.size_append]; rfl

abbrev abnc : Str := Str.ofString "ab\nc"
theorem abnc_len : abnc.length = 4 := by decide +kernel
theorem abnc_at (r : Int) (h0 : 0 ≤ r) (h1 : r < 4) : ∃ c, ((seqIndex? r abnc.length).bind fun j => abnc.cps[j]?) = some c ∧ c < 0x110000 := by
  rw [abnc_len]
  have : r = 0 ∨ r = 1 ∨ r = 2 ∨ r = 3 := by omega
  rcases this with rfl | rfl | rfl | rfl
  · exact ⟨97, by decide +kernel, by decide⟩
  · exact ⟨98, by decide +kernel, by decide⟩
  · exact ⟨10, by decide +kernel, by decide⟩
  · exact ⟨99, by decide +kernel, by decide⟩

theorem text_ok {Γ : Cx} (hK : Γ.K = hd.heap_39 Γ.w.params) {u : Led} {f : Ent → Led} {st : Addr} {ns : List D} {k many : Int} {Q : D → Led → Prop} (hs : Hole st u (rng ns k) f) (hn : NsOk ns) (hk0 : 0 ≤ k) (hk1 : k + 100 < 2 ^ 40) (hm : 0 ≤ many) (hm1 : many ≤ 20)
    (hQ : ∀ (t : Str) (k' : Int), (t.length : Int) = many → Tx t → k ≤ k' → k' ≤ k + many → Q (.str t) (f (rng ns k'))) : OnL Γ (Is Γ.w.params) 4 (fun vs => call (.ref 642) vs) [.raw (.ref st), .str abnc, .int many] Q u := by
  have hf := hs.all
  obtain rfl := hs.eq
  clear hs
  refine def_ hK rfl (by kernel_rfl) rfl (bs := [(Str.ofString "state", .raw (.ref st)), (Str.ofString "letters", .str abnc), (Str.ofString "many", .int many)]) (rs := [Str.ofString "text", Str.ofString "turn"]) ?_ (by tb_rel) (by kernel_rfl) (by kernel_rfl) (by kernel_rfl) rfl rfl rfl (by kernel_rfl) rfl rfl ?_
  · exact bind3 (X := fun s => Γ.K.In s.heap) (Z := Keep Γ.H0) fun _ _ _ _ => BindsTo.of_eq rfl
  · intro L env he
    dsimp only at he
    kd_all
    refine For_ (items := rangeD 0 (many - 0).toNat) (fun i u => ∃ (t : Str) (k' : Int) (o : Option D), t.length = i ∧ Tx t ∧ k ≤ k' ∧ k' ≤ k + i ∧ i ≤ many.toNat ∧ u = (L, .ns [(Str.ofString "state", some (.raw (.ref st))), (Str.ofString "letters", some (.str abnc)), (Str.ofString "many", some (.int many)), (Str.ofString "text", some (.str t)), (Str.ofString "turn", o)]) :: f (rng ns k')) ?_ ?_ ?_
    · kd_all
      refine range1 ⟨iterRange (by decide) (by decide) (by omega) (by omega), _, k, none, ?_, Tx.nil, by omega, by omega, by omega, rfl⟩
      decide +kernel
    · rintro i di _ hdi ⟨t, k', o, ht, hT, h1, h2, h3, rfl⟩
      obtain ⟨h4, rfl⟩ := rangeD_get hdi
      kd_all
      refine lenS (by rw [abnc_len]; decide) ?_
      kd_all
      refine next_ok hK (by tb_start) hn (by omega) (by omega) (by rw [abnc_len]; decide) ?_
      intro r hr0 hr1
      rw [abnc_len] at hr1
      obtain ⟨c, hc, hc1⟩ := abnc_at r hr0 hr1
      refine itemS (by omega) (by omega) hc ?_
      have hsz : t.length + (⟨#[c]⟩ : Str).length ≤ sizeLine := by
        have : (⟨#[c]⟩ : Str).length = 1 := rfl
        have : sizeLine = 16777216 := rfl
        omega
      refine addS hsz ?_
      kd_all
      refine ⟨t ++ ⟨#[c]⟩, _, _, ?_, hT.append ?_, ?_, ?_, ?_, rfl⟩
      · rw [Str.len_append, ht]; rfl
      · intro z hz; simp at hz; subst hz; exact hc1
      · omega
      · push_cast; omega
      · omega
    · rintro _ ⟨t, k', o, ht, hT, h1, h2, h3, rfl⟩
      kd_all
      refine ⟨_, _, .here, hQ t k' ?_ hT h1 ?_⟩
      · rw [ht, rangeD_length]; omega
      · rw [rangeD_length] at h2; omega




/-- the words of a rule -/
structure WOk (ws : List Str) : Prop where
  pos : 0 < ws.length
  le : ws.length ≤ 2
  each : ∀ w ∈ ws, 1 ≤ w.length ∧ w.length ≤ 2 ∧ Tx w

theorem words_ok {Γ : Cx} (hK : Γ.K = hd.heap_39 Γ.w.params) {u : Led} {f : Ent → Led} {st : Addr} {ns : List D} {k : Int} {Q : D → Led → Prop} (hs : Hole st u (rng ns k) f) (hn : NsOk ns) (hk0 : 0 ≤ k) (hk1 : k + 200 < 2 ^ 40)
    (hQ : ∀ (ws : List Str) (k' : Int), WOk ws → k ≤ k' → k' ≤ k + 7 → Q (.list (stl ws)) (f (rng ns k'))) : OnL Γ (Is Γ.w.params) 5 (fun vs => call (.ref 649) vs) [.raw (.ref st)] Q u := by
  have hf := hs.all
  obtain rfl := hs.eq
  clear hs
  refine def_ hK rfl (by kernel_rfl) rfl (bs := [(Str.ofString "state", .raw (.ref st))]) (rs := [Str.ofString "found", Str.ofString "turn"]) ?_ (by tb_rel) (by kernel_rfl) (by kernel_rfl) (by kernel_rfl) rfl rfl rfl (by kernel_rfl) rfl rfl ?_
  · exact bind1 (X := fun s => Γ.K.In s.heap) (Z := Keep Γ.H0) fun _ _ => BindsTo.of_eq rfl
  · intro L env he
    dsimp only at he
    kd_all
    refine newListM_ (fun l => ?_) (by kt_len)
    kd_all
    refine For2_ ?_
    kd_all
    refine (next_ok hK (by tb_start) hn hk0 (by omega) (by decide) ?_).up (by decide)
    intro r hr0 hr1
    kd_all
    refine range1 ⟨rangeD 0 (1 + r - 0).toNat, fun i u => ∃ (ws : List Str) (k' : Int) (o : Option D), ws.length = i ∧ (∀ w ∈ ws, 1 ≤ w.length ∧ w.length ≤ 2 ∧ Tx w) ∧ k ≤ k' ∧ k' ≤ k + 1 + 3 * i ∧ i ≤ 2 ∧ u = (l, .list (stl ws)) :: (L, .ns [(Str.ofString "state", some (.raw (.ref st))), (Str.ofString "found", some (.raw (.ref l))), (Str.ofString "turn", o)]) :: f (rng ns k'), iterRange (by decide) (by decide) (by omega) (by omega), ?_, ?_, ?_⟩
    · exact ⟨[], k + 1, none, rfl, by simp, by omega, by omega, by omega, rfl⟩
    · rintro i di _ hdi ⟨ws, k', o, hw, hW, h1, h2, h3, rfl⟩
      obtain ⟨h4, rfl⟩ := rangeD_get hdi
      kd_all
      refine Append_ ?_
      kd_all
      refine ⟨l, rfl, ?_, _, by mem_news⟩
      kd_all
      refine (next_ok hK (by tb_start) hn (by omega) (by omega) (by decide) ?_).up (by decide)
      intro r2 hr20 hr21
      kd_all
      refine (text_ok hK (by tb_start) hn (by omega) (by omega) (by omega) (by omega) ?_).up (by decide)
      intro t k2 ht hT hk2 hk3
      kd_all
      refine ⟨_, _, _, rfl, by tb_start, ?_, ?_⟩
      · have : sizeLine = 16777216 := rfl
        simp; omega
      · kd_all
        refine ⟨ws ++ [t], k2, _, by simp [hw], ?_, by omega, by push_cast; omega, by omega, by simp only [stl, List.map_append]; rfl⟩
        intro w hwm
        rcases List.mem_append.mp hwm with hwm | hwm
        · exact hW w hwm
        · rw [List.mem_singleton.mp hwm]
          exact ⟨by omega, by omega, hT⟩
    · rintro _ ⟨ws, k', o, hw, hW, h1, h2, h3, rfl⟩
      rw [rangeD_length] at hw h2 h3
      kqd_in
      refine freeze_ (a := l) (by tb_start) .list (by kt_eqs) ?_
      kd_all
      exact ⟨_, _, .here, hQ ws k' ⟨by omega, by omega, hW⟩ h1 (by omega)⟩



theorem kinds_ok {Γ : Cx} (hK : Γ.K = hd.heap_39 Γ.w.params) {u : Led} {Q : D → Led → Prop} (hQ : Q (.list (stl [Str.ofString "Name", Str.ofString "Number", Str.ofString "Comment"])) u) : OnL Γ (Is Γ.w.params) 1 (fun vs => call (.ref 657) vs) [] Q u := by
  refine def_ hK rfl (by kernel_rfl) rfl (bs := []) (rs := []) ?_ (by tb_rel) (by kernel_rfl) (by kernel_rfl) (by kernel_rfl) rfl rfl rfl (by kernel_rfl) rfl rfl ?_
  · exact bind0 (X := fun s => Γ.K.In s.heap) (Z := Keep Γ.H0) fun _ => BindsTo.of_eq rfl
  · intro L env he
    dsimp only at he
    kd_all
    refine newListF_ ?_ (by kt_len)
    exact ⟨_, _, .here, hQ⟩
/-- what a rule changes -/
inductive Ch where
  | no
  | one (s : Str)
  | many (l : List Str)
def Ch.d : Ch → D
  | .no => .none
  | .one s => .str s
  | .many l => .tup (stl l)
abbrev sPop : Str := Str.ofString "#pop"
abbrev sPush : Str := Str.ofString "#push"
def popS (k : Int) : Str := Str.ofString "#pop:" ++ Str.ofString (toString k)
def PartOk (s : Str) : Prop := s ∈ names4 ∨ s = sPop ∨ s = sPush
def ChOk : Ch → Prop
  | .no => True
  | .one s => PartOk s ∨ ∃ k : Int, 1 ≤ k ∧ k ≤ 3 ∧ s = popS k
  | .many l => 1 ≤ l.length ∧ l.length ≤ 3 ∧ ∀ s ∈ l, PartOk s
theorem names_at (r : Int) (h0 : 0 ≤ r) (h1 : r < 4) : ∃ s, (stl names4)[r.toNat]? = some (.str s) ∧ s ∈ names4 := by
  have : r = 0 ∨ r = 1 ∨ r = 2 ∨ r = 3 := by omega
  rcases this with rfl | rfl | rfl | rfl
  · exact ⟨sRoot, rfl, by simp⟩
  · exact ⟨sS, rfl, by simp⟩
  · exact ⟨sT, rfl, by simp⟩
  · exact ⟨sU, rfl, by simp⟩
theorem parts_at (r : Int) (h0 : 0 ≤ r) (h1 : r < 6) : ∃ s, (stl names4 ++ [.str sPop, .str sPush])[r.toNat]? = some (.str s) ∧ PartOk s := by
  have : r = 0 ∨ r = 1 ∨ r = 2 ∨ r = 3 ∨ r = 4 ∨ r = 5 := by omega
  rcases this with rfl | rfl | rfl | rfl | rfl | rfl
  · exact ⟨sRoot, rfl, .inl (by simp)⟩
  · exact ⟨sS, rfl, .inl (by simp)⟩
  · exact ⟨sT, rfl, .inl (by simp)⟩
  · exact ⟨sU, rfl, .inl (by simp)⟩
  · exact ⟨sPop, rfl, .inr (.inl rfl)⟩
  · exact ⟨sPush, rfl, .inr (.inr rfl)⟩
theorem small_log {a : Int} (h0 : 0 ≤ a) (h1 : a < 2 ^ 40) : a.natAbs.log2 < 1920 := by
  by_cases e : a.natAbs = 0
  · rw [e]; decide
  · have : a.natAbs < 2 ^ 40 := by omega
    have := (Nat.log2_lt e).mpr this
    omega
theorem one_log {a : Int} (h0 : 1 ≤ a) (h1 : a ≤ 3) : (Str.ofString (toString a)).length = 1 := by
  have : a = 1 ∨ a = 2 ∨ a = 3 := by omega
  rcases this with rfl | rfl | rfl <;> decide +kernel
theorem change_ok {Γ : Cx} (hK : Γ.K = hd.heap_39 Γ.w.params) {u : Led} {f : Ent → Led} {st : Addr} {ns : List D} {k : Int} {Q : D → Led → Prop} (hs : Hole st u (rng ns k) f) (hn : NsOk ns) (hk0 : 0 ≤ k) (hk1 : k + 200 < 2 ^ 40)
    (hQ : ∀ (c : Ch) (k' : Int), ChOk c → k ≤ k' → k' ≤ k + 6 → Q c.d (f (rng ns k'))) : OnL Γ (Is Γ.w.params) 5 (fun vs => call (.ref 662) vs) [.raw (.ref st)] Q u := by
  have hf := hs.all
  obtain rfl := hs.eq
  clear hs
  refine defC_ hK rfl (by kernel_rfl) rfl (bs := [(Str.ofString "state", .raw (.ref st))]) (rs := [Str.ofString "way"]) (cs := fun L => [(Str.ofString "parts", L + 1 + 1), (Str.ofString "state", L + 1)]) (led := fun L => [(L + 1 + 1, .cell none), (L + 1, .cell (some (.raw (.ref st))))]) ?_ (InitC.cell (by decide +kernel) (InitC.rest InitC.nil)) (by kernel_rfl) (by kernel_rfl) (fun L => rfl) (fun L => by tb_rel) (by kernel_rfl) (by kernel_rfl) (by kernel_rfl) rfl rfl rfl rfl (by kernel_rfl) rfl rfl ?_
  · intro g vs hv
    cases hv with | cons h1 hv => ?_
    cases hv
    exact ⟨_, rfl, .cons h1 .nil⟩
  · intro L env he
    dsimp only [List.cons_append, List.nil_append] at he ⊢
    kd_all
    refine (next_ok hK (by tb_start) hn hk0 (by omega) (by decide) ?_).up (by decide)
    intro way hw0 hw1
    kd_all
    refine ⟨_, rfl, ?_⟩
    by_cases c1 : way < 4
    · rw [if_pos (by simpa using c1)]
      kd_all
      exact ⟨_, .cons _ (.cons _ (.cons _ (.refl _))), hQ .no _ trivial (by omega) (by omega)⟩
    · rw [if_neg (by simpa using c1)]
      kd_all
      refine ⟨_, rfl, ?_⟩
      by_cases c2 : way < 8
      · rw [if_pos (by simpa using c2)]
        kd_all
        refine (next_ok hK (by tb_start) hn (by omega) (by omega) (by decide) ?_).up (by decide)
        intro r1 hr10 hr11
        obtain ⟨s1, e1, m1⟩ := names_at r1 hr10 hr11
        refine itemL hr10 (by omega) e1 ?_
        kd_all
        refine (next_ok hK (by tb_start) hn (by omega) (by omega) (by decide) ?_).up (by decide)
        intro r2 hr20 hr21
        kd_all
        refine strOfI (small_log (by omega) (by omega)) ?_
        have hl := one_log (a := 1 + r2) (by omega) (by omega)
        refine addS (by rw [hl]; exact Nat.le_of_ble_eq_true rfl) ?_
        kd_all
        refine newListF_ ?_ (by kt_len)
        kd_all
        have : way = 4 ∨ way = 5 ∨ way = 6 ∨ way = 7 := by omega
        rcases this with rfl | rfl | rfl | rfl
        · exact itemL (d := .str s1) (by decide) (by decide) rfl ⟨_, .cons _ (.cons _ (.cons _ (.refl _))), hQ (.one s1) _ (.inl (.inl m1)) (by omega) (by omega)⟩
        · exact itemL (d := .str sPop) (by decide) (by decide) rfl ⟨_, .cons _ (.cons _ (.cons _ (.refl _))), hQ (.one sPop) _ (.inl (.inr (.inl rfl))) (by omega) (by omega)⟩
        · exact itemL (d := .str (popS (1 + r2))) (by decide) (by decide) rfl ⟨_, .cons _ (.cons _ (.cons _ (.refl _))), hQ (.one (popS (1 + r2))) _ (.inr ⟨1 + r2, by omega, by omega, rfl⟩) (by omega) (by omega)⟩
        · exact itemL (d := .str sPush) (by decide) (by decide) rfl ⟨_, .cons _ (.cons _ (.cons _ (.refl _))), hQ (.one sPush) _ (.inl (.inr (.inr rfl))) (by omega) (by omega)⟩
      · rw [if_neg (by simpa using c2)]
        kd_all
        refine newListF_ ?_ (by kt_len)
        refine addLL (by kt_len) ?_
        kd_all
        refine comp_ (cl := [(Str.ofString "state", L + 1), (Str.ofString "parts", L + 1 + 1)]) (names := [(Str.ofString ".0", .local), (Str.ofString "turn", .local), (Str.ofString "_law_next", .globalImplicit), (Str.ofString "parts", .cell), (Str.ofString "state", .cell)]) (rs := [Str.ofString "turn"]) (by with_unfolding_all rfl) (by kernel_rfl) (by kernel_rfl) (by kernel_rfl) rfl rfl rfl ?_
        kd_all
        refine (next_ok hK (by tb_start) hn (by omega) (by omega) (by decide) ?_).up (by decide)
        intro r1 hr10 hr11
        kd_all
        refine range1 ⟨rangeD 0 (1 + r1 - 0).toNat, fun i acc u => ∃ (l : List Str) (k' : Int), acc = stl l ∧ l.length = i ∧ (∀ s ∈ l, PartOk s) ∧ k ≤ k' ∧ k' ≤ k + 2 + i ∧ i ≤ 3 ∧ u = (L, .ns [(Str.ofString "way", some (.int way))]) :: (L + 1 + 1, .cell (some (.list (stl names4 ++ [.str sPop, .str sPush])))) :: (L + 1, .cell (some (.raw (.ref st)))) :: f (rng ns k'), iterRange (by decide) (by decide) (by omega) (by omega), ?_, ?_, ?_, ?_⟩
        · rw [rangeD_length]; have : sizeLine = 16777216 := rfl; omega
        · exact ⟨[], _, rfl, rfl, by simp, by omega, by omega, by omega, rfl⟩
        · rintro i di acc _ C Dd m hdi hi _ ⟨l, k', rfl, hl, hP, h1, h2, h3, rfl⟩ hm cenv he2
          obtain ⟨h4, rfl⟩ := rangeD_get hdi
          obtain ⟨o, rfl⟩ := names1 hm
          kd_all
          refine tests0_ ?_
          rw [if_pos rfl]
          kd_all
          refine (next_ok hK (by tb_start) hn (by omega) (by omega) (by decide) ?_).up (by decide)
          intro r3 hr30 hr31
          obtain ⟨s, e, hp⟩ := parts_at r3 hr30 hr31
          refine itemL hr30 (by omega) e ?_
          refine ⟨_, _, _, _, .here, rfl, .here, .refl _, l ++ [s], _, by simp, by simp [hl], ?_, ?_, ?_, ?_, rfl⟩
          · intro z hz
            rcases List.mem_append.mp hz with hz | hz
            · exact hP z hz
            · rw [List.mem_singleton.mp hz]; exact hp
          · omega
          · push_cast; omega
          · omega
        · rintro acc _ _ ⟨l, k', rfl, hl, hP, h1, h2, h3, rfl⟩
          rw [rangeD_length] at hl h2 h3
          kd_all
          refine tupOfList (by have : sizeLine = 16777216 := rfl; simp; omega) ?_
          exact ⟨_, .cons _ (.cons _ (.cons _ (.refl _))), hQ (.many l) _ ⟨by omega, by omega, hP⟩ (by omega) (by omega)⟩





structure Rl where
  terms : List Str
  kind : Int
  ch : Ch
def Rl.d (r : Rl) : D := .tup [.list (stl r.terms), .int r.kind, r.ch.d]
structure RlOk (r : Rl) : Prop where
  terms : WOk r.terms
  k0 : 0 ≤ r.kind
  k3 : r.kind < 3
  ch : ChOk r.ch
abbrev Tbl := List (Str × List Rl)
def rlD (rs : List Rl) : D := .list (rs.map Rl.d)
def tblD (T : Tbl) : List (Str × D) := T.map fun p => (p.1, rlD p.2)
structure TblOk (T : Tbl) : Prop where
  keys : T.map (·.1) = names4
  ok : ∀ p ∈ T, p.2.length ≤ 3 ∧ ∀ r ∈ p.2, RlOk r
theorem storD_new {ds : List (Str × D)} {k : Str} {d : D} (h : k ∉ ds.map (·.1)) : storD ds k d = ds ++ [(k, d)] := by
  unfold storD
  rw [if_neg]
  intro e
  obtain ⟨p, hp, e⟩ := List.any_eq_true.mp e
  exact h (List.mem_map.mpr ⟨p, hp, by simpa using e⟩)
theorem tblD_keys (T : Tbl) : (tblD T).map (·.1) = T.map (·.1) := by simp [tblD, List.map_map, Function.comp_def]
theorem names_i {i : Nat} {di : D} (h : (stl names4)[i]? = some di) : ∃ s, di = .str s ∧ i < 4 ∧ names4.take (i + 1) = names4.take i ++ [s] ∧ s ∉ names4.take i := by
  have hi : i < 4 := by
    have := (List.getElem?_eq_some_iff.mp h).1
    simpa using this
  have : i = 0 ∨ i = 1 ∨ i = 2 ∨ i = 3 := by omega
  rcases this with rfl | rfl | rfl | rfl
  · cases h; exact ⟨sRoot, rfl, by decide, rfl, by decide +kernel⟩
  · cases h; exact ⟨sS, rfl, by decide, rfl, by decide +kernel⟩
  · cases h; exact ⟨sT, rfl, by decide, rfl, by decide +kernel⟩
  · cases h; exact ⟨sU, rfl, by decide, rfl, by decide +kernel⟩

theorem table_ok {Γ : Cx} (hK : Γ.K = hd.heap_39 Γ.w.params) {u : Led} {f : Ent → Led} {st : Addr} {ns : List D} {k : Int} {Q : D → Led → Prop} (hs : Hole st u (rng ns k) f) (hn : NsOk ns) (hk0 : 0 ≤ k) (hk1 : k + 2000 < 2 ^ 40)
    (hQ : ∀ (T : Tbl) (k' : Int), TblOk T → k ≤ k' → k' ≤ k + 200 → Q (.dict (tblD T)) (f (rng ns k'))) : OnL Γ (Is Γ.w.params) 7 (fun vs => call (.ref 669) vs) [.raw (.ref st)] Q u := by
  have hf := hs.all
  obtain rfl := hs.eq
  clear hs
  refine def_ hK rfl (by kernel_rfl) rfl (bs := [(Str.ofString "state", .raw (.ref st))]) (rs := [Str.ofString "found", Str.ofString "name", Str.ofString "rules", Str.ofString "turn", Str.ofString "terms", Str.ofString "kind"]) ?_ (by tb_rel) (by kernel_rfl) (by kernel_rfl) (by kernel_rfl) rfl rfl rfl (by kernel_rfl) rfl rfl ?_
  · exact bind1 (X := fun s => Γ.K.In s.heap) (Z := Keep Γ.H0) fun _ _ => BindsTo.of_eq rfl
  · intro L env he
    dsimp only at he
    kd_all
    refine Dict0_ (fun fd => ?_)
    kd_all
    refine For2_ ?_
    kd_all
    refine ⟨stl names4, fun i u => ∃ (T : Tbl) (k' : Int) (o1 o2 o3 o4 o5 : Option D), T.map (·.1) = names4.take i ∧ (∀ p ∈ T, p.2.length ≤ 3 ∧ ∀ r ∈ p.2, RlOk r) ∧ k ≤ k' ∧ k' ≤ k + 48 * i ∧ i ≤ 4 ∧ u = (fd, .dict (tblD T)) :: (L, .ns [(Str.ofString "state", some (.raw (.ref st))), (Str.ofString "found", some (.raw (.ref fd))), (Str.ofString "name", o1), (Str.ofString "rules", o2), (Str.ofString "turn", o3), (Str.ofString "terms", o4), (Str.ofString "kind", o5)]) :: f (rng ns k'), iterList, ?_, ?_, ?_⟩
    · exact ⟨[], k, _, _, _, _, _, rfl, by simp, by omega, by omega, by omega, rfl⟩
    · rintro i di _ hdi ⟨T, k', o1, o2, o3, o4, o5, hT, hO, h1, h2, h3, rfl⟩
      obtain ⟨s, rfl, h4, hT2, hnin⟩ := names_i hdi
      kd_all
      refine newListM_ (fun l => ?_) (by kt_len)
      kd_all
      refine For2_ ?_
      kd_all
      refine (next_ok hK (by tb_start) hn (by omega) (by omega) (by decide) ?_).up (by decide)
      intro r hr0 hr1
      kd_all
      refine range1 ⟨rangeD 0 (r - 0).toNat, fun j u => ∃ (rs : List Rl) (k2 : Int) (o3 o4 o5 : Option D), rs.length = j ∧ (∀ r ∈ rs, RlOk r) ∧ k' + 1 ≤ k2 ∧ k2 ≤ k' + 1 + 14 * j ∧ j ≤ 3 ∧ u = (l, .list (rs.map Rl.d)) :: (fd, .dict (tblD T)) :: (L, .ns [(Str.ofString "state", some (.raw (.ref st))), (Str.ofString "found", some (.raw (.ref fd))), (Str.ofString "name", some (.str s)), (Str.ofString "rules", some (.raw (.ref l))), (Str.ofString "turn", o3), (Str.ofString "terms", o4), (Str.ofString "kind", o5)]) :: f (rng ns k2), iterRange (by decide) (by decide) (by omega) (by omega), ?_, ?_, ?_⟩
      · exact ⟨[], k' + 1, _, _, _, rfl, by simp, by omega, by omega, by omega, rfl⟩
      · rintro j dj _ hdj ⟨rs, k2, p3, p4, p5, hr, hR, g1, g2, g3, rfl⟩
        obtain ⟨g4, rfl⟩ := rangeD_get hdj
        kd_all
        refine (words_ok hK (by tb_start) hn (by omega) (by omega) ?_).up (by decide)
        intro ws k3 hws hk31 hk32
        kd_all
        refine (next_ok hK (by tb_start) hn (by omega) (by omega) (by decide) ?_).up (by decide)
        intro kd hkd0 hkd1
        kd_all
        refine Append_ ?_
        kd_all
        refine ⟨l, rfl, ?_, _, by mem_news⟩
        kd_all
        refine (change_ok hK (by tb_start) hn (by omega) (by omega) ?_).up (by decide)
        intro c k4 hc hk41 hk42
        kd_all
        refine newTuple_ ?_ (by kt_len)
        kd_all
        refine ⟨_, _, _, rfl, by tb_start, ?_, ?_⟩
        · have : sizeLine = 16777216 := rfl
          simp; omega
        · kd_all
          refine ⟨rs ++ [⟨ws, kd, c⟩], k4, _, _, _, by simp [hr], ?_, by omega, by push_cast; omega, by omega, by simp only [List.map_append]; rfl⟩
          intro z hz
          rcases List.mem_append.mp hz with hz | hz
          · exact hR z hz
          · rw [List.mem_singleton.mp hz]; exact ⟨hws, hkd0, hkd1, hc⟩
      · rintro _ ⟨rs, k2, p3, p4, p5, hr, hR, g1, g2, g3, rfl⟩
        rw [rangeD_length] at hr g2 g3
        kqd_in
        refine freeze_ (a := l) (by tb_start) .list (by kt_eqs) ?_
        kqd_in
        refine AssignSub_ ?_
        kd_all
        have hTl := congrArg List.length hT
        have hsz : (tblD T).length ≤ sizeLine := by
          have : sizeLine = 16777216 := rfl
          simp only [List.length_map, List.length_take] at hTl
          simp only [tblD, List.length_map]
          omega
        refine setD_ (ds := tblD T) hsz (by tb_start) ?_
        kd_all
        have e : storD (tblD T) s (.list (rs.map Rl.d)) = tblD (T ++ [(s, rs)]) := by
          rw [storD_new (by rw [tblD_keys, hT]; exact hnin)]
          simp only [tblD, List.map_append]; rfl
        rw [e]
        refine ⟨T ++ [(s, rs)], k2, _, _, _, _, _, by rw [List.map_append, hT, hT2]; rfl, ?_, by omega, by push_cast; omega, by omega, rfl⟩
        intro p hp
        rcases List.mem_append.mp hp with hp | hp
        · exact hO p hp
        · rw [List.mem_singleton.mp hp]; exact ⟨by simp; omega, hR⟩
    · rintro _ ⟨T, k', o1, o2, o3, o4, o5, hT, hO, h1, h2, h3, rfl⟩
      simp only [List.length_cons, List.length_nil, List.map] at hT h2
      kqd_in
      kqd_in
      refine freeze_ (a := fd) (by tb_start) .dict (by kt_eqs) ?_
      kd_all
      exact ⟨_, _, .here, hQ T k' ⟨hT, hO⟩ h1 (by omega)⟩





/-- how a stack of states moves -/
def popN (p : Str) : Option Nat := if p = sPop then some 1 else if p = popS 1 then some 1 else if p = popS 2 then some 2 else if p = popS 3 then some 3 else none
def act (stack : List Str) (p : Str) : List Str :=
  if p = sPush then stack ++ [stack.getLastD sRoot]
  else match popN p with
    | some k => stack.take (max 1 (stack.length - k))
    | none => stack ++ [p]
def moved (stack : List Str) : Ch → List Str
  | .no => stack
  | .one s => act stack s
  | .many l => l.foldl act stack
inductive PK : Str → Prop
  | push : PK sPush
  | pop {p : Str} {k : Nat} (ne : (p == sPush) = false) (n : popN p = some k) (hk : k ≤ 3) (c : cutS p none (some 4) = sPop) (z : p.length ≤ 100) (w : (p.length ≤ 4 ∧ k = 1) ∨ (4 < p.length ∧ PySem.intText? (cutS p (some 5) none) = some (k : Int))) : PK p
  | goto {p : Str} (ne : (p == sPush) = false) (n : popN p = none) (c : (cutS p none (some 4) == sPop) = false) (z : p.length ≤ 100) (m : p ∈ names4) : PK p
theorem pk_part {p : Str} (h : PartOk p ∨ ∃ k : Int, 1 ≤ k ∧ k ≤ 3 ∧ p = popS k) : PK p := by
  rcases h with (h | rfl | rfl) | ⟨k, h0, h1, rfl⟩
  · simp only [List.mem_cons, List.not_mem_nil, or_false] at h
    rcases h with rfl | rfl | rfl | rfl <;> exact .goto (by decide +kernel) (by decide +kernel) (by decide +kernel) (by decide +kernel) (by simp)
  · exact .pop (k := 1) (by decide +kernel) (by decide +kernel) (by decide) (by decide +kernel) (by decide +kernel) (.inl (by decide +kernel))
  · exact .push
  · have : k = 1 ∨ k = 2 ∨ k = 3 := by omega
    rcases this with rfl | rfl | rfl
    · exact .pop (k := 1) (by decide +kernel) (by decide +kernel) (by decide) (by decide +kernel) (by decide +kernel) (.inr (by decide +kernel))
    · exact .pop (k := 2) (by decide +kernel) (by decide +kernel) (by decide) (by decide +kernel) (by decide +kernel) (.inr (by decide +kernel))
    · exact .pop (k := 3) (by decide +kernel) (by decide +kernel) (by decide) (by decide +kernel) (by decide +kernel) (.inr (by decide +kernel))
/-- the parts of a change -/
def Ch.parts : Ch → List D
  | .no => [.none]
  | .one s => [.str s]
  | .many l => stl l
def actD (stack : List Str) : D → List Str
  | .str p => act stack p
  | _ => stack
theorem moved_parts (stack : List Str) (c : Ch) : moved stack c = c.parts.foldl actD stack := by
  cases c with
  | no => rfl
  | one s => rfl
  | many l =>
    show l.foldl act stack = (l.map D.str).foldl actD stack
    rw [List.foldl_map]; rfl
theorem part_is {c : Ch} (h : ChOk c) {i : Nat} {d : D} (e : c.parts[i]? = some d) : d = .none ∨ ∃ p, d = .str p ∧ PK p := by
  have hm := List.mem_of_getElem? e
  cases c with
  | no => left; simpa [Ch.parts] using hm
  | one s => right; exact ⟨s, by simpa [Ch.parts] using hm, pk_part h⟩
  | many l =>
    right
    obtain ⟨p, hp, rfl⟩ := List.mem_map.mp hm
    exact ⟨p, rfl, pk_part (.inl (h.2.2 p hp))⟩
theorem act_pos {stack : List Str} (h : 0 < stack.length) (p : Str) : 0 < (act stack p).length ∧ (act stack p).length ≤ stack.length + 1 := by
  unfold act
  split
  · simp
  · split
    · simp only [List.length_take]; omega
    · simp
theorem actD_pos {stack : List Str} (h : 0 < stack.length) (d : D) : 0 < (actD stack d).length ∧ (actD stack d).length ≤ stack.length + 1 := by
  unfold actD
  split
  · exact act_pos h _
  · omega
theorem parts_len {c : Ch} (h : ChOk c) : c.parts.length ≤ 3 := by
  cases c with
  | no => decide
  | one s => exact (by decide : 1 ≤ 3)
  | many l => simp [Ch.parts]; exact h.2.1
theorem fold_step {l : List D} {i : Nat} {d : D} {s : List Str} (h : l[i]? = some d) : (l.take (i + 1)).foldl actD s = actD ((l.take i).foldl actD s) d := by
  rw [List.take_add_one, h, List.foldl_append]; rfl

theorem moved_ok {Γ : Cx} (hK : Γ.K = hd.heap_39 Γ.w.params) {u : Led} {stack : List Str} {c : Ch} {Q : D → Led → Prop} (hc : ChOk c) (h0 : 0 < stack.length) (h1 : stack.length ≤ 1000000)
    (hQ : Q (.list (stl (moved stack c))) u) : OnL Γ (Is Γ.w.params) 1 (fun vs => call (.ref 676) vs) [.list (stl stack), c.d] Q u := by
  refine def_ hK rfl (by kernel_rfl) rfl (bs := [(Str.ofString "stack", .list (stl stack)), (Str.ofString "change", c.d)]) (rs := [Str.ofString "parts", Str.ofString "part", Str.ofString "many"]) ?_ (by tb_rel) (by kernel_rfl) (by kernel_rfl) (by kernel_rfl) rfl rfl rfl (by kernel_rfl) rfl rfl ?_
  · exact bind2 (X := fun s => Γ.K.In s.heap) (Z := Keep Γ.H0) fun _ _ _ => BindsTo.of_eq rfl
  · intro L env he
    dsimp only at he
    kqd_in
    kqd_in
    refine WL.mono (Q := fun d u' => d = .tup c.parts ∧ u' = (L, .ns [(Str.ofString "stack", some (.list (stl stack))), (Str.ofString "change", some c.d), (Str.ofString "parts", none), (Str.ofString "part", none), (Str.ofString "many", none)]) :: u) ?_ ?_
    · refine IfExp_ (tValU_ ?_)
      kd_all
      cases c with
      | no =>
        refine isi_no .none (by decide +kernel) F.isi_meta_tuple F.sub_NoneType_tuple (truthyB ?_)
        rw [if_neg (by decide)]
        kd_all
        exact newTuple_ ⟨rfl, rfl⟩ (by kt_len)
      | one s =>
        refine isi_no .str (by decide +kernel) F.isi_meta_tuple F.sub_str_tuple (truthyB ?_)
        rw [if_neg (by decide)]
        kd_all
        exact newTuple_ ⟨rfl, rfl⟩ (by kt_len)
      | many l =>
        refine isi_yes .tup F.isi_meta_tuple F.sub_tuple_tuple (truthyB ?_)
        rw [if_pos rfl]
        kd_all
        exact ⟨rfl, rfl⟩
    rintro _ _ ⟨rfl, rfl⟩
    kd_all
    have hpl := parts_len hc
    refine For2_ ?_
    kd_all
    refine ⟨c.parts, fun i u' => ∃ (st : List Str) (o1 o2 : Option D), st = (c.parts.take i).foldl actD stack ∧ 0 < st.length ∧ st.length ≤ 1000000 + i ∧ i ≤ 3 ∧ u' = (L, .ns [(Str.ofString "stack", some (.list (stl st))), (Str.ofString "change", some c.d), (Str.ofString "parts", some (.tup c.parts)), (Str.ofString "part", o1), (Str.ofString "many", o2)]) :: u, iterTup, ?_, ?_, ?_⟩
    · exact ⟨stack, _, _, rfl, h0, h1, by omega, rfl⟩
    · rintro i di _ hdi ⟨st, o1, o2, hst, g0, g1, g2, rfl⟩
      have hi3 : i < 3 := by have := (List.getElem?_eq_some_iff.mp hdi).1; omega
      have hsl : sizeLine = 16777216 := rfl
      have hlast : ∃ d, (stl st)[((-1 : Int) + (stl st).length).toNat]? = some (.str d) ∧ st.getLastD sRoot = d := by
        have e1 : ((-1 : Int) + (stl st).length).toNat = st.length - 1 := by simp only [stl, List.length_map]; omega
        rw [e1]
        have : st.length - 1 < st.length := by omega
        refine ⟨st[st.length - 1], by simp [stl], ?_⟩
        rw [List.getLastD_eq_getLast?, List.getLast?_eq_getElem?, List.getElem?_eq_getElem this]; rfl
      rcases part_is hc hdi with rfl | ⟨p, rfl, hp⟩
      · kd_all
        refine eqNS ⟨_, rfl, ?_⟩
        rw [if_neg (by decide)]
        kd_all
        refine ⟨_, rfl, ?_⟩
        rw [if_neg (by decide)]
        rw [if_neg (by decide)]
        kd_all
        refine ⟨_, rfl, ?_⟩
        rw [if_neg (by decide)]
        kd_all
        refine ⟨st, _, _, ?_, g0, by omega, by omega, rfl⟩
        rw [fold_step hdi, ← hst]; rfl
      · cases hp with
        | push =>
          kd_all
          refine ⟨_, rfl, ?_⟩
          rw [if_pos (by decide +kernel)]
          kd_all
          obtain ⟨d, e1, e2⟩ := hlast
          refine itemLn (by decide) (by simp only [stl, List.length_map]; omega) (by simp only [stl, List.length_map]; omega) e1 ?_
          kd_all
          refine newListF_ ?_ (by kt_len)
          refine addLL (by simp only [stl, List.length_map, List.length_cons, List.length_nil]; omega) ?_
          kd_all
          have e3 : stl st ++ [.str d] = stl (act st sPush) := by
            unfold act; rw [if_pos rfl, e2]; simp [stl]
          have := act_pos g0 sPush
          rw [e3]
          refine ⟨act st sPush, _, _, ?_, this.1, by omega, by omega, rfl⟩
          rw [fold_step hdi, ← hst]; rfl
        | @pop _ k ne n hk c4 z w =>
          have hz : p.length ≤ sizeLine := by omega
          kd_all
          refine ⟨_, rfl, ?_⟩
          rw [if_neg (by rw [ne]; decide)]
          kd_all
          refine ⟨_, rfl, ?_⟩
          refine ifT rfl ?_
          kd_all
          refine SliceS_ ?_
          kd_all
          refine ⟨_, _, _, rfl, .none, .int, hz, ?_⟩
          kd_all
          refine ⟨_, rfl, ?_⟩
          rw [if_pos (by rw [c4]; decide +kernel)]
          kd_all
          refine lenS (by omega) ?_
          kd_all
          refine ⟨_, rfl, ?_⟩
          have e3 : ∀ q : Nat, q = k → stl (st.take (max 1 (st.length - q))) = stl (act st p) := by
            intro q hq
            subst hq
            unfold act
            rw [if_neg (by simpa using ne), n]
          have hpos := act_pos g0 p
          have fin : ∀ o1 o2, ∃ (st' : List Str) (o1' o2' : Option D), st' = (c.parts.take (i + 1)).foldl actD stack ∧ 0 < st'.length ∧ st'.length ≤ 1000000 + (i + 1) ∧ i + 1 ≤ 3 ∧ (L, Ent.ns [(Str.ofString "stack", some (.list (stl (act st p)))), (Str.ofString "change", some c.d), (Str.ofString "parts", some (.tup c.parts)), (Str.ofString "part", o1), (Str.ofString "many", o2)]) :: u = (L, .ns [(Str.ofString "stack", some (.list (stl st'))), (Str.ofString "change", some c.d), (Str.ofString "parts", some (.tup c.parts)), (Str.ofString "part", o1'), (Str.ofString "many", o2')]) :: u :=
            fun o1 o2 => ⟨act st p, o1, o2, by rw [fold_step hdi, ← hst]; rfl, hpos.1, by omega, by omega, rfl⟩
          have cutk : ∀ kk : Int, kk = (k : Int) → sliced (stl st) none (some (if ((stl st).length : Int) - kk > 1 then ((stl st).length : Int) - kk else 1)) = stl (act st p) := by
            rintro _ rfl
            rw [← e3 k rfl]
            unfold sliced cut
            simp only [stl, List.length_map, List.drop_zero, Nat.sub_zero, ← List.map_take]
            congr 2
            split <;> omega
          rcases w with ⟨w1, rfl⟩ | ⟨w1, w2⟩
          · rw [if_neg (by simp; omega)]
            kd_all
            refine SliceL_ ?_
            kd_all
            refine lenL (by simp only [stl, List.length_map]; omega) ?_
            kd_all
            refine maxI ?_
            refine ⟨_, _, _, rfl, .none, .int, by simp only [stl, List.length_map]; omega, ?_⟩
            rw [cutk 1 rfl]
            kd_all
            exact fin _ _
          · rw [if_pos (by simp; omega)]
            kd_all
            refine SliceS_ ?_
            kd_all
            refine ⟨_, _, _, rfl, .int, .none, hz, ?_⟩
            kd_all
            refine intOfS w2 (Nat.le_trans (cutS_length _ _ _) (by omega)) ?_
            kd_all
            refine SliceL_ ?_
            kd_all
            refine lenL (by simp only [stl, List.length_map]; omega) ?_
            kd_all
            refine maxI ?_
            refine ⟨_, _, _, rfl, .none, .int, by simp only [stl, List.length_map]; omega, ?_⟩
            rw [cutk k rfl]
            kd_all
            exact fin _ _
        | goto ne n c4 z m =>
          have hz : p.length ≤ sizeLine := by omega
          kd_all
          refine ⟨_, rfl, ?_⟩
          rw [if_neg (by rw [ne]; decide)]
          kd_all
          refine ⟨_, rfl, ?_⟩
          refine ifT rfl ?_
          kd_all
          refine SliceS_ ?_
          kd_all
          refine ⟨_, _, _, rfl, .none, .int, hz, ?_⟩
          kd_all
          refine ⟨_, rfl, ?_⟩
          rw [if_neg (by rw [c4]; decide)]
          kd_all
          refine ⟨_, rfl, ?_⟩
          refine ifT rfl ?_
          kd_all
          refine newListF_ ?_ (by kt_len)
          refine addLL (by simp only [stl, List.length_map, List.length_cons, List.length_nil]; omega) ?_
          kd_all
          have e3 : stl st ++ [.str p] = stl (act st p) := by
            unfold act
            rw [if_neg (by simpa using ne), n]; simp [stl]
          have := act_pos g0 p
          rw [e3]
          refine ⟨act st p, _, _, ?_, this.1, by omega, by omega, rfl⟩
          rw [fold_step hdi, ← hst]; rfl
    · rintro _ ⟨st, o1, o2, hst, g0, g1, g2, rfl⟩
      rw [List.take_length] at hst
      rw [moved_parts, ← hst] at hQ
      kd_all
      exact ⟨_, _, .here, hQ⟩





/-- the plain machine -/
def hit (text : Str) (place : Nat) (w : Str) : Bool := cutS text (some place) (some (place + w.length)) == w
def hits (text : Str) (place : Nat) (ws : List Str) : List Str := ws.filter (hit text place)
def pick (text : Str) (place : Nat) : List Rl → Option (Str × Int × Ch)
  | [] => none
  | r :: rs => match hits text place r.terms with
    | [] => pick text place rs
    | w :: _ => some (w, r.kind, r.ch)
def rulesOf (T : Tbl) (s : Str) : List Rl := ((T.find? fun p => p.1 = s).map (·.2)).getD []
structure Row where
  place : Nat
  names : List Str
  word : Str
def Row.d (r : Row) : D := .tup [.int r.place, .tup (stl r.names), .str r.word]
def kinds3 : List Str := [Str.ofString "Name", Str.ofString "Number", Str.ofString "Comment"]
def kindN (k : Int) : Str := (kinds3[k.toNat]?).getD (Str.ofString "Name")
def at1 (text : Str) (i : Nat) : Str := ⟨#[(text.cps[i]?).getD 0]⟩
abbrev sNl : Str := Str.ofString "\n"
structure Stp where
  row : Row
  place : Nat
  stack : List Str
def stp (T : Tbl) (text : Str) (place : Nat) (stack : List Str) : Stp :=
  match pick text place (rulesOf T (stack.getLastD sRoot)) with
  | none => if at1 text place == sNl then ⟨⟨place, [Str.ofString "Text", Str.ofString "Whitespace"], at1 text place⟩, place + 1, [sRoot]⟩ else ⟨⟨place, [Str.ofString "Error"], at1 text place⟩, place + 1, stack⟩
  | some (w, k, c) => ⟨⟨place, [kindN k], w⟩, place + w.length, moved stack c⟩
def run (T : Tbl) (text : Str) : Nat → Nat → List Str → List Row
  | 0, _, _ => []
  | f + 1, place, stack => if place < text.length then (stp T text place stack).row :: run T text f (stp T text place stack).place (stp T text place stack).stack else []
/-- a stack of states -/
structure SOk (st : List Str) (b : Nat) : Prop where
  pos : 0 < st.length
  le : st.length ≤ b
  each : ∀ s ∈ st, s ∈ names4

theorem getLastD_mem {st : List Str} (h : 0 < st.length) : st.getLastD sRoot ∈ st := by
  have h1 : st.length - 1 < st.length := by omega
  rw [List.getLastD_eq_getLast?, List.getLast?_eq_getElem?, List.getElem?_eq_getElem h1]
  exact List.getElem_mem h1
theorem act_names {st : List Str} {p : Str} (h : ∀ s ∈ st, s ∈ names4) (h0 : 0 < st.length) (hp : PK p) : ∀ s ∈ act st p, s ∈ names4 := by
  unfold act
  cases hp with
  | push =>
    rw [if_pos rfl]
    intro s hs
    rcases List.mem_append.mp hs with hs | hs
    · exact h s hs
    · rw [List.mem_singleton.mp hs]; exact h _ (getLastD_mem h0)
  | pop ne n hk c z w =>
    rw [if_neg (by simpa using ne), n]
    exact fun s hs => h s (List.mem_of_mem_take hs)
  | goto ne n c z m =>
    rw [if_neg (by simpa using ne), n]
    intro s hs
    rcases List.mem_append.mp hs with hs | hs
    · exact h s hs
    · rw [List.mem_singleton.mp hs]; exact m
theorem moved_names {c : Ch} (hc : ChOk c) : ∀ (l : List D) (st : List Str), (∀ d ∈ l, d = .none ∨ ∃ p, d = .str p ∧ PK p) → (∀ s ∈ st, s ∈ names4) → 0 < st.length → (∀ s ∈ l.foldl actD st, s ∈ names4) ∧ 0 < (l.foldl actD st).length ∧ (l.foldl actD st).length ≤ st.length + l.length
  | [], st, _, h, h0 => ⟨h, h0, by simp⟩
  | d :: l, st, hd, h, h0 => by
    have h1 := hd d (.head _)
    have hx : ∀ s ∈ actD st d, s ∈ names4 := by
      rcases h1 with rfl | ⟨p, rfl, hp⟩
      · exact h
      · exact act_names h h0 hp
    have h2 := actD_pos h0 d
    have := moved_names hc l (actD st d) (fun d' hd' => hd d' (.tail _ hd')) hx h2.1
    refine ⟨this.1, this.2.1, ?_⟩
    have := this.2.2
    simp only [List.foldl_cons, List.length_cons]
    omega
theorem SOk.moved {st : List Str} {b : Nat} (h : SOk st b) {c : Ch} (hc : ChOk c) : SOk (Mine.moved st c) (b + 3) := by
  have hd : ∀ d ∈ c.parts, d = .none ∨ ∃ p, d = .str p ∧ PK p := fun d hm => by
    obtain ⟨i, hi, e⟩ := List.getElem_of_mem hm
    exact part_is hc (by rw [List.getElem?_eq_getElem hi, e])
  have := moved_names hc c.parts st hd h.each h.pos
  have h3 := parts_len hc
  have h4 := h.le
  rw [moved_parts]
  exact ⟨this.2.1, by omega, this.1⟩
theorem rulesOf_ok {T : Tbl} (h : TblOk T) {s : Str} : ∀ r ∈ rulesOf T s, RlOk r := by
  unfold rulesOf
  cases e : T.find? fun p => p.1 = s with
  | none => simp
  | some p =>
    simp only [Option.map_some, Option.getD_some]
    exact (h.ok p (List.mem_of_find?_eq_some e)).2
theorem rulesOf_len {T : Tbl} (h : TblOk T) {s : Str} : (rulesOf T s).length ≤ 3 := by
  unfold rulesOf
  cases e : T.find? fun p => p.1 = s with
  | none => simp
  | some p =>
    simp only [Option.map_some, Option.getD_some]
    exact (h.ok p (List.mem_of_find?_eq_some e)).1
theorem valD_tbl {T : Tbl} (h : TblOk T) {s : Str} (hs : s ∈ names4) : valD (tblD T) s = some (rlD (rulesOf T s)) := by
  have hm : ∃ p ∈ T, p.1 = s := by
    have : s ∈ T.map (·.1) := by rw [h.keys]; exact hs
    obtain ⟨p, hp, e⟩ := List.mem_map.mp this
    exact ⟨p, hp, e⟩
  unfold valD tblD rulesOf
  rw [List.find?_map]
  cases e : T.find? fun p => p.1 = s with
  | none =>
    obtain ⟨p, hp, e2⟩ := hm
    have := List.find?_eq_none.mp e p hp
    simp [e2] at this
  | some p =>
    have : (List.find? ((fun kv => decide (kv.fst = s)) ∘ fun p => (p.fst, rlD p.snd)) T) = some p := e
    rw [this]; rfl
theorem cutS_len_at (x : Str) (i n : Nat) : (cutS x (some i) (some ((i : Int) + n))).length = min n (x.length - i) := by
  show (sliced x.cps.toList _ _).toArray.size = _
  rw [List.size_toArray]
  unfold sliced cut
  have e : x.cps.toList.length = x.length := by simp [Str.length]
  simp only [List.length_take, List.length_drop, e]
  omega
theorem hit_len {text : Str} {i : Nat} {w : Str} (h : hit text i w = true) (h0 : 1 ≤ w.length) : i + w.length ≤ text.length := by
  unfold hit at h
  have e := beq_iff_eq.mp h
  have := cutS_len_at text i w.length
  rw [e] at this
  omega
theorem pick_ok {text : Str} {i : Nat} : ∀ {rs : List Rl}, (∀ r ∈ rs, RlOk r) → ∀ {w : Str} {k : Int} {c : Ch}, pick text i rs = some (w, k, c) → 1 ≤ w.length ∧ i + w.length ≤ text.length ∧ Tx w ∧ hit text i w = true ∧ 0 ≤ k ∧ k < 3 ∧ ChOk c
  | [], _, w, k, c, e => by cases e
  | r :: rs, h, w, k, c, e => by
    unfold pick at e
    have hr := h r (.head _)
    split at e
    · exact pick_ok (fun r hr => h r (.tail _ hr)) e
    · rename_i w' l hw
      cases e
      have hm : w ∈ hits text i r.terms := by rw [hw]; exact .head _
      have hm2 := List.mem_filter.mp hm
      have h3 := hr.terms.each w hm2.1
      exact ⟨h3.1, hit_len hm2.2 h3.1, h3.2.2, hm2.2, hr.k0, hr.k3, hr.ch⟩


theorem seqIndex_nat {i n : Nat} (h : i < n) : seqIndex? (i : Int) n = some i := by
  simp only [seqIndex?]
  split
  · omega
  · split <;> first | omega | simp_all
theorem at1_is {text : Str} {i : Nat} (h : i < text.length) : ∃ c, ((seqIndex? (i : Int) text.length).bind fun j => text.cps[j]?) = some c ∧ (⟨#[c]⟩ : Str) = at1 text i := by
  rw [seqIndex_nat h]
  have h' : i < text.cps.size := h
  refine ⟨text.cps[i], by simp, ?_⟩
  unfold at1
  rw [Array.getElem?_eq_getElem h']; rfl
theorem last_is {st : List Str} (h : 0 < st.length) : (stl st)[((-1 : Int) + (stl st).length).toNat]? = some (.str (st.getLastD sRoot)) := by
  have e1 : ((-1 : Int) + (stl st).length).toNat = st.length - 1 := by simp only [stl, List.length_map]; omega
  have h1 : st.length - 1 < st.length := by omega
  rw [e1, List.getLastD_eq_getLast?, List.getLast?_eq_getElem?, List.getElem?_eq_getElem h1]
  simp [stl]
theorem dts_strs : ∀ {l : List Str}, Dts (stl l) (l.map .str)
  | [] => .nil
  | a :: r => .cons (.str a) dts_strs
theorem lay_str {w : Str} (h : Tx w) : (PyData.str w).canLay0 = true := by
  show (w.cps.all (· < 0x110000)) = true
  rw [Array.all_eq_true']
  intro c hc
  exact decide_eq_true (h c (Array.mem_toList_iff.mpr hc))
theorem lay_strs : ∀ {l : List Str}, (∀ w ∈ l, Tx w) → PyData.canLayAll0 (l.map .str) = true ∧ PyData.depthAll (l.map .str) = 0
  | [], _ => ⟨rfl, rfl⟩
  | a :: r, h => by
    have ih := lay_strs (fun w hw => h w (.tail _ hw))
    refine ⟨?_, ?_⟩
    · show (PyData.canLay0 (.str a) && PyData.canLayAll0 (r.map .str)) = true
      rw [lay_str (h a (.head _)), ih.1]; rfl
    · show max (PyData.depth (.str a)) (PyData.depthAll (r.map .str)) = 0
      rw [ih.2]; rfl
theorem shaped_strs {l : List Str} (h : ∀ w ∈ l, Tx w) : SeqAt.shaped (.list (l.map .str)) = true := by
  have := lay_strs h
  show (PyData.canLayAll0 (l.map .str) && decide (PyData.depthAll (l.map .str) + 1 ≤ 64)) = true
  rw [this.1, this.2]; rfl
theorem shaped_nil : SeqAt.shaped (.list []) = true := by decide +kernel
theorem eqv_nil {l : List Str} : PyData.eqv (.list (l.map .str)) (.list []) = l.isEmpty := by
  cases l with
  | nil => decide +kernel
  | cons a r => simp [PyData.eqv, PyData.eqvAll]

theorem run_done {T : Tbl} {text : Str} {f place : Nat} {st : List Str} (h : text.length ≤ place) : run T text f place st = [] := by
  cases f with
  | zero => rfl
  | succ f => unfold run; rw [if_neg (by omega)]
theorem run_step {T : Tbl} {text : Str} {f place : Nat} {st : List Str} (h : place < text.length) (hf : text.length ≤ place + f) : ∃ g, f = g + 1 ∧ run T text f place st = (stp T text place st).row :: run T text g (stp T text place st).place (stp T text place st).stack := by
  cases f with
  | zero => omega
  | succ f => exact ⟨f, rfl, by rw [run]; rw [if_pos h]⟩
def pickD : Option (Str × Int × Ch) → D
  | none => .none
  | some (w, k, c) => .tup [.str w, .int k, c.d]
theorem pick_step {text : Str} {i : Nat} : ∀ {rs : List Rl} {j : Nat} {r : Rl}, rs[j]? = some r → pick text i (rs.take (j + 1)) = match pick text i (rs.take j) with | some x => some x | none => match hits text i r.terms with | [] => none | w :: _ => some (w, r.kind, r.ch)
  | [], j, r, e => by simp at e
  | a :: l, 0, r, e => by
    simp at e; subst e
    show pick text i [a] = _
    unfold pick
    cases hits text i a.terms <;> rfl
  | a :: l, j + 1, r, e => by
    simp at e
    have ih := pick_step (text := text) (i := i) e
    show pick text i (a :: l.take (j + 1)) = match pick text i (a :: l.take j) with | some x => some x | none => _
    unfold pick
    cases hits text i a.terms with
    | nil => exact ih
    | cons w ws => rfl

theorem machine_ok {Γ : Cx} (hK : Γ.K = hd.heap_39 Γ.w.params) {u : Led} {T : Tbl} {text : Str} {stack : List Str} {Q : D → Led → Prop} (hT : TblOk T) (hx : Tx text) (hz : text.length ≤ 1000) (hs : SOk stack 1000)
    (hQ : Q (.list ((run T text text.length 0 stack).map Row.d)) u) : OnL Γ (Is Γ.w.params) 3 (fun vs => call (.ref 681) vs) [.dict (tblD T), .str text, .list (stl stack)] Q u := by
  have hsl : sizeLine = 16777216 := rfl
  refine defC_ hK rfl (by kernel_rfl) rfl (bs := [(Str.ofString "table", .dict (tblD T)), (Str.ofString "text", .str text), (Str.ofString "stack", .list (stl stack))]) (rs := [Str.ofString "found", Str.ofString "chosen", Str.ofString "terms", Str.ofString "kind", Str.ofString "change", Str.ofString "here", Str.ofString "names"]) (cs := fun L => [(Str.ofString "place", L + 1 + 1), (Str.ofString "text", L + 1)]) (led := fun L => [(L + 1 + 1, .cell none), (L + 1, .cell (some (.str text)))]) ?_ (InitC.bind (by decide +kernel) (InitC.cell (by decide +kernel) (InitC.bind (by decide +kernel) (InitC.rest (InitC.rest (InitC.rest (InitC.rest (InitC.rest (InitC.rest (InitC.rest InitC.nil)))))))))) (by kernel_rfl) (by kernel_rfl) (fun L => rfl) (fun L => by tb_rel) (by kernel_rfl) (by kernel_rfl) (by kernel_rfl) rfl rfl rfl rfl (by kernel_rfl) rfl rfl ?_
  · intro g vs hv
    cases hv with | cons h1 hv => ?_
    cases hv with | cons h2 hv => ?_
    cases hv with | cons h3 hv => ?_
    cases hv
    exact ⟨_, rfl, .cons h1 (.cons h2 (.cons h3 .nil))⟩
  · intro L env he
    dsimp only [List.cons_append, List.nil_append] at he ⊢
    kd_all
    refine newListM_ (fun fl => ?_) (by kt_len)
    kd_all
    refine While_ (fun k u' => ∃ (f place : Nat) (st : List Str) (rows : List Row) (o1 o2 o3 o4 o5 o6 : Option D), rows ++ run T text f place st = run T text text.length 0 stack ∧ text.length ≤ place + f ∧ k = text.length - place ∧ place ≤ text.length ∧ SOk st (1000 + 3 * place) ∧ rows.length ≤ place ∧ u' = (fl, .list (rows.map Row.d)) :: (L, .ns [(Str.ofString "table", some (.dict (tblD T))), (Str.ofString "stack", some (.list (stl st))), (Str.ofString "found", some (.raw (.ref fl))), (Str.ofString "chosen", o1), (Str.ofString "terms", o2), (Str.ofString "kind", o3), (Str.ofString "change", o4), (Str.ofString "here", o5), (Str.ofString "names", o6)]) :: (L + 1 + 1, .cell (some (.int place))) :: (L + 1, .cell (some (.str text))) :: u) text.length ⟨text.length, 0, stack, [], _, _, _, _, _, _, rfl, by omega, by omega, by omega, ⟨hs.pos, by have := hs.le; omega, hs.each⟩, by simp, rfl⟩ ?_
    rintro k _ ⟨f, place, st, rows, o1, o2, o3, o4, o5, o6, hrun, hf, rfl, hpl, hst, hrl, rfl⟩
    kd_all
    refine lenS (by omega) ?_
    kd_all
    refine ⟨_, rfl, ?_⟩
    by_cases hp : place < text.length
    · refine ifT (decide_eq_true (by omega)) ?_
      kd_all
      have hns := hst.each _ (getLastD_mem hst.pos)
      have hsle := hst.le
      have hrl3 := rulesOf_len hT (s := st.getLastD sRoot)
      have hrok := rulesOf_ok hT (s := st.getLastD sRoot)
      generalize hrs : rulesOf T (st.getLastD sRoot) = rs at hrl3 hrok
      refine For2_ ?_
      kd_all
      refine itemLn (by decide) (by have := hst.pos; simp only [stl, List.length_map]; omega) (by simp only [stl, List.length_map]; omega) (last_is hst.pos) ?_
      refine dget_ (valD_tbl hT hns) ?_
      rw [hrs]
      refine ⟨rs.map Rl.d, fun i u' => ∃ (p2 p3 p4 p5 : Option D), i ≤ 3 ∧ u' = (fl, .list (rows.map Row.d)) :: (L, .ns [(Str.ofString "table", some (.dict (tblD T))), (Str.ofString "stack", some (.list (stl st))), (Str.ofString "found", some (.raw (.ref fl))), (Str.ofString "chosen", some (pickD (pick text place (rs.take i)))), (Str.ofString "terms", p2), (Str.ofString "kind", p3), (Str.ofString "change", p4), (Str.ofString "here", p5), (Str.ofString "names", o6)]) :: (L + 1 + 1, .cell (some (.int place))) :: (L + 1, .cell (some (.str text))) :: u, iterList, ?_, ?_, ?_⟩
      · exact ⟨_, _, _, _, by omega, rfl⟩
      · rintro i di _ hdi ⟨p2, p3, p4, p5, hi3, rfl⟩
        have hi4 : i < rs.length := by have := (List.getElem?_eq_some_iff.mp hdi).1; simpa using this
        obtain ⟨r, hr, rfl⟩ : ∃ r, rs[i]? = some r ∧ r.d = di := by
          rw [List.getElem?_map, Option.map_eq_some_iff] at hdi; exact hdi
        have hrk := hrok r (List.mem_of_getElem? hr)
        have hstep := pick_step (text := text) (i := place) hr
        show On1 _ _ _ _ (.tup [.list (stl r.terms), .int r.kind, r.ch.d]) _ _
        kd_all
        refine AssignComp_ (cl := [(Str.ofString "text", L + 1), (Str.ofString "place", L + 1 + 1)]) (names := [(Str.ofString ".0", .local), (Str.ofString "word", .local), (Str.ofString "len", .globalImplicit), (Str.ofString "place", .cell), (Str.ofString "text", .cell)]) (rs := [Str.ofString "word"]) (by with_unfolding_all rfl) (by with_unfolding_all rfl) (by kernel_rfl) (by kernel_rfl) (by kernel_rfl) rfl rfl rfl ?_
        kd_all
        have hwl := hrk.terms.le
        refine ⟨stl r.terms, fun j acc u' => acc = stl (hits text place (r.terms.take j)) ∧ u' = (fl, .list (rows.map Row.d)) :: (L, .ns [(Str.ofString "table", some (.dict (tblD T))), (Str.ofString "stack", some (.list (stl st))), (Str.ofString "found", some (.raw (.ref fl))), (Str.ofString "chosen", some (pickD (pick text place (rs.take i)))), (Str.ofString "terms", some (.list (stl r.terms))), (Str.ofString "kind", some (.int r.kind)), (Str.ofString "change", some r.ch.d), (Str.ofString "here", p5), (Str.ofString "names", o6)]) :: (L + 1 + 1, .cell (some (.int place))) :: (L + 1, .cell (some (.str text))) :: u, iterList, by simp only [stl, List.length_map]; omega, ⟨rfl, rfl⟩, ?_, ?_⟩
        · rintro j dj acc _ C Dd m hdj hj _ ⟨rfl, rfl⟩ hm cenv he2
          obtain ⟨o, rfl⟩ := names1 hm
          obtain ⟨w, hw, rfl⟩ : ∃ w, r.terms[j]? = some w ∧ D.str w = dj := by
            rw [List.getElem?_map, Option.map_eq_some_iff] at hdj; exact hdj
          have hwk := hrk.terms.each w (List.mem_of_getElem? hw)
          kd_all
          refine tests1_ ?_
          kd_all
          refine SliceS_ ?_
          kd_all
          refine lenS (by omega) ?_
          kd_all
          refine ⟨_, _, _, rfl, .int, .int, by omega, ?_⟩
          kd_all
          refine ⟨_, rfl, ?_⟩
          have htk : r.terms.take (j + 1) = r.terms.take j ++ [w] := by rw [List.take_add_one, hw]; rfl
          by_cases hh : hit text place w = true
          · refine ifT hh ?_
            kd_all
            refine ⟨_, _, _, _, .here, rfl, .here, .refl _, ?_, rfl⟩
            rw [htk]; simp [hits, List.filter_append, hh]
          · have hh' : hit text place w = false := by simpa using hh
            refine ifF hh' ?_
            refine ⟨_, _, _, _, .here, rfl, .here, .refl _, ?_, rfl⟩
            rw [htk]; simp [hits, List.filter_append, hh']
        · rintro acc _ _ ⟨rfl, rfl⟩
          have e1 : r.terms.take (stl r.terms).length = r.terms := by simp [stl]
          rw [e1]
          kd_all
          refine ⟨_, rfl, ?_⟩
          cases hpk : pick text place (rs.take i) with
          | some x =>
            obtain ⟨w0, k0, c0⟩ := x
            rw [hpk] at hstep
            refine ifF rfl ?_
            refine ifF rfl ?_
            kd_all
            exact ⟨_, _, _, _, by omega, by rw [hstep]⟩
          | none =>
            rw [hpk] at hstep
            refine ifT rfl ?_
            kd_all
            refine newListF_ ?_ (by kt_len)
            have hTx : ∀ w ∈ hits text place r.terms, Tx w := fun w hw => (hrk.terms.each w (List.mem_filter.mp hw).1).2.2
            refine neD (.list dts_strs) (.list .nil) (shaped_strs hTx) shaped_nil ?_
            rw [eqv_nil]
            refine ⟨_, rfl, ?_⟩
            cases hhs : hits text place r.terms with
            | nil =>
              rw [hhs] at hstep
              refine ifF rfl ?_
              kd_all
              exact ⟨_, _, _, _, by omega, by rw [hstep]⟩
            | cons w ws =>
              rw [hhs] at hstep
              refine ifT rfl ?_
              kd_all
              refine itemL (d := .str w) (by decide) (by decide) rfl ?_
              kd_all
              refine newTuple_ ?_ (by kt_len)
              kd_all
              exact ⟨_, _, _, _, by omega, by rw [hstep]; rfl⟩
      · rintro _ ⟨p2, p3, p4, p5, hi3, rfl⟩
        have e1 : rs.take (rs.map Rl.d).length = rs := by simp
        rw [e1]
        obtain ⟨g, hg, hrun2⟩ := run_step (T := T) (st := st) hp hf
        have hstp : stp T text place st = match pick text place rs with
          | none => if at1 text place == sNl then ⟨⟨place, [Str.ofString "Text", Str.ofString "Whitespace"], at1 text place⟩, place + 1, [sRoot]⟩ else ⟨⟨place, [Str.ofString "Error"], at1 text place⟩, place + 1, st⟩
          | some (w, k, c) => ⟨⟨place, [kindN k], w⟩, place + w.length, moved st c⟩ := by first | (unfold stp; rw [hrs]; done) | (unfold stp; rw [hrs]; cases pick text place rs <;> rfl)
        have fin : ∀ (row : Row) (pl : Nat) (st' : List Str) (q1 q2 q3 q4 q5 q6 : Option D), stp T text place st = ⟨row, pl, st'⟩ → place < pl → pl ≤ text.length → SOk st' (1000 + 3 * pl) → ∃ j, j < text.length - place ∧ ∃ (f2 pl2 : Nat) (st2 : List Str) (rows2 : List Row) (o1 o2 o3 o4 o5 o6 : Option D), rows2 ++ run T text f2 pl2 st2 = run T text text.length 0 stack ∧ text.length ≤ pl2 + f2 ∧ j = text.length - pl2 ∧ pl2 ≤ text.length ∧ SOk st2 (1000 + 3 * pl2) ∧ rows2.length ≤ pl2 ∧ (fl, Ent.list (rows.map Row.d ++ [row.d])) :: (L, Ent.ns [(Str.ofString "table", some (.dict (tblD T))), (Str.ofString "stack", some (.list (stl st'))), (Str.ofString "found", some (.raw (.ref fl))), (Str.ofString "chosen", q1), (Str.ofString "terms", q2), (Str.ofString "kind", q3), (Str.ofString "change", q4), (Str.ofString "here", q5), (Str.ofString "names", q6)]) :: (L + 1 + 1, .cell (some (.int pl))) :: (L + 1, .cell (some (.str text))) :: u = (fl, .list (rows2.map Row.d)) :: (L, .ns [(Str.ofString "table", some (.dict (tblD T))), (Str.ofString "stack", some (.list (stl st2))), (Str.ofString "found", some (.raw (.ref fl))), (Str.ofString "chosen", o1), (Str.ofString "terms", o2), (Str.ofString "kind", o3), (Str.ofString "change", o4), (Str.ofString "here", o5), (Str.ofString "names", o6)]) :: (L + 1 + 1, .cell (some (.int pl2))) :: (L + 1, .cell (some (.str text))) :: u := by
          intro row pl st' q1 q2 q3 q4 q5 q6 hst' h1 h2 h3
          refine ⟨text.length - pl, by omega, g, pl, st', rows ++ [row], q1, q2, q3, q4, q5, q6, ?_, by omega, rfl, h2, h3, (by simp; omega), by rw [List.map_append]; rfl⟩
          rw [List.append_assoc, ← hrun, hrun2, hst']; rfl
        obtain ⟨ch, hch, hch1⟩ := at1_is hp
        cases hpk : pick text place rs with
        | none =>
          rw [hpk] at hstp
          kd_all
          refine ⟨_, rfl, ?_⟩
          refine ifT rfl ?_
          kd_all
          refine newTuple_ ?_ (by kt_len)
          kd_all
          refine itemS (by omega) (by omega) hch ?_
          rw [hch1]
          kd_all
          refine ⟨_, rfl, ?_⟩
          by_cases hnl : (at1 text place == sNl) = true
          · refine ifT hnl ?_
            kd_all
            refine newTuple_ ?_ (by kt_len)
            kd_all
            refine newListF_ ?_ (by kt_len)
            kd_all
            refine Append_ ?_
            kd_all
            refine ⟨fl, rfl, ?_, _, by mem_news⟩
            kd_all
            refine itemS (by omega) (by omega) hch ?_
            rw [hch1]
            kd_all
            refine newTuple_ ?_ (by kt_len)
            kd_all
            refine ⟨_, _, _, rfl, by tb_start, by simp; omega, ?_⟩
            kd_all
            have := fin _ _ _ (some .none) p2 p3 p4 p5 (some (.tup [.str (Str.ofString "Text"), .str (Str.ofString "Whitespace")])) (hstp.trans (if_pos hnl)) (by omega) (by omega) ⟨by decide, by simp; omega, by simp⟩
            exact this
          · have hnl' : (at1 text place == sNl) = false := by simpa using hnl
            refine ifF hnl' ?_
            kd_all
            refine Append_ ?_
            kd_all
            refine ⟨fl, rfl, ?_, _, by mem_news⟩
            kd_all
            refine itemS (by omega) (by omega) hch ?_
            rw [hch1]
            kd_all
            refine newTuple_ ?_ (by kt_len)
            kd_all
            refine ⟨_, _, _, rfl, by tb_start, by simp; omega, ?_⟩
            kd_all
            have := fin _ _ _ (some .none) p2 p3 p4 p5 (some (.tup [.str (Str.ofString "Error")])) (hstp.trans (if_neg hnl)) (by omega) (by omega) ⟨hst.pos, by omega, hst.each⟩
            exact this
        | some x =>
          obtain ⟨w, kd, c⟩ := x
          obtain ⟨hw1, hw2, hw3, hw4, hk0, hk1, hcc⟩ := pick_ok hrok hpk
          rw [hpk] at hstp
          kd_all
          refine ⟨_, rfl, ?_⟩
          refine ifF rfl ?_
          kd_all
          refine Append_ ?_
          kd_all
          refine ⟨fl, rfl, ?_, _, by mem_news⟩
          kd_all
          refine (kinds_ok hK ?_).up (by decide)
          kd_all
          refine itemT (j := 1) (d := .int kd) (by decide) (by decide) rfl rfl ?_
          have hkn : (stl kinds3)[kd.toNat]? = some (.str (kindN kd)) := by
            have : kd = 0 ∨ kd = 1 ∨ kd = 2 := by omega
            rcases this with rfl | rfl | rfl <;> rfl
          refine itemL hk0 (by omega) hkn ?_
          kd_all
          refine newTuple_ ?_ (by kt_len)
          kd_all
          refine itemT (j := 0) (d := .str w) (by decide) (by decide) rfl rfl ?_
          kd_all
          refine newTuple_ ?_ (by kt_len)
          kd_all
          refine ⟨_, _, _, rfl, by tb_start, by simp; omega, ?_⟩
          kd_all
          refine itemT (j := 0) (d := .str w) (by decide) (by decide) rfl rfl ?_
          kd_all
          refine lenS (by omega) ?_
          kd_all
          refine itemT (j := 2) (d := c.d) (by decide) (by decide) rfl rfl ?_
          kd_all
          refine (moved_ok hK hcc hst.pos (by omega) ?_).up (by decide)
          kd_all
          have hm := hst.moved hcc
          have := fin _ _ _ (some (pickD (some (w, kd, c)))) p2 p3 p4 p5 o6 hstp (by omega) (by omega) ⟨hm.pos, by have := hm.le; omega, hm.each⟩
          exact this
    · refine ifF (decide_eq_false (by omega)) ?_
      kqd_in
      kqd_in
      refine freeze_ (a := fl) (by tb_start) .list (by kt_eqs) ?_
      kd_all
      rw [run_done (by omega), List.append_nil] at hrun
      rw [← hrun] at hQ
      exact ⟨_, .cons _ (.cons _ (.cons _ (.refl _))), hQ⟩



abbrev aNames : Str := Str.ofString "names"
theorem tt_ok {Γ : Cx} (hK : Γ.K = hd.heap_39 Γ.w.params) {u : Led} {k : Str} {Q : D → Led → Prop} (hQ : Q (.inst 66 [(aNames, .tup [.str k])]) u) : OnL Γ (Is Γ.w.params) 2 (fun vs => call (.ref 66) vs) [.str k] Q u := by
  refine OnL.frz (make_ (fI := 35) hK (by kernel_rfl) fun x da => ?_)
  refine defV_ (bs := [(Str.ofString "self", .raw (.ref x)), (Str.ofString "names", .tup [.str k])]) (rs := []) hK rfl (by kernel_rfl) rfl (bindV1 fun a b => by with_unfolding_all rfl) (by tb_rel) (by kernel_rfl) (by kernel_rfl) (by kernel_rfl) rfl rfl rfl (by kernel_rfl) rfl rfl ?_
  intro L env he
  dsimp only at he
  kd_all
  refine AssignAttr_ ?_
  kd_all
  refine setA_ (da := da) hK (by mem_news) (by tb_start) (by kernel_rfl) (by kernel_rfl) (by kt_len) ?_
  kd_all
  refine ⟨_, _, .here, rfl, x, da, 66, _, _, _, rfl, .here, .here, ?_⟩
  exact hQ

abbrev aRows : Str := Str.ofString "rows"
theorem plain_ok {Γ : Cx} (hK : Γ.K = hd.heap_39 Γ.w.params) {u : Led} {d : D} {Q : D → Led → Prop} (hQ : Q (.inst 600 [(aRows, d)]) u) : OnL Γ (Is Γ.w.params) 2 (fun vs => call (.ref 600) vs) [d] Q u := by
  refine OnL.frz (make_ (fI := 591) hK (by kernel_rfl) fun x da => ?_)
  refine defK_ (bs := [(Str.ofString "self", .raw (.ref x)), (Str.ofString "rows", d)]) (rs := []) hK rfl (by kernel_rfl) rfl ?_ (by tb_rel) (by kernel_rfl) (by kernel_rfl) (by kernel_rfl) rfl rfl rfl (by kernel_rfl) rfl rfl ?_
  · exact bind2 (X := fun s => Γ.K.In s.heap) (Z := Keep Γ.H0) fun _ _ _ => BindsTo.of_eq rfl
  intro L env he
  dsimp only at he
  kd_all
  refine AssignAttr_ ?_
  kd_all
  refine setA_ (da := da) hK (by mem_news) (by tb_start) (by kernel_rfl) (by kernel_rfl) (by kt_len) ?_
  kd_all
  refine ⟨_, _, .here, rfl, x, da, 600, _, _, _, rfl, .here, .here, ?_⟩
  exact hQ
abbrev aPlace : Str := Str.ofString "place"
abbrev aPieces : Str := Str.ofString "pieces"
theorem pmatch_ok {Γ : Cx} (hK : Γ.K = hd.heap_39 Γ.w.params) {u : Led} {d e : D} {Q : D → Led → Prop} (hQ : Q (.inst 573 [(aPlace, d), (aPieces, e)]) u) : OnL Γ (Is Γ.w.params) 2 (fun vs => call (.ref 573) vs) [d, e] Q u := by
  refine OnL.frz (make_ (fI := 548) hK (by kernel_rfl) fun x da => ?_)
  refine defK_ (bs := [(Str.ofString "self", .raw (.ref x)), (Str.ofString "place", d), (Str.ofString "pieces", e)]) (rs := []) hK rfl (by kernel_rfl) rfl ?_ (by tb_rel) (by kernel_rfl) (by kernel_rfl) (by kernel_rfl) rfl rfl rfl (by kernel_rfl) rfl rfl ?_
  · exact bind3 (X := fun s => Γ.K.In s.heap) (Z := Keep Γ.H0) fun _ _ _ _ => BindsTo.of_eq rfl
  intro L env he
  dsimp only at he
  kd_all
  refine AssignAttr_ ?_
  kd_all
  refine setA_ (da := da) hK (by mem_news) (by tb_start) (by kernel_rfl) (by kernel_rfl) (by kt_len) ?_
  kd_all
  refine AssignAttr_ ?_
  kd_all
  refine setA_ (da := da) hK (by mem_news) (by tb_start) (by kernel_rfl) (by kernel_rfl) (by kt_len) ?_
  kd_all
  refine ⟨_, _, .here, rfl, x, da, 573, _, _, _, rfl, .here, .here, ?_⟩
  exact hQ

abbrev sNone : Str := Str.ofString ""
theorem join_one (w : Str) : Txt.join sNone [w] = w := by
  show (⟨([w].drop 1).foldl _ ([w].headD Str.empty).cps⟩ : Str) = w
  rfl
theorem truthy_or (w : Str) : (if ((w.length : Int) != 0) = true then w else sNone) = w := by
  by_cases h : w.length = 0
  · have : w = sNone := by
      obtain ⟨cps⟩ := w
      have : cps.size = 0 := h
      have : cps = #[] := Array.eq_empty_of_size_eq_zero this
      subst this; decide +kernel
    rw [if_neg (by simp [h])]; exact this.symm
  · rw [if_pos (by simp; omega)]

theorem join_room {w : Str} (hz : w.length ≤ 1000) : ([w].map (·.length)).sum + [w].length * (Str.ofString "").length ≤ 16777216 := by
  have : (Str.ofString "").length = 0 := by decide +kernel
  rw [this]
  show w.length + 0 + 1 * 0 ≤ _
  omega
theorem or_cases {w : Str} {P R : Prop} (h1 : w = sNone → R) (h2 : P) : if ((w.length : Int) != 0) = true then P else R := by
  by_cases h : ((w.length : Int) != 0) = true
  · rw [if_pos h]; exact h2
  · rw [if_neg h]
    have := truthy_or w
    rw [if_neg h] at this
    exact h1 this.symm
/-- ''.join([piece or '' for piece in pieces]) for one piece -/
theorem group_ok {Γ : Cx} (hK : Γ.K = hd.heap_39 Γ.w.params) {u : Led} {d : D} {w : Str} {Q : D → Led → Prop} (hz : w.length ≤ 1000) (hQ : Q (.str w) u) : CodeL Γ 1 570 [] [.inst 573 [(aPlace, d), (aPieces, .list [.str w])]] Q u := by
  refine defK_ (bs := [(Str.ofString "self", .inst 573 [(aPlace, d), (aPieces, .list [.str w])]), (Str.ofString "arg", .int 0)]) (rs := []) hK rfl (by kernel_rfl) rfl ?_ (by tb_rel) (by kernel_rfl) (by kernel_rfl) (by kernel_rfl) rfl rfl rfl (by kernel_rfl) rfl rfl ?_
  · intro s g vs X _ hv
    cases hv with | cons h1 hv => ?_
    cases hv
    rw [hK] at X
    exact ⟨_, binds_K X rfl rfl rfl rfl rfl, .cons h1 (.cons (.int 0 _) .nil)⟩
  intro L env he
  dsimp only at he
  kd_all
  refine tValU_ ?_
  kd_all
  refine truthyInt ?_
  refine ifF rfl ?_
  kd_all
  refine CallM_ (T := "str") (id := "str.join") (pl := pure true) F.plainAttrs_str F.slot_str_join F.type_str_join ?_ (by with_unfolding_all rfl) (by with_unfolding_all exact .inr ⟨_, _, rfl, rfl⟩) (by with_unfolding_all rfl)
  kd_all
  refine ⟨methS, ?_⟩
  kd_all
  refine comp_ (cl := []) (names := [(Str.ofString ".0", .local), (Str.ofString "piece", .local)]) (rs := [Str.ofString "piece"]) (by with_unfolding_all rfl) (by with_unfolding_all rfl) (by kernel_rfl) (by kernel_rfl) rfl rfl rfl ?_
  refine Attr_ ?_
  kd_all
  refine getOwn_ (dv := .list [.str w]) hK .fix (by kernel_rfl) rfl rfl ?_
  refine ⟨[.str w], fun i acc u' => acc = stl ([w].take i) ∧ u' = _, iterList, by kt_len, ⟨rfl, rfl⟩, ?_, ?_⟩
  · rintro i di acc _ C Dd m hdi hi _ ⟨rfl, rfl⟩ hm cenv he2
    obtain ⟨o, rfl⟩ := names1 hm
    have hi0 : i = 0 := by simp at hi; exact hi
    subst hi0
    cases hdi
    kd_all
    refine tests0_ ?_
    refine ifT rfl ?_
    refine Or_ ?_
    kd_all
    refine truthyS (by have : sizeLine = 16777216 := rfl; omega) ?_
    have hsp : ∀ {P : Prop} {R : Prop}, (w = sNone → R) → P → (if ((w.length : Int) != 0) = true then P else R) := by
      intro P R h1 h2
      by_cases h : ((w.length : Int) != 0) = true
      · rw [if_pos h]; exact h2
      · rw [if_neg h]
        have := truthy_or w
        rw [if_neg h] at this
        exact h1 this.symm
    refine hsp (fun hw => ?_) ?_
    · kd_all
      subst hw
      exact ⟨_, _, _, _, .here, rfl, .here, .refl _, rfl, rfl⟩
    · exact ⟨_, _, _, _, .here, rfl, .here, .refl _, rfl, rfl⟩
  · rintro acc _ _ ⟨rfl, rfl⟩
    kd_all
    refine joinL (ws := [w]) (join_room hz) ?_
    rw [join_one]
    exact ⟨_, _, .here, hQ⟩

theorem end_ok {Γ : Cx} (hK : Γ.K = hd.heap_39 Γ.w.params) {u : Led} {i : Int} {w : Str} {Q : D → Led → Prop} (hz : w.length ≤ 1000) (hQ : Q (.int (i + w.length)) u) : CodeL Γ 2 564 [] [.inst 573 [(aPlace, .int i), (aPieces, .list [.str w])]] Q u := by
  refine defK_ (bs := [(Str.ofString "self", .inst 573 [(aPlace, .int i), (aPieces, .list [.str w])]), (Str.ofString "arg", .int 0)]) (rs := []) hK rfl (by kernel_rfl) rfl ?_ (by tb_rel) (by kernel_rfl) (by kernel_rfl) (by kernel_rfl) rfl rfl rfl (by kernel_rfl) rfl rfl ?_
  · intro s g vs X _ hv
    cases hv with | cons h1 hv => ?_
    cases hv
    rw [hK] at X
    exact ⟨_, binds_K X rfl rfl rfl rfl rfl, .cons h1 (.cons (.int 0 _) .nil)⟩
  intro L env he
  dsimp only at he
  kd_all
  refine tValU_ ?_
  kd_all
  refine truthyInt ?_
  refine ifF rfl ?_
  kd_all
  refine Attr_ ?_
  kd_all
  refine getOwn_ (dv := .int i) hK .fix (by kernel_rfl) rfl rfl ?_
  kd_all
  refine CallI_ hK ?_
  kd_all
  refine ⟨573, _, 570, .fix, by kernel_rfl, by kernel_rfl, ?_⟩
  kd_all
  refine (group_ok hK hz ?_).call.up (by decide)
  kd_all
  refine lenS (by omega) ?_
  kd_all
  exact ⟨_, _, .here, hQ⟩

def rowsD (ws : List Str) : D := .list (ws.map fun w => .list [.str w])
def matchD (place : Int) : List Str → D
  | [] => .none
  | w :: _ => .inst 573 [(aPlace, .int place), (aPieces, .list [.str w])]
theorem match_ok {Γ : Cx} (hK : Γ.K = hd.heap_39 Γ.w.params) {u : Led} {ws : List Str} {text : Str} {place : Nat} {Q : D → Led → Prop} (hw : ∀ w ∈ ws, w.length ≤ 2) (hl : ws.length ≤ 1000) (hz : text.length ≤ 1000) (hp : place ≤ 1000) (hQ : Q (matchD place (hits text place ws)) u) : CodeL Γ 3 597 [] [.inst 600 [(aRows, rowsD ws)], .str text, .int place] Q u := by
  have hsl : sizeLine = 16777216 := rfl
  refine defK_ (bs := [(Str.ofString "self", .inst 600 [(aRows, rowsD ws)]), (Str.ofString "text", .str text), (Str.ofString "pos", .int place), (Str.ofString "endpos", .none)]) (rs := [Str.ofString "pieces", Str.ofString "told"]) hK rfl (by kernel_rfl) rfl ?_ (by tb_rel) (by kernel_rfl) (by kernel_rfl) (by kernel_rfl) rfl rfl rfl (by kernel_rfl) rfl rfl ?_
  · intro s g vs X _ hv
    cases hv with | cons h1 hv => ?_
    cases hv with | cons h2 hv => ?_
    cases hv with | cons h3 hv => ?_
    cases hv
    rw [hK] at X
    exact ⟨_, binds_K X rfl rfl rfl rfl rfl, .cons h1 (.cons h2 (.cons h3 (.cons .none .nil)))⟩
  intro L env he
  dsimp only at he
  kd_all
  refine For2_ ?_
  refine Attr_ ?_
  kd_all
  refine getOwn_ (dv := rowsD ws) hK .fix (by kernel_rfl) rfl rfl ?_
  refine ⟨ws.map fun w => .list [.str w], fun i u' => ∃ (o1 o2 : Option D), hits text place (ws.take i) = [] ∧ u' = (L, .ns [(Str.ofString "self", some (.inst 600 [(aRows, rowsD ws)])), (Str.ofString "text", some (.str text)), (Str.ofString "pos", some (.int place)), (Str.ofString "endpos", some .none), (Str.ofString "pieces", o1), (Str.ofString "told", o2)]) :: u, iterList, ?_, ?_, ?_⟩
  · exact ⟨_, _, rfl, rfl⟩
  · rintro i di _ hdi ⟨o1, o2, hh, rfl⟩
    obtain ⟨w, hwi, rfl⟩ : ∃ w, ws[i]? = some w ∧ D.list [.str w] = di := by
      rw [List.getElem?_map, Option.map_eq_some_iff] at hdi; exact hdi
    have hw2 := hw w (List.mem_of_getElem? hwi)
    kd_all
    refine CallM_ (T := "str") (id := "str.join") (pl := pure true) F.plainAttrs_str F.slot_str_join F.type_str_join ?_ (by with_unfolding_all rfl) (by with_unfolding_all exact .inr ⟨_, _, rfl, rfl⟩) (by with_unfolding_all rfl)
    kd_all
    refine ⟨methS, ?_⟩
    kd_all
    refine comp_ (cl := []) (names := [(Str.ofString ".0", .local), (Str.ofString "piece", .local)]) (rs := [Str.ofString "piece"]) (by with_unfolding_all rfl) (by with_unfolding_all rfl) (by kernel_rfl) (by kernel_rfl) rfl rfl rfl ?_
    kd_all
    refine ⟨[.str w], fun i acc u' => acc = stl ([w].take i) ∧ u' = _, iterList, by kt_len, ⟨rfl, rfl⟩, ?_, ?_⟩
    · rintro j dj acc _ C Dd m hdj hj _ ⟨rfl, rfl⟩ hm cenv he2
      obtain ⟨o, rfl⟩ := names1 hm
      have hj0 : j = 0 := by simp at hj; exact hj
      subst hj0
      cases hdj
      kd_all
      refine tests0_ ?_
      refine ifT rfl ?_
      refine Or_ ?_
      kd_all
      refine truthyS (by omega) ?_
      refine or_cases (fun hw => ?_) ?_
      · kd_all
        subst hw
        exact ⟨_, _, _, _, .here, rfl, .here, .refl _, rfl, rfl⟩
      · exact ⟨_, _, _, _, .here, rfl, .here, .refl _, rfl, rfl⟩
    · rintro acc _ _ ⟨rfl, rfl⟩
      kd_all
      refine joinL (ws := [w]) (join_room (by omega)) ?_
      rw [join_one]
      kd_all
      refine SliceS_ ?_
      kd_all
      refine lenS (by omega) ?_
      kd_all
      refine ⟨_, _, _, rfl, .int, .int, by omega, ?_⟩
      kd_all
      refine ⟨_, rfl, ?_⟩
      have htk : ws.take (i + 1) = ws.take i ++ [w] := by rw [List.take_add_one, hwi]; rfl
      by_cases hit1 : hit text place w = true
      · refine ifT hit1 ?_
        kd_all
        refine ⟨_, rfl, ?_⟩
        refine ifT rfl ?_
        refine ifT rfl ?_
        kd_all
        refine CallU_ (NameG_ hK he (by mem_news) g_pmatch (.raw _) ⟨Callee.fn hK k_pmatch, ?_⟩)
        kd_all
        refine (pmatch_ok hK ?_).up (by decide)
        have hd : matchD place (hits text place ws) = matchD place [w] := by
          have e : ws = ws.take i ++ ws.drop i := (List.take_append_drop i ws).symm
          have e2 : ws.drop i = w :: ws.drop (i + 1) := by
            have hi := (List.getElem?_eq_some_iff.mp hwi)
            rw [List.drop_eq_getElem_cons hi.1, hi.2]
          rw [e, e2]
          unfold hits at hh ⊢
          rw [List.filter_append, hh, List.filter_cons, hit1]; rfl
        rw [hd] at hQ
        exact ⟨_, _, .here, hQ⟩
      · have hit0 : hit text place w = false := by simpa using hit1
        refine ifF hit0 ?_
        refine ifF rfl ?_
        kd_all
        refine ⟨_, _, ?_, rfl⟩
        unfold hits at hh ⊢
        rw [htk, List.filter_append, hh, List.filter_cons, hit0]; rfl
  · rintro _ ⟨o1, o2, hh, rfl⟩
    rw [List.length_map, List.take_length] at hh
    rw [hh] at hQ
    kd_all
    exact ⟨_, _, .here, hQ⟩



def kindI (s : Str) : D := .inst 66 [(aNames, .tup [.str s])]
def ruleD (r : Rl) : D := match r.ch with
  | .no => .tup [.inst 600 [(aRows, rowsD r.terms)], kindI (kindN r.kind)]
  | c => .tup [.inst 600 [(aRows, rowsD r.terms)], kindI (kindN r.kind), c.d]
theorem rules_ok {Γ : Cx} (hK : Γ.K = hd.heap_39 Γ.w.params) {u : Led} {rs : List Rl} {Q : D → Led → Prop} (hr : ∀ r ∈ rs, RlOk r) (hl : rs.length ≤ 1000) (hQ : Q (.list (rs.map ruleD)) u) : OnL Γ (Is Γ.w.params) 4 (fun vs => call (.ref 686) vs) [rlD rs] Q u := by
  have hsl : sizeLine = 16777216 := rfl
  refine def_ hK rfl (by kernel_rfl) rfl (bs := [(Str.ofString "rules", rlD rs)]) (rs := [Str.ofString "types", Str.ofString "found", Str.ofString "terms", Str.ofString "kind", Str.ofString "change", Str.ofString "rule"]) ?_ (by tb_rel) (by kernel_rfl) (by kernel_rfl) (by kernel_rfl) rfl rfl rfl (by kernel_rfl) rfl rfl ?_
  · exact bind1 (X := fun s => Γ.K.In s.heap) (Z := Keep Γ.H0) fun _ _ => BindsTo.of_eq rfl
  intro L env he
  dsimp only at he
  kqd_in
  refine AssignComp_ (cl := []) (names := [(Str.ofString ".0", .local), (Str.ofString "kind", .local), (Str.ofString "_TokenType", .globalImplicit)]) (rs := [Str.ofString "kind"]) (by with_unfolding_all rfl) (by with_unfolding_all rfl) (by with_unfolding_all rfl) (by kernel_rfl) (by kernel_rfl) rfl rfl rfl ?_
  kd_all
  refine (kinds_ok hK ?_).up (by decide)
  refine ⟨stl kinds3, fun i acc u' => acc = (kinds3.take i).map kindI ∧ u' = (L, .ns [(Str.ofString "rules", some (rlD rs)), (Str.ofString "types", none), (Str.ofString "found", none), (Str.ofString "terms", none), (Str.ofString "kind", none), (Str.ofString "change", none), (Str.ofString "rule", none)]) :: u, iterList, by kt_len, ⟨rfl, rfl⟩, ?_, ?_⟩
  · rintro i di acc _ C Dd m hdi hi _ ⟨rfl, rfl⟩ hm cenv he2
    obtain ⟨o, rfl⟩ := names1 hm
    obtain ⟨s, hs, rfl⟩ : ∃ s, kinds3[i]? = some s ∧ D.str s = di := by
      rw [List.getElem?_map, Option.map_eq_some_iff] at hdi; exact hdi
    kd_all
    refine tests0_ ?_
    refine ifT rfl ?_
    kd_all
    refine (tt_ok hK ?_).up (by decide)
    refine ⟨_, _, _, _, .here, rfl, .here, .refl _, ?_, rfl⟩
    rw [List.take_add_one, hs, List.map_append]; rfl
  rintro acc _ _ ⟨rfl, rfl⟩
  kd_all
  refine newListM_ (fun fl => ?_) (by kt_len)
  kd_all
  refine For2_ ?_
  kd_all
  refine ⟨rs.map Rl.d, fun i u' => ∃ (o1 o2 o3 o4 : Option D), u' = (fl, .list ((rs.take i).map ruleD)) :: (L, .ns [(Str.ofString "rules", some (rlD rs)), (Str.ofString "types", some (.list (kinds3.map kindI))), (Str.ofString "found", some (.raw (.ref fl))), (Str.ofString "terms", o1), (Str.ofString "kind", o2), (Str.ofString "change", o3), (Str.ofString "rule", o4)]) :: u, iterList, ?_, ?_, ?_⟩
  · exact ⟨_, _, _, _, rfl⟩
  · rintro i di _ hdi ⟨o1, o2, o3, o4, rfl⟩
    obtain ⟨r, hri, rfl⟩ : ∃ r, rs[i]? = some r ∧ Rl.d r = di := by
      rw [List.getElem?_map, Option.map_eq_some_iff] at hdi; exact hdi
    have hi := (List.getElem?_eq_some_iff.mp hri).1
    have hk := hr r (List.mem_of_getElem? hri)
    have htk : rs.take (i + 1) = rs.take i ++ [r] := by rw [List.take_add_one, hri]; rfl
    show On1 _ _ _ _ (.tup [.list (stl r.terms), .int r.kind, r.ch.d]) _ _
    kd_all
    refine comp_ (cl := []) (names := [(Str.ofString ".0", .local), (Str.ofString "word", .local)]) (rs := [Str.ofString "word"]) (by with_unfolding_all rfl) (by with_unfolding_all rfl) (by kernel_rfl) (by kernel_rfl) rfl rfl rfl ?_
    kd_all
    have hwl := hk.terms.le
    refine ⟨stl r.terms, fun j acc u' => acc = ((r.terms.take j).map fun w => D.list [.str w]) ∧ u' = _, iterList, by simp only [stl, List.length_map]; omega, ⟨rfl, rfl⟩, ?_, ?_⟩
    · rintro j dj acc _ C Dd m hdj hj _ ⟨rfl, rfl⟩ hm cenv he2
      obtain ⟨o, rfl⟩ := names1 hm
      obtain ⟨w, hw, rfl⟩ : ∃ w, r.terms[j]? = some w ∧ D.str w = dj := by
        rw [List.getElem?_map, Option.map_eq_some_iff] at hdj; exact hdj
      kd_all
      refine tests0_ ?_
      refine ifT rfl ?_
      kd_all
      refine newListF_ ?_ (by kt_len)
      refine ⟨_, _, _, _, .here, rfl, .here, .refl _, ?_, rfl⟩
      rw [List.take_add_one, hw, List.map_append]; rfl
    · rintro acc _ _ ⟨rfl, rfl⟩
      have e1 : r.terms.take (stl r.terms).length = r.terms := by simp [stl]
      rw [e1]
      kd_all
      refine (plain_ok hK ?_).up (by decide)
      kd_all
      have hkn : (kinds3.map kindI)[r.kind.toNat]? = some (kindI (kindN r.kind)) := by
        have h0 := hk.k0
        have h3 := hk.k3
        have : r.kind = 0 ∨ r.kind = 1 ∨ r.kind = 2 := by omega
        rcases this with e | e | e <;> rw [e] <;> rfl
      refine itemL hk.k0 (by have := hk.k3; omega) hkn ?_
      kd_all
      refine newTuple_ ?_ (by kt_len)
      kd_all
      refine Append_ ?_
      kd_all
      refine ⟨fl, rfl, ?_, _, by mem_news⟩
      refine argU_cons ?_
      refine WL.mono (Q := fun d u' => d = ruleD r ∧ u' = (fl, .list ((rs.take i).map ruleD)) :: (L, .ns [(Str.ofString "rules", some (rlD rs)), (Str.ofString "types", some (.list (kinds3.map kindI))), (Str.ofString "found", some (.raw (.ref fl))), (Str.ofString "terms", some (.list (stl r.terms))), (Str.ofString "kind", some (.int r.kind)), (Str.ofString "change", some r.ch.d), (Str.ofString "rule", some (.tup [.inst 600 [(aRows, rowsD r.terms)], kindI (kindN r.kind)]))]) :: u) ?_ ?_
      · refine IfExp_ ?_
        kd_all
        refine ⟨_, rfl, ?_⟩
        cases hc : r.ch with
        | no =>
          refine ifT rfl ?_
          kd_all
          exact ⟨by unfold ruleD; rw [hc]; rfl, by first | rfl | (rw [hc])⟩
        | one s =>
          refine ifF rfl ?_
          kd_all
          refine newTuple_ ?_ (by kt_len)
          refine addTT (by kt_len) (by kt_len) (by kt_len) ?_
          exact ⟨by unfold ruleD; rw [hc]; rfl, by first | rfl | (rw [hc])⟩
        | many l =>
          refine ifF rfl ?_
          kd_all
          refine newTuple_ ?_ (by kt_len)
          refine addTT (by kt_len) (by kt_len) (by kt_len) ?_
          exact ⟨by unfold ruleD; rw [hc]; rfl, by first | rfl | (rw [hc])⟩
      · rintro _ _ ⟨rfl, rfl⟩
        kd_all
        refine ⟨_, _, _, rfl, by tb_start, by simp; omega, ?_⟩
        kd_all
        exact ⟨_, _, _, _, by rw [htk, List.map_append]; rfl⟩
  · rintro _ ⟨o1, o2, o3, o4, rfl⟩
    have e1 : rs.take (rs.map Rl.d).length = rs := by simp
    rw [e1]
    kqd_in
    kqd_in
    refine freeze_ (a := fl) (by tb_start) .list (by kt_eqs) ?_
    kd_all
    exact ⟨_, _, .here, hQ⟩



theorem take_one {α : Type} {l : List α} {i : Nat} {a : α} (h : l[i]? = some a) : l.take (i + 1) = l.take i ++ [a] := by
  rw [List.take_add_one, h]; rfl
def scriptD (ns : List Int) : D := .list (ns.map .int)
def stNums (ns : List Int) : List D := ((ns.take 24).map fun a => D.int ((if a < 0 then -a else a).fmod 1000003)) ++ [.int 5, .int 0, .int 11]
theorem stNums_ok (ns : List Int) : NsOk (stNums ns) := by
  refine ⟨by simp [stNums], by simp [stNums]; omega, fun i hi => ?_⟩
  unfold stNums at hi ⊢
  by_cases h : i < (ns.take 24).length
  · refine ⟨(if (ns.take 24)[i] < 0 then -(ns.take 24)[i] else (ns.take 24)[i]).fmod 1000003, ?_, Int.fmod_nonneg_of_pos _ (by decide), Int.lt_trans (Int.fmod_lt_of_pos _ (by decide)) (by decide)⟩
    rw [List.getElem?_append_left (by simpa using h), List.getElem?_map, List.getElem?_eq_getElem h]; rfl
  · have hl : ((ns.take 24).map fun a => D.int ((if a < 0 then -a else a).fmod 1000003)).length ≤ i := by simpa using Nat.le_of_not_lt h
    rw [List.getElem?_append_right hl]
    rw [List.length_append] at hi
    have : i - ((ns.take 24).map fun a => D.int ((if a < 0 then -a else a).fmod 1000003)).length < 3 := by simp only [List.length_cons, List.length_nil] at hi; omega
    generalize i - ((ns.take 24).map fun a => D.int ((if a < 0 then -a else a).fmod 1000003)).length = j at this
    have : j = 0 ∨ j = 1 ∨ j = 2 := by omega
    rcases this with rfl | rfl | rfl
    · exact ⟨5, rfl, by decide, by decide⟩
    · exact ⟨0, rfl, by decide, by decide⟩
    · exact ⟨11, rfl, by decide, by decide⟩
theorem state_ok {Γ : Cx} (hK : Γ.K = hd.heap_39 Γ.w.params) {u : Led} {ns : List Int} {Q : D → Led → Prop} (hl : ns.length ≤ 1000) (hQ : ∀ st, Q (.raw (.ref st)) ((st, rng (stNums ns) 0) :: u)) : OnL Γ (Is Γ.w.params) 3 (fun vs => call (.ref 635) vs) [scriptD ns] Q u := by
  have hsl : sizeLine = 16777216 := rfl
  refine def_ hK rfl (by kernel_rfl) rfl (bs := [(Str.ofString "script", scriptD ns)]) (rs := []) ?_ (by tb_rel) (by kernel_rfl) (by kernel_rfl) (by kernel_rfl) rfl rfl rfl (by kernel_rfl) rfl rfl ?_
  · exact bind1 (X := fun s => Γ.K.In s.heap) (Z := Keep Γ.H0) fun _ _ => BindsTo.of_eq rfl
  intro L env he
  dsimp only at he
  kd_all
  refine comp_ (cl := []) (names := [(Str.ofString ".0", .local), (Str.ofString "number", .local), (Str.ofString "abs", .globalImplicit)]) (rs := [Str.ofString "number"]) (by with_unfolding_all rfl) (by with_unfolding_all rfl) (by kernel_rfl) (by kernel_rfl) rfl rfl rfl ?_
  refine SliceL_ ?_
  kd_all
  have hcut : sliced (ns.map D.int) none (some 24) = (ns.take 24).map D.int := by
    unfold sliced cut
    simp only [List.length_map, List.drop_zero, Nat.sub_zero, List.map_take]
    rcases Nat.le_total ns.length 24 with h | h
    · rw [List.take_of_length_le (by simp; omega), List.take_of_length_le (by simp; omega)]
    · congr 1; omega
  refine ⟨ns.map D.int, none, some 24, rfl, .none, .int, by simp; omega, ?_⟩
  rw [hcut]
  refine ⟨(ns.take 24).map D.int, fun i acc u' => acc = (((ns.take 24).take i).map fun a => D.int ((if a < 0 then -a else a).fmod 1000003)) ∧ u' = _, iterList, by simp; omega, ⟨rfl, rfl⟩, ?_, ?_⟩
  · rintro i di acc _ C Dd m hdi hi _ ⟨rfl, rfl⟩ hm cenv he2
    obtain ⟨o, rfl⟩ := names1 hm
    obtain ⟨a, ha, rfl⟩ : ∃ a, (ns.take 24)[i]? = some a ∧ D.int a = di := by
      rw [List.getElem?_map, Option.map_eq_some_iff] at hdi; exact hdi
    kd_all
    refine tests0_ ?_
    refine ifT rfl ?_
    kd_all
    refine absI ?_
    kd_all
    refine modI (by decide) ?_
    refine ⟨_, _, _, _, .here, rfl, .here, .refl _, ?_, rfl⟩
    rw [take_one ha, List.map_append]; rfl
  · rintro acc _ _ ⟨rfl, rfl⟩
    have e1 : (ns.take 24).take ((ns.take 24).map D.int).length = ns.take 24 := by rw [List.length_map, List.take_length]
    rw [e1]
    kd_all
    refine newListF_ ?_ (by kt_len)
    refine addLL (by simp; omega) ?_
    kd_all
    refine newListM_ (fun st => ?_) (by kt_len)
    exact ⟨_, _, .there .here, hQ st⟩



def AllTup (ds : List D) : Prop := ∀ d ∈ ds, ∃ l, d = .tup l
theorem inh_ok {Γ : Cx} (hK : Γ.K = hd.heap_39 Γ.w.params) {u : Led} {ds : List D} {Q : D → Led → Prop} (ht : AllTup ds) (hQ : Q .none u) : OnL Γ (Is Γ.w.params) 1 (fun vs => call (.ref 443) vs) [.list ds] Q u := by
  refine def_ hK rfl (by kernel_rfl) rfl (bs := [(Str.ofString "items", .list ds)]) (rs := [Str.ofString "k", Str.ofString "item"]) ?_ (by tb_rel) (by kernel_rfl) (by kernel_rfl) (by kernel_rfl) rfl rfl rfl (by kernel_rfl) rfl rfl ?_
  · exact bind1 (X := fun s => Γ.K.In s.heap) (Z := Keep Γ.H0) fun _ _ => BindsTo.of_eq rfl
  intro L env he
  dsimp only at he
  kd_all
  refine ForEnum_ hK he (by mem_news) g_enumerate b_enumerate n_enumerate ?_
  kd_all
  refine ⟨ds, fun i u' => ∃ (o1 o2 : Option D), u' = (L, .ns [(Str.ofString "items", some (.list ds)), (Str.ofString "k", o1), (Str.ofString "item", o2)]) :: u, rfl, ⟨_, _, rfl⟩, ?_, ?_⟩
  · rintro i di _ hdi ⟨o1, o2, rfl⟩
    obtain ⟨l, rfl⟩ := ht di (List.mem_of_getElem? hdi)
    kd_all
    refine tValU_ ?_
    kd_all
    refine isi_tupK hK (by kernel_rfl) ?_
    refine truthyB ?_
    refine ifF rfl ?_
    kd_all
    exact ⟨_, _, rfl⟩
  · rintro _ ⟨o1, o2, rfl⟩
    kd_all
    exact ⟨_, _, .here, hQ⟩



def RowsOk (ds : List (Str × D)) : Prop := (ds.map (·.1)).Nodup ∧ ∀ p ∈ ds, ∃ l, p.2 = .list l ∧ AllTup l ∧ l.length ≤ sizeLine
theorem itemsOf_get {ds : List (Str × D)} {i : Nat} {di : List D} (h : (itemsOf ds)[i]? = some di) : ∃ k d, ds[i]? = some (k, d) ∧ di = [.str k, d] := by
  unfold itemsOf at h
  rw [List.getElem?_map, Option.map_eq_some_iff] at h
  obtain ⟨p, hp, rfl⟩ := h
  exact ⟨p.1, p.2, hp, rfl⟩
theorem take_new {ds : List (Str × D)} (nd : (ds.map (·.1)).Nodup) {i : Nat} {k : Str} {d : D} (h : ds[i]? = some (k, d)) : k ∉ (ds.take i).map (·.1) ∧ ds.take (i + 1) = ds.take i ++ [(k, d)] := by
  have e : ds.take (i + 1) = ds.take i ++ [(k, d)] := by rw [List.take_add_one, h]; rfl
  refine ⟨fun hm => ?_, e⟩
  have nd2 : ((ds.take (i + 1)).map (·.1)).Nodup := ((List.take_sublist (i + 1) ds).map _).nodup nd
  rw [e, List.map_append, List.nodup_append] at nd2
  exact nd2.2.2 _ hm k (by simp) rfl
theorem valD_new {ds : List (Str × D)} {k : Str} (h : k ∉ ds.map (·.1)) : valD ds k = none := by
  unfold valD
  rw [List.find?_eq_none.mpr]
  · rfl
  · intro p hp e
    exact h (List.mem_map.mpr ⟨p, hp, by simpa using e⟩)

theorem merged_ok {Γ : Cx} (hK : Γ.K = hd.heap_39 Γ.w.params) {u : Led} {ds : List (Str × D)} {Q : D → Led → Prop} (hr : RowsOk ds) (hz : ds.length ≤ 1000) (hQ : Q (.dict ds) u) : OnL Γ (Is Γ.w.params) 2 (fun vs => call (.ref 450) vs) [.tup [.dict ds]] Q u := by
  refine def_ hK rfl (by kernel_rfl) rfl (bs := [(Str.ofString "tables", .tup [.dict ds])]) (rs := [Str.ofString "tokens", Str.ofString "inheritable", Str.ofString "toks", Str.ofString "state", Str.ofString "items", Str.ofString "curitems", Str.ofString "inherit_ndx", Str.ofString "new_inh_ndx"]) ?_ (by tb_rel) (by kernel_rfl) (by kernel_rfl) (by kernel_rfl) rfl rfl rfl (by kernel_rfl) rfl rfl ?_
  · exact bind1 (X := fun s => Γ.K.In s.heap) (Z := Keep Γ.H0) fun _ _ => BindsTo.of_eq rfl
  intro L env he
  dsimp only at he
  kd_all
  refine Dict0_ (fun tk => ?_)
  kd_all
  refine Dict0_ (fun ih => ?_)
  kd_all
  refine For2_ ?_
  kd_all
  refine ⟨_, fun i u' => ∃ (o1 o2 o3 o4 o5 o6 : Option D), u' = (ih, .dict []) :: (tk, .dict (if i = 0 then [] else ds)) :: (L, .ns [(Str.ofString "tables", some (.tup [.dict ds])), (Str.ofString "tokens", some (.raw (.ref tk))), (Str.ofString "inheritable", some (.raw (.ref ih))), (Str.ofString "toks", o1), (Str.ofString "state", o2), (Str.ofString "items", o3), (Str.ofString "curitems", o4), (Str.ofString "inherit_ndx", o5), (Str.ofString "new_inh_ndx", o6)]) :: u, iterTup, ⟨_, _, _, _, _, _, rfl⟩, ?_, ?_⟩
  · rintro i di _ hdi ⟨o1, o2, o3, o4, o5, o6, rfl⟩
    have : i = 0 ∧ di = .dict ds := by
      cases i with
      | zero => cases hdi; exact ⟨rfl, rfl⟩
      | succ i => simp at hdi
    obtain ⟨rfl, rfl⟩ := this
    rw [if_pos rfl]
    kd_all
    refine ForT_ ?_
    refine CallM_ (T := "dict") (id := "dict.items") F.plainAttrs_dict F.slot_dict_items F.type_dict_items ?_ (by with_unfolding_all rfl) (by with_unfolding_all exact .inl rfl) (by with_unfolding_all rfl)
    kd_all
    refine ⟨methD, ?_⟩
    kd_all
    refine itemsD ?_
    refine ⟨_, fun i u' => ∃ (o2 o3 o4 o5 o6 : Option D), i ≤ ds.length ∧ u' = (ih, .dict []) :: (tk, .dict (ds.take i)) :: (L, .ns [(Str.ofString "tables", some (.tup [.dict ds])), (Str.ofString "tokens", some (.raw (.ref tk))), (Str.ofString "inheritable", some (.raw (.ref ih))), (Str.ofString "toks", some (.dict ds)), (Str.ofString "state", o2), (Str.ofString "items", o3), (Str.ofString "curitems", o4), (Str.ofString "inherit_ndx", o5), (Str.ofString "new_inh_ndx", o6)]) :: u, iterItems, ⟨_, _, _, _, _, by omega, rfl⟩, ?_, ?_⟩
    · rintro i di _ hdi ⟨o2, o3, o4, o5, o6, hi, rfl⟩
      obtain ⟨k, d, hkd, rfl⟩ := itemsOf_get hdi
      obtain ⟨l, hl, hall, hlz⟩ := hr.2 _ (List.mem_of_getElem? hkd)
      dsimp only at hl
      subst hl
      obtain ⟨hnew, hsucc⟩ := take_new hr.1 hkd
      have hlt := (List.getElem?_eq_some_iff.mp hkd).1
      kd_all
      refine CallM_ (T := "dict") (id := "dict.get") F.plainAttrs_dict F.slot_dict_get F.type_dict_get ?_ (by with_unfolding_all rfl) (by with_unfolding_all exact .inr ⟨_, _, rfl, rfl⟩) (by with_unfolding_all rfl)
      kd_all
      refine ⟨methDM (by mem_news), ?_⟩
      kd_all
      refine dgetMC_ (by mem_news) ?_
      rw [valD_new hnew]
      kd_all
      refine ⟨_, rfl, ifT rfl ?_⟩
      kd_all
      refine AssignSub_ ?_
      kd_all
      refine listOfListF hlz ?_
      kd_all
      refine setD_ (ds := ds.take i) ?_ (by tb_start) ?_
      · have : sizeLine = 16777216 := rfl
        simp; omega
      rw [storD_new hnew, ← hsucc]
      kd_all
      refine (inh_ok hK hall ?_).up (by decide)
      kd_all
      refine ⟨_, rfl, ifT rfl ?_⟩
      kd_all
      exact ⟨_, _, _, _, _, hlt, rfl⟩
    · rintro _ ⟨o2, o3, o4, o5, o6, hi, rfl⟩
      have : (itemsOf ds).length = ds.length := by simp [itemsOf]
      rw [this, List.take_length]
      kd_all
      exact ⟨_, _, _, _, _, _, rfl⟩
  · rintro _ ⟨o1, o2, o3, o4, o5, o6, rfl⟩
    rw [if_neg (by simp)]
    kqd_in
    kqd_in
    refine freeze_ (a := tk) (by tb_start) .dict (by kt_eqs) ?_
    refine WL.sub (.cons _ (.refl _)) ?_
    kd_all
    exact ⟨_, _, .here, hQ⟩



abbrev aOptions : Str := Str.ofString "options"
abbrev aStripnl : Str := Str.ofString "stripnl"
abbrev aStripall : Str := Str.ofString "stripall"
abbrev aEnsurenl : Str := Str.ofString "ensurenl"
abbrev aFilters : Str := Str.ofString "filters"
/-- what Lexer.__init__ lays into the object -/
def lex5 : List (Str × D) := [(aOptions, .dict []), (aStripnl, .bool true), (aStripall, .bool false), (aEnsurenl, .bool true), (aFilters, .list [])]
theorem lexinit_ok {Γ : Cx} (hK : Γ.K = hd.heap_39 Γ.w.params) {u : Led} {L0 x da : Addr} {m0 : List (Str × Option D)} {Q : D → Led → Prop}
    (hQ : Q .none ((L0, .ns m0) :: (x, .inst 621 da) :: (da, .attrs lex5) :: u)) : CodeL Γ 2 227 [] [.raw (.ref x)] Q ((L0, .ns m0) :: (x, .inst 621 da) :: (da, .attrs []) :: u) := by
  refine defV_ (bs := [(Str.ofString "self", .raw (.ref x)), (Str.ofString "options", .dict [])]) (rs := [Str.ofString "filter_"]) hK rfl (by kernel_rfl) rfl (bindK0 fun a => by with_unfolding_all rfl) (by tb_rel) (by kernel_rfl) (by kernel_rfl) (by kernel_rfl) rfl rfl rfl (by kernel_rfl) rfl rfl ?_
  intro L env he
  dsimp only at he
  kd_all
  refine AssignAttr_ ?_
  kd_all
  refine setA_ (da := da) hK (by mem_news) (by tb_start) (by kernel_rfl) (by kernel_rfl) (by kt_len) ?_
  kd_all
  refine AssignAttr_ ?_
  refine CallM_ (T := "dict") (id := "dict.get") F.plainAttrs_dict F.slot_dict_get F.type_dict_get ?_ (by with_unfolding_all rfl) (by with_unfolding_all exact .inr ⟨_, _, rfl, rfl⟩) (by with_unfolding_all rfl)
  kd_all
  refine ⟨methD, ?_⟩
  kd_all
  refine dget3C_ ?_
  kd_all
  refine setA_ (da := da) hK (by mem_news) (by tb_start) (by kernel_rfl) (by kernel_rfl) (by kt_len) ?_
  kd_all
  refine AssignAttr_ ?_
  refine CallM_ (T := "dict") (id := "dict.get") F.plainAttrs_dict F.slot_dict_get F.type_dict_get ?_ (by with_unfolding_all rfl) (by with_unfolding_all exact .inr ⟨_, _, rfl, rfl⟩) (by with_unfolding_all rfl)
  kd_all
  refine ⟨methD, ?_⟩
  kd_all
  refine dget3C_ ?_
  kd_all
  refine setA_ (da := da) hK (by mem_news) (by tb_start) (by kernel_rfl) (by kernel_rfl) (by kt_len) ?_
  kd_all
  refine AssignAttr_ ?_
  refine CallM_ (T := "dict") (id := "dict.get") F.plainAttrs_dict F.slot_dict_get F.type_dict_get ?_ (by with_unfolding_all rfl) (by with_unfolding_all exact .inr ⟨_, _, rfl, rfl⟩) (by with_unfolding_all rfl)
  kd_all
  refine ⟨methD, ?_⟩
  kd_all
  refine dget3C_ ?_
  kd_all
  refine setA_ (da := da) hK (by mem_news) (by tb_start) (by kernel_rfl) (by kernel_rfl) (by kt_len) ?_
  kd_all
  refine AssignAttr_ ?_
  kd_all
  refine newListF_ ?_ (by kt_len)
  kd_all
  refine setA_ (da := da) hK (by mem_news) (by tb_start) (by kernel_rfl) (by kernel_rfl) (by kt_len) ?_
  kd_all
  refine For2_ ?_
  refine CallM_ (T := "dict") (id := "dict.get") F.plainAttrs_dict F.slot_dict_get F.type_dict_get ?_ (by with_unfolding_all rfl) (by with_unfolding_all exact .inr ⟨_, _, rfl, rfl⟩) (by with_unfolding_all rfl)
  kd_all
  refine ⟨methD, ?_⟩
  kd_all
  refine newTuple_ ?_ (by kt_len)
  kd_all
  refine dget3C_ ?_
  refine ⟨[], fun i u' => u' = (L, .ns [(Str.ofString "self", some (.raw (.ref x))), (Str.ofString "options", some (.dict [])), (Str.ofString "filter_", none)]) :: (L0, .ns m0) :: (x, .inst 621 da) :: (da, .attrs lex5) :: u, iterTup, rfl, ?_, ?_⟩
  · rintro i di _ hdi
    simp at hdi
  · rintro _ rfl
    kd_all
    exact ⟨_, _, .here, hQ⟩



/-- a change, as the lexer keeps it -/
def chD : Ch → D
  | .no => .none
  | .one s => match popN s with
    | some k => .int (-(k : Int))
    | none => if s = sPush then .str sPush else .tup [.str s]
  | .many l => .tup (stl l)
def NamesIn (ds : List (Str × D)) : Prop := ∀ s ∈ names4, ∃ d, valD ds s = some d
def NamesOnly (ds : List (Str × D)) : Prop := ds.map (·.1) = names4
theorem NamesOnly.some {ds : List (Str × D)} (h : NamesOnly ds) {s : Str} (hs : s ∈ names4) : (valD ds s).isSome = true := by
  rw [← h] at hs
  obtain ⟨p, hp, rfl⟩ := List.mem_map.mp hs
  unfold valD
  cases e : ds.find? fun kv => kv.1 = p.1 with
  | none => have := List.find?_eq_none.mp e p hp; simp at this
  | some q => rfl
theorem NamesOnly.none {ds : List (Str × D)} (h : NamesOnly ds) {s : Str} (hs : s ∉ names4) : (valD ds s).isSome = false := by
  rw [← h] at hs
  unfold valD
  rw [List.find?_eq_none.mpr]
  · rfl
  · intro p hp e
    exact hs (List.mem_map.mpr ⟨p, hp, by simpa using e⟩)
abbrev sPopC : Str := Str.ofString "#pop:"
inductive NK : Str → D → Prop
  | pop : NK sPop (.int (-1))
  | name {s : Str} (ne : (s == sPop) = false) (m : s ∈ names4) : NK s (.tup [.str s])
  | push : NK sPush (.str sPush)
  | back {s : Str} {k : Nat} (ne : (s == sPop) = false) (nm : s ∉ names4) (np : (s == sPush) = false) (c : cutS s none (some 5) = sPopC) (z : s.length ≤ 100) (w : PySem.intText? (cutS s (some 5) none) = some (k : Int)) : NK s (.int (-(k : Int)))
theorem nk_of {s : Str} (h : ChOk (.one s)) : NK s (chD (.one s)) := by
  rcases (h : PartOk s ∨ ∃ k : Int, 1 ≤ k ∧ k ≤ 3 ∧ s = popS k) with (h | rfl | rfl) | ⟨k, h0, h1, rfl⟩
  · have e : chD (.one s) = .tup [.str s] := by
      simp only [List.mem_cons, List.not_mem_nil, or_false] at h
      unfold chD
      dsimp only
      rcases h with rfl | rfl | rfl | rfl <;> (rw [show popN _ = none from by decide +kernel]; exact if_neg (by decide +kernel))
    rw [e]
    refine .name ?_ h
    simp only [List.mem_cons, List.not_mem_nil, or_false] at h
    rcases h with rfl | rfl | rfl | rfl <;> decide +kernel
  · exact .pop
  · have e : chD (.one sPush) = .str sPush := by
      unfold chD
      dsimp only
      rw [show popN sPush = none from by decide +kernel]; exact if_pos rfl
    rw [e]; exact .push
  · have : k = 1 ∨ k = 2 ∨ k = 3 := by omega
    have e : ∀ j : Nat, popN (popS k) = some j → chD (.one (popS k)) = .int (-(j : Int)) := fun j h => by unfold chD; dsimp only; rw [h]
    rcases this with rfl | rfl | rfl
    · rw [e 1 (by decide +kernel)]; exact .back (k := 1) (by decide +kernel) (by decide +kernel) (by decide +kernel) (by decide +kernel) (by decide +kernel) (by decide +kernel)
    · rw [e 2 (by decide +kernel)]; exact .back (k := 2) (by decide +kernel) (by decide +kernel) (by decide +kernel) (by decide +kernel) (by decide +kernel) (by decide +kernel)
    · rw [e 3 (by decide +kernel)]; exact .back (k := 3) (by decide +kernel) (by decide +kernel) (by decide +kernel) (by decide +kernel) (by decide +kernel) (by decide +kernel)
theorem newstate_ok {Γ : Cx} (hK : Γ.K = hd.heap_39 Γ.w.params) {u : Led} {x pr : Addr} {ds : List (Str × D)} {c : Ch} {Q : D → Led → Prop} (hds : NamesOnly ds) (hc : ChOk c) (hn : c ≠ .no) (hQ : Q (chD c) u) :
    OnL Γ (Is Γ.w.params) 1 (fun vs => call (.ref 478) vs) [.raw (.ref x), c.d, .dict ds, .raw (.ref pr)] Q u := by
  refine def_ hK rfl (by kernel_rfl) rfl (bs := [(Str.ofString "cls", .raw (.ref x)), (Str.ofString "new_state", c.d), (Str.ofString "unprocessed", .dict ds), (Str.ofString "processed", .raw (.ref pr))]) (rs := [Str.ofString "tmp_state", Str.ofString "itokens", Str.ofString "istate"]) ?_ (by tb_rel) (by kernel_rfl) (by kernel_rfl) (by kernel_rfl) rfl rfl rfl (by kernel_rfl) rfl rfl ?_
  · exact bind4 (X := fun s => Γ.K.In s.heap) (Z := Keep Γ.H0) fun _ _ _ _ _ => BindsTo.of_eq rfl
  intro L env he
  dsimp only at he
  cases c with
  | no => exact absurd rfl hn
  | one s =>
    rw [show (Ch.one s).d = D.str s from rfl]
    kd_all
    refine tValU_ ?_
    kd_all
    refine isi_yes .str F.isi_meta_str F.sub_str_str (truthyB ?_)
    refine ifT rfl ?_
    have hk := nk_of hc
    generalize chD (.one s) = r at hk hQ
    cases hk with
    | pop =>
      kd_all
      refine ⟨_, rfl, ifT rfl ?_⟩
      kd_all
      exact ⟨_, _, .here, hQ⟩
    | name ne m =>
      kd_all
      refine ⟨_, rfl, ifF ne ?_⟩
      kd_all
      refine inD_ ⟨_, rfl, ifT (hds.some m) ?_⟩
      kd_all
      refine newTuple_ ?_ (by kt_len)
      kd_all
      exact ⟨_, _, .here, hQ⟩
    | push =>
      kd_all
      refine ⟨_, rfl, ifF (by decide +kernel) ?_⟩
      kd_all
      refine inD_ ⟨_, rfl, ifF (hds.none (by decide +kernel)) ?_⟩
      kd_all
      refine ⟨_, rfl, ifT (by decide +kernel) ?_⟩
      kd_all
      exact ⟨_, _, .here, hQ⟩
    | @back _ k ne nm np c z w =>
      have hz : s.length ≤ sizeLine := by have : sizeLine = 16777216 := rfl; omega
      kd_all
      refine ⟨_, rfl, ifF ne ?_⟩
      kd_all
      refine inD_ ⟨_, rfl, ifF (hds.none nm) ?_⟩
      kd_all
      refine ⟨_, rfl, ifF np ?_⟩
      kd_all
      refine SliceS_ ?_
      kd_all
      refine ⟨_, _, _, rfl, .none, .int, hz, ?_⟩
      kd_all
      refine ⟨_, rfl, ifT (by rw [c]; decide +kernel) ?_⟩
      kd_all
      refine SliceS_ ?_
      kd_all
      refine ⟨_, _, _, rfl, .int, .none, hz, ?_⟩
      kd_all
      refine intOfS w (Nat.le_trans (cutS_length _ _ _) (by omega)) ?_
      kd_all
      exact ⟨_, _, .here, hQ⟩
  | many l =>
    rw [show (Ch.many l).d = D.tup (stl l) from rfl]
    kd_all
    refine tValU_ ?_
    kd_all
    refine isi_no .tup (by decide +kernel) F.isi_meta_str F.sub_tuple_str (truthyB ?_)
    refine ifF rfl ?_
    kd_all
    refine tValU_ ?_
    kd_all
    refine isi_tupK hK (by kernel_rfl) (truthyB ?_)
    refine ifF rfl ?_
    kd_all
    refine tValU_ ?_
    kd_all
    refine isi_yes .tup F.isi_meta_tuple F.sub_tuple_tuple (truthyB ?_)
    refine ifT rfl ?_
    kd_all
    refine For2_ ?_
    kd_all
    refine ⟨stl l, fun i u' => ∃ o : Option D, u' = (L, .ns [(Str.ofString "cls", some (.raw (.ref x))), (Str.ofString "new_state", some (.tup (stl l))), (Str.ofString "unprocessed", some (.dict ds)), (Str.ofString "processed", some (.raw (.ref pr))), (Str.ofString "tmp_state", none), (Str.ofString "itokens", none), (Str.ofString "istate", o)]) :: u, iterTup, ⟨_, rfl⟩, ?_, ?_⟩
    · rintro i di _ hdi ⟨o, rfl⟩
      have hm := List.mem_of_getElem? hdi
      obtain ⟨p, hp, rfl⟩ := List.mem_map.mp hm
      kd_all
      refine Assert_ ?_
      kd_all
      rcases hc.2.2 p hp with h | h
      · refine inD_ ⟨_, rfl, ifT (hds.some h) ⟨rfl, ?_⟩⟩
        kd_all
        exact ⟨_, rfl⟩
      · have h' : p ∉ names4 := by rcases h with rfl | rfl <;> decide +kernel
        refine inD_ ⟨_, rfl, ifF (hds.none h') ?_⟩
        kd_all
        refine newTuple_ ?_ (by kt_len)
        have hin : ([PyData.str sPop, .str sPush].any fun y => PyData.eqv y (.str p)) = true := by rcases h with rfl | rfl <;> decide +kernel
        refine inT_ (ps := [.str sPop, .str sPush]) (.cons (.str _) (.cons (.str _) .nil)) (.str p) (by decide +kernel) (by rcases h with rfl | rfl <;> decide +kernel) (Nat.zero_le 100) ?_
        rw [hin]
        refine ⟨_, rfl, rfl, ?_⟩
        kd_all
        exact ⟨_, rfl⟩
    · rintro _ ⟨o, rfl⟩
      kd_all
      exact ⟨_, _, .here, hQ⟩



/-- a compiled rule -/
def tokD (r : Rl) : D := .tup [.meth 597 (.inst 600 [(aRows, rowsD r.terms)]), kindI (kindN r.kind), chD r.ch]
theorem ptoken_ok {Γ : Cx} (hK : Γ.K = hd.heap_39 Γ.w.params) {u : Led} {x : Addr} {k : Str} {Q : D → Led → Prop} (hQ : Q (kindI k) u) : OnL Γ (Is Γ.w.params) 1 (fun vs => call (.ref 471) vs) [.raw (.ref x), kindI k] Q u := by
  refine def_ hK rfl (by kernel_rfl) rfl (bs := [(Str.ofString "cls", .raw (.ref x)), (Str.ofString "token", kindI k)]) (rs := []) ?_ (by tb_rel) (by kernel_rfl) (by kernel_rfl) (by kernel_rfl) rfl rfl rfl (by kernel_rfl) rfl rfl ?_
  · exact bind2 (X := fun s => Γ.K.In s.heap) (Z := Keep Γ.H0) fun _ _ _ => BindsTo.of_eq rfl
  intro L env he
  dsimp only at he
  kd_all
  refine Assert_ ?_
  kd_all
  refine typeOfI .fix ?_
  kd_all
  refine isR_ ⟨_, rfl, ifT rfl ⟨rfl, ?_⟩⟩
  kd_all
  exact ⟨_, _, .here, hQ⟩
theorem pregex_ok {Γ : Cx} (hK : Γ.K = hd.heap_39 Γ.w.params) {u : Led} {x : Addr} {fs : List (Str × D)} {d e : D} {Q : D → Led → Prop} (hfs : valD fs (Str.ofString "match") = none) (hQ : Q (.meth 597 (.inst 600 fs)) u) : OnL Γ (Is Γ.w.params) 1 (fun vs => call (.ref 618) vs) [.raw (.ref x), .inst 600 fs, d, e] Q u := by
  refine def_ hK rfl (by kernel_rfl) rfl (bs := [(Str.ofString "cls", .raw (.ref x)), (Str.ofString "regex", .inst 600 fs), (Str.ofString "rflags", d), (Str.ofString "state", e)]) (rs := []) ?_ (by tb_rel) (by kernel_rfl) (by kernel_rfl) (by kernel_rfl) rfl rfl rfl (by kernel_rfl) rfl rfl ?_
  · exact bind4 (X := fun s => Γ.K.In s.heap) (Z := Keep Γ.H0) fun _ _ _ _ _ => BindsTo.of_eq rfl
  intro L env he
  dsimp only at he
  kd_all
  refine Attr_ ?_
  kd_all
  refine getBound_ (C := 600) (f := 597) hK .fix (by kernel_rfl) hfs ?_
  kd_all
  exact ⟨_, _, .here, hQ⟩



theorem name_hash {s : Str} (h : s ∈ names4) : ∃ c, ((seqIndex? 0 s.length).bind fun j => s.cps[j]?) = some c ∧ ((⟨#[c]⟩ : Str) != Str.ofString "#") = true := by
  simp only [List.mem_cons, List.not_mem_nil, or_false] at h
  rcases h with rfl | rfl | rfl | rfl
  · exact ⟨114, by decide +kernel, by decide +kernel⟩
  · exact ⟨115, by decide +kernel, by decide +kernel⟩
  · exact ⟨116, by decide +kernel, by decide +kernel⟩
  · exact ⟨117, by decide +kernel, by decide +kernel⟩
theorem ruleD_tup (r : Rl) : ∃ l, ruleD r = .tup l ∧ l[0]? = some (.inst 600 [(aRows, rowsD r.terms)]) ∧ l[1]? = some (kindI (kindN r.kind)) ∧ (r.ch = .no → l.length = 2) ∧ (r.ch ≠ .no → l.length = 3 ∧ l[2]? = some r.ch.d) := by
  unfold ruleD
  cases e : r.ch with
  | no => exact ⟨_, rfl, rfl, rfl, fun _ => rfl, fun h => absurd rfl h⟩
  | one s => exact ⟨_, rfl, rfl, rfl, fun h => (by cases h), fun _ => ⟨rfl, rfl⟩⟩
  | many s => exact ⟨_, rfl, rfl, rfl, fun h => (by cases h), fun _ => ⟨rfl, rfl⟩⟩
abbrev sState : Str := Str.ofString "state"
def LexFree (as : List (Str × D)) : Prop := valD as (Str.ofString "flags") = none ∧ valD as (Str.ofString "_process_regex") = none ∧ valD as (Str.ofString "_process_token") = none ∧ valD as (Str.ofString "_process_new_state") = none ∧ valD as (Str.ofString "_process_state") = none
theorem pstate_ok {Γ : Cx} (hK : Γ.K = hd.heap_39 Γ.w.params) {rest : Led} {x da pr : Addr} {as ds es : List (Str × D)} {s : Str} {rs : List Rl} {Q : D → Led → Prop} (hds : NamesOnly ds) (hs : s ∈ names4) (hv : valD ds s = some (.list (rs.map ruleD))) (hr : ∀ r ∈ rs, RlOk r) (hl : rs.length ≤ 1000)
    (hx : (x, Ent.inst 621 da) ∈ rest) (ha : (da, Ent.attrs as) ∈ rest) (hf : LexFree as) (he : s ∉ es.map (·.1)) (hez : es.length ≤ 1000)
    (hQ : Q (.list (rs.map tokD)) ((pr, .dict (es ++ [(s, .list (rs.map tokD))])) :: rest)) : OnL Γ (Is Γ.w.params) 2 (fun vs => call (.ref 485) vs) [.raw (.ref x), .dict ds, .raw (.ref pr), .str s] Q ((pr, .dict es) :: rest) := by
  refine def_ hK rfl (by kernel_rfl) rfl (bs := [(Str.ofString "cls", .raw (.ref x)), (Str.ofString "unprocessed", .dict ds), (Str.ofString "processed", .raw (.ref pr)), (sState, .str s)]) (rs := [Str.ofString "tokens", Str.ofString "rflags", Str.ofString "tdef", Str.ofString "new_state", Str.ofString "rex", Str.ofString "token"]) ?_ (by tb_rel) (by kernel_rfl) (by kernel_rfl) (by kernel_rfl) rfl rfl rfl (by kernel_rfl) rfl rfl ?_
  · exact bind4 (X := fun s => Γ.K.In s.heap) (Z := Keep Γ.H0) fun _ _ _ _ _ => BindsTo.of_eq rfl
  intro L env he'
  dsimp only at he'
  obtain ⟨c0, hc0, hc1⟩ := name_hash hs
  kd_all
  refine Assert_ ?_
  refine tValU_ ?_
  kd_all
  refine isi_yes .str F.isi_meta_str F.sub_str_str (truthyB ⟨rfl, ?_⟩)
  kd_all
  refine Assert_ ?_
  kd_all
  refine itemS (by decide) (by decide) hc0 ?_
  kd_all
  refine neS ⟨_, rfl, hc1, ?_⟩
  kd_all
  refine inDM_ (by mem_news) ⟨_, rfl, ifF (by rw [valD_new he]; rfl) ?_⟩
  kd_all
  refine Assign2_ ?_
  kd_all
  refine newListM_ (fun l => ?_) (by kt_len)
  kd_all
  refine asgSub_ ?_
  kd_all
  refine setD_ (ds := es) ?_ (by tb_start) ?_
  · have : sizeLine = 16777216 := rfl
    omega
  rw [storD_new he]
  kd_all
  refine Attr_ ?_
  kd_all
  refine getCls_ (C := 621) (ds := as) (av := .int 8 892) (dv := .int 8) hK (.led (by mem_news) (by mem_news)) (by kernel_rfl) hf.1 (.int _ _) ?_
  kd_all
  refine For2_ ?_
  kd_all
  refine dget_ hv ?_
  refine ⟨rs.map ruleD, fun i u' => ∃ (o1 o2 o3 o4 : Option D), i ≤ rs.length ∧ u' = (l, .list ((rs.take i).map tokD)) :: (L, .ns [(Str.ofString "cls", some (.raw (.ref x))), (Str.ofString "unprocessed", some (.dict ds)), (Str.ofString "processed", some (.raw (.ref pr))), (sState, some (.str s)), (Str.ofString "tokens", some (.raw (.ref l))), (Str.ofString "rflags", some (.int 8)), (Str.ofString "tdef", o1), (Str.ofString "new_state", o2), (Str.ofString "rex", o3), (Str.ofString "token", o4)]) :: (pr, .dict (es ++ [(s, .raw (.ref l))])) :: rest, iterList, ⟨_, _, _, _, Nat.zero_le _, rfl⟩, ?_, ?_⟩
  · rintro i di _ hdi ⟨o1, o2, o3, o4, hi, rfl⟩
    rw [List.getElem?_map, Option.map_eq_some_iff] at hdi
    obtain ⟨r, hri, rfl⟩ := hdi
    have hrk := hr r (List.mem_of_getElem? hri)
    obtain ⟨tl, e0, e1, e2, e3, e4⟩ := ruleD_tup r
    have hlt := (List.getElem?_eq_some_iff.mp hri).1
    have hlen1 : 1 < tl.length := (List.getElem?_eq_some_iff.mp e2).1
    have hlen : 0 < tl.length := by omega
    have hlen2 : tl.length < 2 ^ 62 := by
      by_cases h : r.ch = .no
      · rw [e3 h]; decide
      · rw [(e4 h).1]; decide
    have fin : ∀ o1 o2 o3 o4 d1 : Option D, (fun i u' => ∃ (o1 o2 o3 o4 : Option D), i ≤ rs.length ∧ u' = (l, Ent.list ((rs.take i).map tokD)) :: (L, .ns [(Str.ofString "cls", some (.raw (.ref x))), (Str.ofString "unprocessed", some (.dict ds)), (Str.ofString "processed", some (.raw (.ref pr))), (sState, some (.str s)), (Str.ofString "tokens", some (.raw (.ref l))), (Str.ofString "rflags", some (.int 8)), (Str.ofString "tdef", o1), (Str.ofString "new_state", o2), (Str.ofString "rex", o3), (Str.ofString "token", o4)]) :: (pr, .dict (es ++ [(s, .raw (.ref l))])) :: rest) (i + 1) ((l, .list ((rs.take i).map tokD ++ [.tup [.meth 597 (.inst 600 [(aRows, rowsD r.terms)]), kindI (kindN r.kind), chD r.ch]])) :: (L, .ns [(Str.ofString "cls", some (.raw (.ref x))), (Str.ofString "unprocessed", some (.dict ds)), (Str.ofString "processed", some (.raw (.ref pr))), (sState, some (.str s)), (Str.ofString "tokens", some (.raw (.ref l))), (Str.ofString "rflags", some (.int 8)), (Str.ofString "tdef", o1), (Str.ofString "new_state", o2), (Str.ofString "rex", o3), (Str.ofString "token", o4)]) :: (pr, .dict (es ++ [(s, .raw (.ref l))])) :: rest) := by
      intro o1 o2 o3 o4 _
      refine ⟨o1, o2, o3, o4, by omega, ?_⟩
      rw [take_one hri, List.map_append]; rfl
    rw [e0]
    kd_all
    refine tValU_ ?_
    kd_all
    refine isi_tupK hK (by kernel_rfl) (truthyB (ifF rfl ?_))
    kd_all
    refine tValU_ ?_
    kd_all
    refine isi_tupK hK (by kernel_rfl) (truthyB (ifF rfl ?_))
    kd_all
    refine tValU_ ?_
    kd_all
    refine isi_tupK hK (by kernel_rfl) (truthyB (ifF rfl ?_))
    kd_all
    refine Assert_ ?_
    kd_all
    refine typeOfD .tup (by decide +kernel) ?_
    kd_all
    refine isT_ ⟨_, rfl, rfl, ?_⟩
    kd_all
    refine CallI_ hK ?_
    kd_all
    refine ⟨621, as, 618, .led (by mem_news) (by mem_news), by kernel_rfl, hf.2.1, ?_⟩
    kd_all
    refine itemT (by decide) (by decide) (j := 0) ?_ e1 ?_
    · exact seqIndex_nat (i := 0) hlen
    kd_all
    refine (pregex_ok hK rfl ?_).up (by decide)
    kd_all
    refine CallI_ hK ?_
    kd_all
    refine ⟨621, as, 471, .led (by mem_news) (by mem_news), by kernel_rfl, hf.2.2.1, ?_⟩
    kd_all
    refine itemT (by decide) (by decide) (j := 1) ?_ e2 ?_
    · exact seqIndex_nat (i := 1) hlen1
    kd_all
    refine (ptoken_ok hK ?_).up (by decide)
    kd_all
    refine lenT hlen2 ?_
    kd_all
    refine ⟨_, rfl, ?_⟩
    by_cases hn : r.ch = .no
    · rw [e3 hn]
      refine ifT rfl ?_
      kd_all
      refine Append_ ?_
      kd_all
      refine ⟨l, rfl, ?_, _, by mem_news⟩
      kd_all
      refine newTuple_ ?_ (by kt_len)
      kd_all
      refine ⟨_, _, _, rfl, .here, (by have : sizeLine = 16777216 := rfl; simp only [List.length_map, List.length_take]; omega), ?_⟩
      kd_all
      have := fin (some (.tup tl)) (some .none) (some (.meth 597 (.inst 600 [(aRows, rowsD r.terms)]))) (some (kindI (kindN r.kind))) none
      rw [hn] at this
      exact this
    · rw [(e4 hn).1]
      refine ifF rfl ?_
      kd_all
      refine CallI_ hK ?_
      kd_all
      refine ⟨621, as, 478, .led (by mem_news) (by mem_news), by kernel_rfl, hf.2.2.2.1, ?_⟩
      kd_all
      refine itemT (by decide) (by decide) (j := 2) ?_ (e4 hn).2 ?_
      · exact seqIndex_nat (i := 2) (by rw [(e4 hn).1]; decide)
      kd_all
      refine (newstate_ok hK hds hrk.ch hn ?_).up (by decide)
      kd_all
      refine Append_ ?_
      kd_all
      refine ⟨l, rfl, ?_, _, by mem_news⟩
      kd_all
      refine newTuple_ ?_ (by kt_len)
      kd_all
      refine ⟨_, _, _, rfl, .here, (by have : sizeLine = 16777216 := rfl; simp only [List.length_map, List.length_take]; omega), ?_⟩
      kd_all
      exact fin _ _ _ _ none
  · rintro _ ⟨o1, o2, o3, o4, hi, rfl⟩
    rw [List.length_map, List.take_length]
    kqd_in
    kqd_in
    refine freeze_ (a := l) (by tb_start) .list (.cons (by kt_eqs) (.cons (.dict (.snoc .hit .same)) .same)) ?_
    kd_all
    exact ⟨_, _, .here, hQ⟩



def ruleRow (p : Str × List Rl) : Str × D := (p.1, .list (p.2.map ruleD))
def tokRow (p : Str × List Rl) : Str × D := (p.1, .list (p.2.map tokD))
theorem ruleRows_only {T : Tbl} (h : TblOk T) : NamesOnly (T.map ruleRow) := by
  have : (T.map ruleRow).map (·.1) = T.map (·.1) := by simp [List.map_map, Function.comp_def, ruleRow]
  exact this.trans h.keys
theorem rows_valD {f : List Rl → D} {T : Tbl} (h : TblOk T) {i : Nat} {p : Str × List Rl} (e : T[i]? = some p) : valD (T.map fun p => (p.1, f p.2)) p.1 = some (f p.2) := by
  have nd : (T.map (·.1)).Nodup := by rw [h.keys]; decide +kernel
  unfold valD
  rw [List.find?_map]
  have hm := List.mem_of_getElem? e
  cases q : T.find? ((fun kv : Str × D => decide (kv.1 = p.1)) ∘ fun p => (p.1, f p.2)) with
  | none => have := List.find?_eq_none.mp q p hm; simp at this
  | some p' =>
    have h1 := List.mem_of_find?_eq_some q
    have h2 := List.find?_some q
    simp at h2
    have : p' = p := by
      obtain ⟨i, hi⟩ := List.getElem?_of_mem h1
      obtain ⟨j, hj⟩ := List.getElem?_of_mem hm
      have e1 : (T.map (·.1))[i]? = some p'.1 := by rw [List.getElem?_map, hi]; rfl
      have e2 : (T.map (·.1))[j]? = some p.1 := by rw [List.getElem?_map, hj]; rfl
      rw [h2] at e1
      have hij : i = j := (List.getElem?_inj (List.getElem?_eq_some_iff.mp e1).1 nd).mp (e1.symm ▸ e2.symm ▸ rfl)
      subst hij; rw [hi] at hj; exact Option.some.inj hj
    rw [this]; rfl
theorem gettok_ok {Γ : Cx} (hK : Γ.K = hd.heap_39 Γ.w.params) {u : Led} {x da : Addr} {as ds : List (Str × D)} {Q : D → Led → Prop} (hx : (x, Ent.inst 621 da) ∈ u) (ha : (da, Ent.attrs as) ∈ u) (ht : valD as (Str.ofString "tables") = some (.tup [.dict ds])) (hr : RowsOk ds) (hz : ds.length ≤ 1000) (hQ : Q (.dict ds) u) :
    OnL Γ (Is Γ.w.params) 3 (fun vs => call (.ref 500) vs) [.raw (.ref x)] Q u := by
  refine def_ hK rfl (by kernel_rfl) rfl (bs := [(Str.ofString "cls", .raw (.ref x))]) (rs := []) ?_ (by tb_rel) (by kernel_rfl) (by kernel_rfl) (by kernel_rfl) rfl rfl rfl (by kernel_rfl) rfl rfl ?_
  · exact bind1 (X := fun s => Γ.K.In s.heap) (Z := Keep Γ.H0) fun _ _ => BindsTo.of_eq rfl
  intro L env he
  dsimp only at he
  kd_all
  refine Attr_ ?_
  kd_all
  refine getOwn_ (C := 621) (ds := as) hK (.led (by mem_news) (by mem_news)) (by kernel_rfl) ht rfl ?_
  kd_all
  refine (merged_ok hK hr hz ?_).up (by decide)
  kd_all
  exact ⟨_, _, .here, hQ⟩
theorem ptokdef_ok {Γ : Cx} (hK : Γ.K = hd.heap_39 Γ.w.params) {rest : Led} {x da al : Addr} {as : List (Str × D)} {T : Tbl} {Q : D → Led → Prop} (hT : TblOk T)
    (hx : (x, Ent.inst 621 da) ∈ rest) (ha : (da, Ent.attrs as) ∈ rest) (hf : LexFree as) (hal : valD as (Str.ofString "_all_tokens") = some (.raw (.ref al))) (hh : handedIn (.ref al) = true)
    (hQ : Q (.dict (T.map tokRow)) ((al, .dict [(Str.ofString "", .dict (T.map tokRow))]) :: rest)) : OnL Γ (Is Γ.w.params) 3 (fun vs => call (.ref 493) vs) [.raw (.ref x), .str (Str.ofString ""), .dict (T.map ruleRow)] Q ((al, .dict []) :: rest) := by
  refine def_ hK rfl (by kernel_rfl) rfl (bs := [(Str.ofString "cls", .raw (.ref x)), (Str.ofString "name", .str (Str.ofString "")), (Str.ofString "tokendefs", .dict (T.map ruleRow))]) (rs := [Str.ofString "processed", Str.ofString "state"]) ?_ (by tb_rel) (by kernel_rfl) (by kernel_rfl) (by kernel_rfl) rfl rfl rfl (by kernel_rfl) rfl rfl ?_
  · intro s g vs X _ hv
    cases hv with | cons h1 hv => ?_
    cases hv with | cons h2 hv => ?_
    cases hv with | cons h3 hv => ?_
    cases hv
    rw [hK] at X
    exact ⟨_, binds_K X rfl rfl rfl rfl rfl, .cons h1 (.cons h2 (.cons h3 .nil))⟩
  intro L env he
  dsimp only at he
  have hlen : T.length = 4 := by have := congrArg List.length hT.keys; simpa using this
  kd_all
  refine Assign2_ ?_
  kd_all
  refine Dict0_ (fun pr => ?_)
  kd_all
  refine asgSub_ ?_
  kd_all
  refine Attr_ ?_
  kd_all
  refine getOwn_ (C := 621) (ds := as) hK (.led (by mem_news) (by mem_news)) (by kernel_rfl) hal hh ?_
  kd_all
  refine setD_ (ds := []) (by decide) (by tb_start) ?_
  kd_all
  refine Or_ ?_
  kd_all
  refine truthyD (by simp [hlen]) ?_
  refine ifT (by cases T <;> simp_all) ?_
  kd_all
  refine For2_ ?_
  kd_all
  refine listOfDictF (by simp [hlen]; decide) ?_
  have hkey : ((T.map ruleRow).map fun p => D.str p.1) = stl names4 := by
    rw [← hT.keys]; simp [stl, List.map_map, Function.comp_def, ruleRow]
  rw [hkey]
  refine ⟨stl names4, fun i u' => ∃ o : Option D, i ≤ 4 ∧ u' = (pr, .dict ((T.take i).map tokRow)) :: (L, .ns [(Str.ofString "cls", some (.raw (.ref x))), (Str.ofString "name", some (.str (Str.ofString ""))), (Str.ofString "tokendefs", some (.dict (T.map ruleRow))), (Str.ofString "processed", some (.raw (.ref pr))), (Str.ofString "state", o)]) :: (al, .dict [(Str.ofString "", .raw (.ref pr))]) :: rest, iterList, ⟨_, Nat.zero_le _, rfl⟩, ?_, ?_⟩
  · rintro i di _ hdi ⟨o, hi, rfl⟩
    have hi4 : i < T.length := by rw [hlen]; exact (List.getElem?_eq_some_iff.mp hdi).1
    obtain ⟨p, hp⟩ : ∃ p, T[i]? = some p := ⟨_, List.getElem?_eq_getElem hi4⟩
    have hk : (T.map (·.1))[i]? = some p.1 := by rw [List.getElem?_map, hp]; rfl
    have hdi' : di = .str p.1 := by
      rw [hT.keys] at hk
      rw [stl, List.getElem?_map, hk] at hdi
      exact (Option.some.inj hdi).symm
    subst hdi'
    have hin : p.1 ∈ names4 := by rw [hT.keys] at hk; exact List.mem_of_getElem? hk
    have htk : T.take (i + 1) = T.take i ++ [p] := take_one hp
    have hnew : p.1 ∉ ((T.take i).map tokRow).map (·.1) := by
      have nd : ((T.take (i + 1)).map (·.1)).Nodup := by
        have : (T.map (·.1)).Nodup := by rw [hT.keys]; decide +kernel
        exact ((List.take_sublist _ _).map _).nodup this
      rw [htk, List.map_append, List.nodup_append] at nd
      intro hm
      have : ((T.take i).map tokRow).map (·.1) = (T.take i).map (·.1) := by simp [List.map_map, Function.comp_def, tokRow]
      rw [this] at hm
      exact nd.2.2 _ hm p.1 (by simp) rfl
    have hok := hT.ok p (List.mem_of_getElem? hp)
    kd_all
    refine CallI_ hK ?_
    kd_all
    refine ⟨621, as, 485, .led (by mem_news) (by mem_news), by kernel_rfl, hf.2.2.2.2, ?_⟩
    kd_all
    refine pstate_ok hK (ruleRows_only hT) hin (rows_valD (f := fun r => .list (r.map ruleD)) hT hp) hok.2 (by omega) (by mem_news) (by mem_news) hf hnew (by simp; omega) ?_
    kd_all
    refine ⟨some (.str p.1), by omega, ?_⟩
    rw [htk, List.map_append]; rfl
  · rintro _ ⟨o, hi, rfl⟩
    rw [show (stl names4).length = T.length by rw [hlen]; rfl, List.take_length]
    kqd_in
    kqd_in
    refine freeze_ (a := pr) (by tb_start) .dict (by kt_eqs) ?_
    kd_all
    exact ⟨_, _, .here, hQ⟩



abbrev aTokens : Str := Str.ofString "_tokens"
/-- the lexer, when it is made -/
def lexF (T : Tbl) : List (Str × D) := lex5 ++ [(Str.ofString "tables", .tup [.dict (T.map ruleRow)]), (Str.ofString "_all_tokens", .dict [(Str.ofString "", .dict (T.map tokRow))]), (Str.ofString "_tmpname", .int 0), (aTokens, .dict (T.map tokRow))]
theorem rules_rows {T : Tbl} (h : TblOk T) : RowsOk (T.map ruleRow) := by
  refine ⟨by rw [show (T.map ruleRow).map (·.1) = names4 from ruleRows_only h]; decide +kernel, fun p hp => ?_⟩
  obtain ⟨q, hq, rfl⟩ := List.mem_map.mp hp
  refine ⟨_, rfl, ?_, ?_⟩
  · intro d hd
    obtain ⟨r, hr, rfl⟩ := List.mem_map.mp hd
    obtain ⟨l, e, _⟩ := ruleD_tup r
    exact ⟨l, e⟩
  · have := (h.ok q hq).1
    have : sizeLine = 16777216 := rfl
    simp only [List.length_map]; omega
theorem plexer_ok {Γ : Cx} (hK : Γ.K = hd.heap_39 Γ.w.params) {u : Led} {T : Tbl} {Q : D → Led → Prop} (hT : TblOk T) (hQ : Q (.inst 621 (lexF T)) u) : OnL Γ (Is Γ.w.params) 5 (fun vs => call (.ref 621) vs) [.dict (T.map ruleRow)] Q u := by
  refine OnL.frz (make_ (fI := 520) hK (by kernel_rfl) fun x da => ?_)
  refine defV_ (bs := [(Str.ofString "self", .raw (.ref x)), (Str.ofString "tables", .tup [.dict (T.map ruleRow)]), (Str.ofString "options", .dict [])]) (rs := []) hK rfl (by kernel_rfl) rfl (bindVK1 fun a b => by with_unfolding_all rfl) (by tb_rel) (by kernel_rfl) (by kernel_rfl) (by kernel_rfl) rfl rfl rfl (by kernel_rfl) rfl rfl ?_
  intro L env he
  dsimp only at he
  have hlen : T.length = 4 := by have := congrArg List.length hT.keys; simpa using this
  kd_all
  refine CallStar_ (C := 259) (f := 227) (mc := .type "type") hK (by kernel_rfl) (by kernel_rfl) (by kernel_rfl) (by kernel_rfl) ?_
  kd_all
  refine ⟨rfl, ?_⟩
  kd_all
  refine ⟨rfl, ?_⟩
  refine (lexinit_ok hK ?_).call.up (by decide)
  kd_all
  refine AssignAttr_ ?_
  kd_all
  refine setA_ (da := da) hK (by mem_news) (by tb_start) (by kernel_rfl) (by kernel_rfl) (by kt_len) ?_
  kd_all
  refine AssignAttr_ ?_
  refine Dict0_ (fun al => ?_)
  kd_all
  refine setA_ (da := da) hK (by mem_news) (by tb_start) (by kernel_rfl) (by kernel_rfl) (by kt_len) ?_
  kd_all
  refine AssignAttr_ ?_
  kd_all
  refine setA_ (da := da) hK (by mem_news) (by tb_start) (by kernel_rfl) (by kernel_rfl) (by kt_len) ?_
  kd_all
  refine AssignAttr_ ?_
  refine CallI_ hK ?_
  kd_all
  refine ⟨621, _, 493, .led (by mem_news) (by mem_news), by kernel_rfl, rfl, ?_⟩
  kd_all
  refine CallI_ hK ?_
  kd_all
  refine ⟨621, _, 500, .led (by mem_news) (by mem_news), by kernel_rfl, rfl, ?_⟩
  kd_all
  refine (gettok_ok hK (da := da) (by mem_news) (by mem_news) rfl (rules_rows hT) (by simp [hlen]) ?_).up (by decide)
  kd_all
  refine (ptokdef_ok hK hT (da := da) (by mem_news) (by mem_news) ⟨rfl, rfl, rfl, rfl, rfl⟩ rfl rfl ?_).up (by decide)
  kd_all
  refine setA_ (da := da) hK (by mem_news) (by tb_start) (by kernel_rfl) (by kernel_rfl) (by kt_len) ?_
  show Ex _ _ (execs [] _) _ _
  have hst : storD (storD (storD (storD lex5 (Str.ofString "tables") (.tup [.dict (T.map ruleRow)])) (Str.ofString "_all_tokens") (.raw (.ref al))) (Str.ofString "_tmpname") (.int 0)) (Str.ofString "_tokens") (.dict (T.map tokRow)) = [(aOptions, .dict []), (aStripnl, .bool true), (aStripall, .bool false), (aEnsurenl, .bool true), (aFilters, .list []), (Str.ofString "tables", .tup [.dict (T.map ruleRow)]), (Str.ofString "_all_tokens", .raw (.ref al)), (Str.ofString "_tmpname", .int 0), (aTokens, .dict (T.map tokRow))] := by kernel_rfl
  rw [hst]
  refine freeze_ (a := al) (u1 := (L, .ns [(Str.ofString "self", some (.raw (.ref x))), (Str.ofString "tables", some (.tup [.dict (T.map ruleRow)])), (Str.ofString "options", some (.dict []))]) :: (x, .inst 621 da) :: (da, _) :: u) .here .dict (.cons .same (.cons .same (.cons (.attrs (.cons .same (.cons .same (.cons .same (.cons .same (.cons .same (.cons .same (.cons .hit .same)))))))) .same))) ?_
  kd_all
  refine ⟨_, _, .here, rfl, x, da, 621, _, _, _, rfl, .here, .here, ?_⟩
  exact hQ




theorem valD_tok {T : Tbl} (h : TblOk T) {s : Str} (hs : s ∈ names4) : valD (T.map tokRow) s = some (.list ((rulesOf T s).map tokD)) := by
  have hm : ∃ p ∈ T, p.1 = s := by
    have : s ∈ T.map (·.1) := by rw [h.keys]; exact hs
    obtain ⟨p, hp, e⟩ := List.mem_map.mp this
    exact ⟨p, hp, e⟩
  unfold valD rulesOf
  rw [List.find?_map]
  cases e : T.find? fun p => p.1 = s with
  | none =>
    obtain ⟨p, hp, e2⟩ := hm
    have := List.find?_eq_none.mp e p hp
    simp [e2] at this
  | some p =>
    have : (List.find? ((fun kv : Str × D => decide (kv.1 = s)) ∘ tokRow) T) = some p := e
    rw [this]; rfl
theorem pick_none {text : Str} {place : Nat} : ∀ {rs : List Rl}, (∀ r ∈ rs, hits text place r.terms = []) → pick text place rs = none
  | [], _ => rfl
  | r :: rs, h => by
    unfold pick
    rw [h r (.head _)]
    exact pick_none fun r' hr => h r' (.tail _ hr)
theorem pick_at {text : Str} {place : Nat} {r : Rl} {w : Str} {ws : List Str} (hw : hits text place r.terms = w :: ws) : ∀ {rs : List Rl} {i : Nat}, (∀ r ∈ rs.take i, hits text place r.terms = []) → rs[i]? = some r → pick text place rs = some (w, r.kind, r.ch)
  | [], i, _, e => by simp at e
  | a :: rs, 0, _, e => by
    simp at e; subst e
    unfold pick
    rw [hw]
  | a :: rs, i + 1, h, e => by
    unfold pick
    rw [h a (by simp)]
    exact pick_at hw (fun r' hr => h r' (by rw [List.take_succ_cons]; exact .tail _ hr)) (by simpa using e)
def rowG (r : Row) : D := .tup [.int r.place, .inst 66 [(aNames, .tup (stl r.names))], .str r.word]
theorem g_ws {P : Params} : nsIn (hd.heap_39 P) mainGlobals (Str.ofString "Whitespace") = some (some (.ref 72)) := by kernel_rfl
theorem g_err {P : Params} : nsIn (hd.heap_39 P) mainGlobals (Str.ofString "Error") = some (some (.ref 76)) := by kernel_rfl
theorem is_ws {Γ : Cx} (hK : Γ.K = hd.heap_39 Γ.w.params) : Is Γ.w.params Γ.H0 (.ref 72) (.inst 66 [(aNames, .tup (stl [Str.ofString "Text", Str.ofString "Whitespace"]))]) := by
  refine .inst (da := 71) (es := [⟨PyData.keyHash Γ.w.params (Str.ofString "names"), .str (Str.ofString "names") 260, .ref 73⟩]) (n := 1) (Γ.X _ _ (by rw [hK]; rfl)) (Γ.X _ _ (by rw [hK]; rfl)) (.cons ?_ .nil)
  exact .tup (dd := none) (sl := #[]) (vs := [.str (Str.ofString "Text") 255, .str (Str.ofString "Whitespace") 256]) (n := 0) (Γ.X _ _ (by rw [hK]; rfl)) (.cons (.str _ _) (.cons (.str _ _) .nil))
theorem is_err {Γ : Cx} (hK : Γ.K = hd.heap_39 Γ.w.params) : Is Γ.w.params Γ.H0 (.ref 76) (.inst 66 [(aNames, .tup (stl [Str.ofString "Error"]))]) := by
  refine .inst (da := 75) (es := [⟨PyData.keyHash Γ.w.params (Str.ofString "names"), .str (Str.ofString "names") 266, .ref 77⟩]) (n := 1) (Γ.X _ _ (by rw [hK]; rfl)) (Γ.X _ _ (by rw [hK]; rfl)) (.cons ?_ .nil)
  exact .tup (dd := none) (sl := #[]) (vs := [.str (Str.ofString "Error") 262]) (n := 0) (Γ.X _ _ (by rw [hK]; rfl)) (.cons (.str _ _) .nil)
theorem SOk.le' {st : List Str} {b b' : Nat} (h : SOk st b) (e : b ≤ b') : SOk st b' := ⟨h.pos, Nat.le_trans h.le e, h.each⟩
/-- what a change is, when it is kept -/
inductive CK (ch : Ch) : D → Prop
  | none (h : ch = .no) : CK ch .none
  | tup {l : List Str} (hl : l.length ≤ 3) (hp : ∀ p ∈ l, PartOk p) (hm : ∀ st, moved st ch = l.foldl act st) : CK ch (.tup (stl l))
  | int {k : Nat} (h1 : 1 ≤ k) (h3 : k ≤ 3) (hm : ∀ st, moved st ch = st.take (max 1 (st.length - k))) : CK ch (.int (-(k : Int)))
  | push (hm : ∀ st, moved st ch = act st sPush) : CK ch (.str sPush)
theorem act_pop {p : Str} {k : Nat} (ne : (p == sPush) = false) (n : popN p = some k) (st : List Str) : act st p = st.take (max 1 (st.length - k)) := by
  unfold act
  rw [if_neg (by simpa using ne), n]
theorem ck_of {ch : Ch} (h : ChOk ch) : CK ch (chD ch) := by
  cases ch with
  | no => exact .none rfl
  | many l => exact .tup h.2.1 h.2.2 fun _ => rfl
  | one s =>
    rcases (h : PartOk s ∨ ∃ k : Int, 1 ≤ k ∧ k ≤ 3 ∧ s = popS k) with (h | rfl | rfl) | ⟨k, h0, h1, rfl⟩
    · have e : chD (.one s) = .tup (stl [s]) := by
        simp only [List.mem_cons, List.not_mem_nil, or_false] at h
        unfold chD
        dsimp only
        rcases h with rfl | rfl | rfl | rfl <;> (rw [show popN _ = none from by decide +kernel]; exact if_neg (by decide +kernel))
      rw [e]
      exact .tup (by simp) (fun p hp => by rw [List.mem_singleton.mp hp]; exact .inl h) fun _ => rfl
    · have e : chD (.one sPop) = .int (-((1 : Nat) : Int)) := by
        unfold chD
        dsimp only
        rw [show popN sPop = some 1 from by decide +kernel]
      rw [e]; exact .int (by decide) (by decide) fun st => act_pop (by decide +kernel) (by decide +kernel) st
    · have e : chD (.one sPush) = .str sPush := by
        unfold chD
        dsimp only
        rw [show popN sPush = none from by decide +kernel]; exact if_pos rfl
      rw [e]; exact .push fun _ => rfl
    · have : k = 1 ∨ k = 2 ∨ k = 3 := by omega
      have e : ∀ j : Nat, popN (popS k) = some j → chD (.one (popS k)) = .int (-(j : Int)) := fun j h => by unfold chD; dsimp only; rw [h]
      rcases this with rfl | rfl | rfl
      · rw [e 1 (by decide +kernel)]; exact .int (by decide) (by decide) fun st => act_pop (by decide +kernel) (by decide +kernel) st
      · rw [e 2 (by decide +kernel)]; exact .int (by decide) (by decide) fun st => act_pop (by decide +kernel) (by decide +kernel) st
      · rw [e 3 (by decide +kernel)]; exact .int (by decide) (by decide) fun st => act_pop (by decide +kernel) (by decide +kernel) st
theorem act_ok {st : List Str} {b : Nat} {p : Str} (h : SOk st b) (hp : PartOk p) : SOk (act st p) (b + 1) :=
  ⟨(act_pos h.pos p).1, by have := (act_pos h.pos p).2; have := h.le; omega, act_names h.each h.pos (pk_part (.inl hp))⟩
theorem fold_ok : ∀ (l : List Str) {st : List Str} {b : Nat}, SOk st b → (∀ p ∈ l, PartOk p) → SOk (l.foldl act st) (b + l.length)
  | [], _, _, h, _ => h
  | p :: l, st, b, h, hp => by
    have := fold_ok l (act_ok h (hp p (.head _))) (fun q hq => hp q (.tail _ hq))
    rw [List.length_cons]
    exact this.le' (by omega)
theorem name_ne {p : Str} (h : p ∈ names4) : (p == sPop) = false ∧ (p == sPush) = false ∧ ∀ st, act st p = st ++ [p] := by
  simp only [List.mem_cons, List.not_mem_nil, or_false] at h
  rcases h with rfl | rfl | rfl | rfl <;> exact ⟨by decide +kernel, by decide +kernel, fun st => by unfold act; rw [if_neg (by decide +kernel), show popN _ = none from by decide +kernel]⟩
/-- where the generator stands -/
structure GSt (text : Str) where
  f : Nat
  place : Nat
  st : List Str
  sl : Addr
  o1 : Option D
  o2 : Option D
  o3 : Option D
  o4 : Option D
  o5 : Option D
  hf : text.length ≤ place + f
  hp : place ≤ text.length
  hs : SOk st (3 + 3 * place)
theorem gtu_ok {Γ : Cx} (hK : Γ.K = hd.heap_39 Γ.w.params) {u : Led} {T : Tbl} {text : Str} {st0 : List Str} (hT : TblOk T) (hz : text.length ≤ 1000) (hs0 : SOk st0 3) {a : Sg} (ho : Own Γ a.g a.u a.h) (hu : a.u = u) {vs : List Value} (hv : IsAll Γ.w.params a.g vs [.inst 621 (lexF T), .str text, .tup (stl st0)]) :
    WS Γ 8 (call (.ref 529) vs) (fun v b => GenMade Γ 7 a v b ((run T text text.length 0 st0).map rowG) (fun _ => True) u) a := by
  have hsl : sizeLine = 16777216 := rfl
  refine genMade_ (k := 7) (Gx := []) (w := u) hK rfl (by kernel_rfl) rfl (bs := [(Str.ofString "self", .inst 621 (lexF T)), (Str.ofString "text", .str text), (Str.ofString "stack", .tup (stl st0))]) (rs := [Str.ofString "pos", Str.ofString "tokendefs", Str.ofString "statestack", Str.ofString "statetokens", Str.ofString "rexmatch", Str.ofString "action", Str.ofString "new_state", Str.ofString "m", Str.ofString "state"]) (bindL_of ?_) (by tb_rel) (by kernel_rfl) (by kernel_rfl) (by kernel_rfl) rfl rfl rfl (by kernel_rfl) rfl rfl (.refl _) ?_ ho hu hv
  · intro s g vs X _ hv
    cases hv with | cons h1 hv => ?_
    cases hv with | cons h2 hv => ?_
    cases hv with | cons h3 hv => ?_
    cases hv
    rw [hK] at X
    exact ⟨_, binds_K X rfl rfl rfl rfl rfl, .cons h1 (.cons h2 (.cons h3 .nil))⟩
  intro A L hA env he HT
  dsimp only at he
  have hroot : st0.getLastD sRoot ∈ names4 := hs0.each _ (getLastD_mem hs0.pos)
  have hlen0 := hs0.le
  refine sl_cons (sl_ex (okFunc hA (Nat.le_of_ble_eq_true rfl) (Nat.le_of_ble_eq_true rfl)) JT.stable ?_)
  kd_all
  refine sl_cons (sl_ex (okFunc hA (Nat.le_of_ble_eq_true rfl) (Nat.le_of_ble_eq_true rfl)) JT.stable ?_)
  kd_all
  refine Attr_ ?_
  kd_all
  refine getOwn_ (C := 621) (dv := .dict (T.map tokRow)) hK .fix (by kernel_rfl) rfl rfl ?_
  kd_all
  refine sl_cons (sl_ex (okFunc hA (Nat.le_of_ble_eq_true rfl) (Nat.le_of_ble_eq_true rfl)) JT.stable ?_)
  kd_all
  refine listOfTup (by simp only [stl, List.length_map]; omega) (fun sl0 => ?_)
  kd_all
  refine sl_cons (sl_ex (okFunc hA (Nat.le_of_ble_eq_true rfl) (Nat.le_of_ble_eq_true rfl)) JT.stable ?_)
  kd_all
  refine itemMn (by mem_news) (by decide) (by simp only [stl, List.length_map]; have := hs0.pos; omega) (by simp only [stl, List.length_map]; omega) (last_is hs0.pos) ?_
  kd_all
  refine dget_ (valD_tok hT hroot) ?_
  kd_all
  refine sl_cons (sl_while fun k p hk => ?_)
  refine sl_ind (ι := GSt text) (fun i => (run T text i.f i.place i.st).map rowG) (fun i => [(i.sl, .list (stl i.st)), (L, .ns [(Str.ofString "self", some (.inst 621 (lexF T))), (Str.ofString "text", some (.str text)), (Str.ofString "stack", some (.tup (stl st0))), (Str.ofString "pos", some (.int ((i.place : Nat) : Int))), (Str.ofString "tokendefs", some (.dict (T.map tokRow))), (Str.ofString "statestack", some (.raw (.ref i.sl))), (Str.ofString "statetokens", some (.list ((rulesOf T ((i.st).getLastD sRoot)).map tokD))), (Str.ofString "rexmatch", i.o1), (Str.ofString "action", i.o2), (Str.ofString "new_state", i.o3), (Str.ofString "m", i.o4), (Str.ofString "state", i.o5)])]) (fun i => i.f) ?_ ⟨text.length, 0, st0, sl0, none, none, none, none, none, by omega, by omega, hs0⟩
  rintro ⟨f, place, st, sl, o1, o2, o3, o4, o5, hf, hp, hs⟩ ih
  dsimp only at ih ⊢
  have hst : st.getLastD sRoot ∈ names4 := hs.each _ (getLastD_mem hs.pos)
  have hle := hs.le
  refine sl_turn (okFrames (okFunc hA (Nat.le_of_ble_eq_true rfl) (Nat.le_of_ble_eq_true rfl)) rfl rfl) JT.stable ?_
  refine tValU_ ?_
  kd_all
  refine truthyInt ⟨rfl, fun HT' => ?_⟩
  refine sl_cons (sl_for (okFrames (okFunc hA (Nat.le_of_ble_eq_true rfl) (Nat.le_of_ble_eq_true rfl)) rfl rfl) JT.stable rfl rfl rfl ?_)
  kd_all
  refine ⟨(rulesOf T (st.getLastD sRoot)).map tokD, fun i u' => ∃ o1 o2 o3 o4 o5 : Option D, u' = [(sl, .list (stl st)), (L, .ns [(Str.ofString "self", some (.inst 621 (lexF T))), (Str.ofString "text", some (.str text)), (Str.ofString "stack", some (.tup (stl st0))), (Str.ofString "pos", some (.int ((place : Nat) : Int))), (Str.ofString "tokendefs", some (.dict (T.map tokRow))), (Str.ofString "statestack", some (.raw (.ref sl))), (Str.ofString "statetokens", some (.list ((rulesOf T ((st).getLastD sRoot)).map tokD))), (Str.ofString "rexmatch", o1), (Str.ofString "action", o2), (Str.ofString "new_state", o3), (Str.ofString "m", o4), (Str.ofString "state", o5)])] ∧ ∀ r ∈ (rulesOf T (st.getLastD sRoot)).take i, hits text place r.terms = [], iterListA, ⟨_, _, _, _, _, rfl, by simp⟩, ?_, ?_⟩
  · rintro i di _ hdi ⟨o1, o2, o3, o4, o5, rfl, hno⟩ J' Fc fr KT HT2 hJ' okF spF guF nx ct bk
    rw [List.getElem?_map, Option.map_eq_some_iff] at hdi
    obtain ⟨r, hri, rfl⟩ := hdi
    have hrk := rulesOf_ok hT r (List.mem_of_getElem? hri)
    rw [show tokD r = .tup [.meth 597 (.inst 600 [(aRows, rowsD r.terms)]), kindI (kindN r.kind), chD r.ch] from rfl]
    kd_all
    refine sl_cons (sl_ex okF hJ' ?_)
    kd_all
    refine CallU_ (Name_ (by assumption) (by mem_news) (by mem_news) (by mem_news) ⟨Callee.meth hK (by kernel_rfl), ?_⟩)
    kd_all
    refine onC_meth ((match_ok hK (fun w hw => ?_) ?_ hz (by omega) ?_).up (by decide))
    · exact (hrk.terms.each w hw).2.1
    · have := hrk.terms.le; omega
    kd_all
    cases hh : hits text place r.terms with
    | nil =>
      rw [show matchD (place : Int) [] = .none from rfl]
      refine sl_cons (sl_if okF hJ' ?_)
      refine tValU_ ?_
      kd_all
      refine truthyN (ifF rfl ?_)
      refine sl_nil (sl_nil (nx _ ⟨_, _, _, _, _, rfl, ?_⟩))
      intro r' hr'
      rw [take_one hri] at hr'
      rcases List.mem_append.mp hr' with h | h
      · exact hno r' h
      · rw [List.mem_singleton.mp h]; exact hh
    | cons w ws =>
      rw [show matchD (place : Int) (w :: ws) = .inst 573 [(aPlace, .int place), (aPieces, .list [.str w])] from rfl]
      have hpk := pick_at hh hno hri
      obtain ⟨w1, w2, w3, w4, k0, k3, hch⟩ := pick_ok (rulesOf_ok hT) hpk
      obtain ⟨g, rfl, hrun⟩ := run_step (T := T) (st := st) (by omega) hf
      rw [hrun, List.map_cons]
      refine sl_cons (sl_if okF hJ' ?_)
      refine tValU_ ?_
      kd_all
      refine truthyI_ hK .fix (by kernel_rfl) (ifT rfl ?_)
      refine sl_cons (sl_if okF hJ' ?_)
      kd_all
      refine ⟨_, rfl, ifT rfl ?_⟩
      refine sl_cons (sl_if okF hJ' ?_)
      kd_all
      refine typeOfI .fix ?_
      kd_all
      refine isR_ ⟨_, rfl, ifT rfl ?_⟩
      refine sl_cons (sl_yield okF spF rfl guF ?_ rfl rfl)
      kd_all
      refine CallI_ hK ?_
      kd_all
      refine ⟨573, _, 570, .fix, by kernel_rfl, rfl, ?_⟩
      kd_all
      refine (group_ok hK (by omega) ?_).call.up (by decide)
      kd_all
      refine newTuple_ ⟨?_, ?_⟩ (by kt_len)
      · unfold stp; rw [hpk]; rfl
      refine sl_nil (sl_nil (sl_cons (sl_ex okF JT.stable ?_)))
      kd_all
      refine CallI_ hK ?_
      kd_all
      refine ⟨573, _, 564, .fix, by kernel_rfl, rfl, ?_⟩
      kd_all
      refine (end_ok hK (by omega) ?_).call.up (by decide)
      rw [← Int.natCast_add]
      kd_all
      have hsp : (stp T text place st).place = place + w.length ∧ (stp T text place st).stack = moved st r.ch := by unfold stp; rw [hpk]; exact ⟨rfl, rfl⟩
      have hmv := hs.moved hch
      generalize r.ch = ch at hch hsp hmv ⊢
      have hck := ck_of hch
      refine sl_cons (sl_ex okF JT.stable ?_)
      refine WL.mono (Q := fun f u' => f = .next ∧ ∃ o5, u' = [(sl, .list (stl (moved st ch))), (L, .ns [(Str.ofString "self", some (.inst 621 (lexF T))), (Str.ofString "text", some (.str text)), (Str.ofString "stack", some (.tup (stl st0))), (Str.ofString "pos", some (.int ((place + w.length : Nat) : Int))), (Str.ofString "tokendefs", some (.dict (T.map tokRow))), (Str.ofString "statestack", some (.raw (.ref sl))), (Str.ofString "statetokens", some (.list ((rulesOf T ((moved st ch).getLastD sRoot)).map tokD))), (Str.ofString "rexmatch", some (.meth 597 (.inst 600 [(aRows, rowsD r.terms)]))), (Str.ofString "action", some (kindI (kindN r.kind))), (Str.ofString "new_state", some (chD ch)), (Str.ofString "m", some (.inst 573 [(aPlace, .int place), (aPieces, .list [.str w])])), (Str.ofString "state", o5)])]) ?_ ?_
      · clear ih nx ct bk
        generalize hcd : chD ch = dc at hck ⊢
        have tl1 : ∀ st' : List Str, 0 < st'.length → -((stl st').length : Int) ≤ -1 := fun st' h => by simp only [stl, List.length_map]; omega
        kd_all
        cases hck with
        | none h0 =>
          subst h0
          refine ⟨_, rfl, ifF rfl ?_⟩
          kd_all
          exact ⟨rfl, _, rfl⟩
        | @tup l hl hp hm =>
          refine ⟨_, rfl, ifT rfl ?_⟩
          kd_all
          refine tValU_ ?_
          kd_all
          refine isi_yes .tup F.isi_meta_tuple F.sub_tuple_tuple (truthyB (ifT rfl ?_))
          kd_all
          refine For2_ ?_
          kd_all
          refine ⟨stl l, fun i u' => ∃ o5 : Option D, u' = [(sl, .list (stl ((l.take i).foldl act st))), (L, .ns [(Str.ofString "self", some (.inst 621 (lexF T))), (Str.ofString "text", some (.str text)), (Str.ofString "stack", some (.tup (stl st0))), (Str.ofString "pos", some (.int ((place + w.length : Nat) : Int))), (Str.ofString "tokendefs", some (.dict (T.map tokRow))), (Str.ofString "statestack", some (.raw (.ref sl))), (Str.ofString "statetokens", some (.list ((rulesOf T ((st).getLastD sRoot)).map tokD))), (Str.ofString "rexmatch", some (.meth 597 (.inst 600 [(aRows, rowsD r.terms)]))), (Str.ofString "action", some (kindI (kindN r.kind))), (Str.ofString "new_state", some (.tup (stl l))), (Str.ofString "m", some (.inst 573 [(aPlace, .int place), (aPieces, .list [.str w])])), (Str.ofString "state", o5)])], iterTup, ⟨_, rfl⟩, ?_, ?_⟩
          · rintro i di _ hdi ⟨o5, rfl⟩
            rw [stl, List.getElem?_map, Option.map_eq_some_iff] at hdi
            obtain ⟨p, hpi, rfl⟩ := hdi
            have hpm := hp p (List.mem_of_getElem? hpi)
            have hil := (List.getElem?_eq_some_iff.mp hpi).1
            have hsi : SOk ((l.take i).foldl act st) (3 + 3 * place + i) := by
              have := fold_ok (l.take i) hs (fun p hp' => hp p (List.mem_of_mem_take hp'))
              rw [List.length_take] at this
              exact this.le' (by omega)
            have hfs : (l.take (i + 1)).foldl act st = act ((l.take i).foldl act st) p := by rw [take_one hpi, List.foldl_append]; rfl
            have hsile := hsi.le
            have hsip := hsi.pos
            generalize (l.take i).foldl act st = sti at hsi hsile hsip hfs ⊢
            kd_all
            refine ⟨_, rfl, ?_⟩
            rcases hpm with hpm | rfl | rfl
            · obtain ⟨n1, n2, n3⟩ := name_ne hpm
              refine ifF n1 ?_
              kd_all
              refine ⟨_, rfl, ifF n2 ?_⟩
              kd_all
              refine Append_ ?_
              kd_all
              refine ⟨sl, rfl, ?_, _, by mem_news⟩
              kd_all
              refine ⟨_, _, _, rfl, .here, by simp only [stl, List.length_map]; omega, ?_⟩
              rw [show stl sti ++ [D.str p] = stl (act sti p) from by rw [n3]; simp [stl]]
              kd_all
              exact ⟨_, by rw [hfs]⟩
            · refine ifT (by decide +kernel) ?_
              kd_all
              refine lenM (by mem_news) (by simp only [stl, List.length_map]; omega) ?_
              kd_all
              refine ⟨_, rfl, ?_⟩
              by_cases h1 : 1 < sti.length
              · refine ifT (by simp only [stl, List.length_map, decide_eq_true_eq]; omega) ?_
                kd_all
                refine CallM_ (T := "list") (id := "list.pop") F.plainAttrs_list F.slot_list_pop F.type_list_pop ?_ (by with_unfolding_all rfl) (by with_unfolding_all exact .inl rfl) (by with_unfolding_all rfl)
                kd_all
                refine ⟨methM (by mem_news), ?_⟩
                kd_all
                refine pop_ .here (List.getElem?_eq_getElem (by simp only [stl, List.length_map]; omega)) (by simp only [stl, List.length_map]; omega) ?_
                rw [show (stl sti).dropLast = stl (act sti sPop) from by rw [act_pop (k := 1) (by decide +kernel) (by decide +kernel), show max 1 (sti.length - 1) = sti.length - 1 by omega, ← List.dropLast_eq_take]; simp [stl, List.map_dropLast]]
                kd_all
                exact ⟨_, by rw [hfs]⟩
              · refine ifF (by simp only [stl, List.length_map, decide_eq_false_iff_not]; omega) ?_
                rw [show act sti sPop = sti from by rw [act_pop (k := 1) (by decide +kernel) (by decide +kernel), show max 1 (sti.length - 1) = sti.length by omega, List.take_length]] at hfs
                kd_all
                exact ⟨_, by rw [hfs]⟩
            · refine ifF (by decide +kernel) ?_
              kd_all
              refine ⟨_, rfl, ifT (by decide +kernel) ?_⟩
              kd_all
              refine Append_ ?_
              kd_all
              refine ⟨sl, rfl, ?_, _, by mem_news⟩
              kd_all
              refine itemMn (by mem_news) (by decide) (tl1 _ hsip) (by simp only [stl, List.length_map]; omega) (last_is hsip) ?_
              kd_all
              refine ⟨_, _, _, rfl, .here, by simp only [stl, List.length_map]; omega, ?_⟩
              rw [show stl sti ++ [D.str (sti.getLastD sRoot)] = stl (act sti sPush) from by rw [show act sti sPush = sti ++ [sti.getLastD sRoot] from if_pos rfl]; simp [stl]]
              kd_all
              exact ⟨_, by rw [hfs]⟩
          · rintro _ ⟨o5, rfl⟩
            rw [show (stl l).length = l.length by simp [stl], List.take_length, ← hm st]
            have hml := hmv.le
            kd_all
            refine itemMn (by mem_news) (by decide) (tl1 _ hmv.pos) (by simp only [stl, List.length_map]; omega) (last_is hmv.pos) ?_
            kd_all
            refine dget_ (valD_tok hT (hmv.each _ (getLastD_mem hmv.pos))) ?_
            kd_all
            exact ⟨rfl, _, rfl⟩
        | @int k h1 h3 hm =>
          have hml := hmv.le
          refine ⟨_, rfl, ifT rfl ?_⟩
          kd_all
          refine tValU_ ?_
          kd_all
          refine isi_no .int (by decide +kernel) F.isi_meta_tuple F.sub_int_tuple (truthyB (ifF rfl ?_))
          kd_all
          refine tValU_ ?_
          kd_all
          refine isi_yes .int F.isi_meta_int F.sub_int_int (truthyB (ifT rfl ?_))
          kd_all
          refine absI ?_
          rw [if_pos (by omega), Int.neg_neg]
          kd_all
          refine lenM (by mem_news) (by simp only [stl, List.length_map]; omega) ?_
          kd_all
          refine ⟨_, rfl, ?_⟩
          by_cases hkl : st.length ≤ k
          · refine ifT (by simp only [stl, List.length_map, decide_eq_true_eq]; omega) ?_
            kd_all
            refine Delete_ ?_
            kd_all
            refine ⟨sl, _, 1, _, rfl, rfl, .here, by simp only [stl, List.length_map]; omega, ?_⟩
            have hps := hs.pos
            rw [show (stl st).take (cut (some 1) 0 (stl st).length) = stl (moved st ch) from by
              rw [hm st, stl, stl, ← List.map_take]
              congr 2
              simp only [cut, List.length_map]
              omega]
            kd_all
            refine itemMn (by mem_news) (by decide) (tl1 _ hmv.pos) (by simp only [stl, List.length_map]; omega) (last_is hmv.pos) ?_
            kd_all
            refine dget_ (valD_tok hT (hmv.each _ (getLastD_mem hmv.pos))) ?_
            kd_all
            exact ⟨rfl, _, rfl⟩
          · refine ifF (by simp only [stl, List.length_map, decide_eq_false_iff_not]; omega) ?_
            kd_all
            refine Delete_ ?_
            kd_all
            refine ⟨sl, _, -(k : Int), _, rfl, rfl, .here, by simp only [stl, List.length_map]; omega, ?_⟩
            rw [show (stl st).take (cut (some (-(k : Int))) 0 (stl st).length) = stl (moved st ch) from by
              rw [hm st, stl, stl, ← List.map_take]
              congr 2
              simp only [cut, List.length_map]
              rw [if_pos (by omega)]
              omega]
            kd_all
            refine itemMn (by mem_news) (by decide) (tl1 _ hmv.pos) (by simp only [stl, List.length_map]; omega) (last_is hmv.pos) ?_
            kd_all
            refine dget_ (valD_tok hT (hmv.each _ (getLastD_mem hmv.pos))) ?_
            kd_all
            exact ⟨rfl, _, rfl⟩
        | push hm =>
          have hml := hmv.le
          refine ⟨_, rfl, ifT rfl ?_⟩
          kd_all
          refine tValU_ ?_
          kd_all
          refine isi_no .str (by decide +kernel) F.isi_meta_tuple F.sub_str_tuple (truthyB (ifF rfl ?_))
          kd_all
          refine tValU_ ?_
          kd_all
          refine isi_no .str (by decide +kernel) F.isi_meta_int F.sub_str_int (truthyB (ifF rfl ?_))
          kd_all
          refine ⟨_, rfl, ifT (by decide +kernel) ?_⟩
          kd_all
          refine Append_ ?_
          kd_all
          refine ⟨sl, rfl, ?_, _, by mem_news⟩
          kd_all
          refine itemMn (by mem_news) (by decide) (tl1 _ hs.pos) (by simp only [stl, List.length_map]; omega) (last_is hs.pos) ?_
          kd_all
          refine ⟨_, _, _, rfl, .here, by simp only [stl, List.length_map]; omega, ?_⟩
          rw [show stl st ++ [D.str (st.getLastD sRoot)] = stl (moved st ch) from by rw [hm st, show act st sPush = st ++ [st.getLastD sRoot] from if_pos rfl]; simp [stl]]
          kd_all
          refine itemMn (by mem_news) (by decide) (tl1 _ hmv.pos) (by simp only [stl, List.length_map]; omega) (last_is hmv.pos) ?_
          kd_all
          refine dget_ (valD_tok hT (hmv.each _ (getLastD_mem hmv.pos))) ?_
          kd_all
          exact ⟨rfl, _, rfl⟩
      rintro _ _ ⟨rfl, o5, rfl⟩
      refine sl_cons (sl_ex okF JT.stable ?_)
      kd_all
      refine bk _ _ (sl_nil (sl_again rfl ?_))
      rw [hsp.1, hsp.2]
      refine ih ⟨g, place + w.length, moved st ch, sl, some (.meth 597 (.inst 600 [(aRows, rowsD r.terms)])), some (kindI (kindN r.kind)), some (chD ch), some (.inst 573 [(aPlace, .int place), (aPieces, .list [.str w])]), o5, by omega, by omega, hmv.le' (by omega)⟩ (by show g < g + 1; omega)
  · rintro _ ⟨o1, o2, o3, o4, o5, rfl, hno⟩ Fc fr KT HT2 okF spF guF bk
    rw [List.length_map, List.take_length] at hno
    have hpk := pick_none hno
    refine sl_cons (sl_if okF JT.stable ?_)
    kd_all
    refine lenS (by omega) ?_
    kd_all
    refine ⟨_, rfl, ?_⟩
    by_cases hend : text.length ≤ place
    · refine ifT (by rw [decide_eq_true_eq]; omega) ?_
      rw [run_done hend]
      refine sl_cons (sl_ex okF JT.stable ?_)
      kd_all
      refine bk _ _ _ (sl_done ?_)
      rw [hk]
      exact sl_nil (sl_end trivial)
    · refine ifF (by rw [decide_eq_false_iff_not]; omega) ?_
      obtain ⟨g, rfl, hrun⟩ := run_step (T := T) (st := st) (by omega) hf
      rw [hrun, List.map_cons]
      obtain ⟨c, hc1, hc2⟩ := at1_is (text := text) (i := place) (by omega)
      refine sl_nil (sl_cons (sl_if okF JT.stable ?_))
      kd_all
      refine itemS (by omega) (by omega) hc1 ?_
      rw [hc2]
      kd_all
      refine ⟨_, rfl, ?_⟩
      cases hnl : at1 text place == sNl with
      | true =>
        refine ifT rfl ?_
        have hsp : stp T text place st = ⟨⟨place, [Str.ofString "Text", Str.ofString "Whitespace"], at1 text place⟩, place + 1, [sRoot]⟩ := by unfold stp; rw [hpk]; simp [hnl]
        refine sl_cons (sl_ex okF JT.stable ?_)
        kd_all
        refine newListM_ (fun sl2 => ?_) (by kt_len)
        kd_all
        refine SL.sub JT.stable (.cons₂ _ (.cons _ (.refl _))) ?_
        refine sl_cons (sl_ex okF JT.stable ?_)
        kd_all
        refine dget_ (valD_tok hT (by simp)) ?_
        kd_all
        refine sl_cons (sl_yield okF spF rfl guF ?_ rfl rfl)
        kd_all
        refine NameG_ (by assumption) (by assumption) (by mem_news) g_ws (is_ws (by assumption)) ?_
        kd_all
        refine newTuple_ ⟨?_, ?_⟩ (by kt_len)
        · rw [hsp]; unfold rowG; rw [show at1 text place = sNl from eq_of_beq hnl]
        refine sl_cons (sl_ex okF JT.stable ?_)
        kd_all
        refine AugI_ (i := ((place : Nat) : Int)) (j := 1) (by assumption) (by mem_news) (by mem_news) (by mem_news) ?_
        kd_all
        refine ⟨rfl, ?_⟩
        kd_all
        refine sl_cons (sl_ex okF JT.stable ?_)
        kd_all
        refine bk _ _ _ (sl_again rfl ?_)
        rw [hsp]
        refine ih ⟨g, place + 1, [sRoot], sl2, o1, o2, o3, o4, o5, by omega, by omega, ⟨by decide, by show 1 ≤ _; omega, by simp⟩⟩ (by show g < g + 1; omega)
      | false =>
        refine ifF rfl ?_
        have hsp : stp T text place st = ⟨⟨place, [Str.ofString "Error"], at1 text place⟩, place + 1, st⟩ := by unfold stp; rw [hpk]; simp [hnl]
        refine sl_nil (sl_cons (sl_yield okF spF rfl guF ?_ rfl rfl))
        kd_all
        refine NameG_ (by assumption) (by assumption) (by mem_news) g_err (is_err (by assumption)) ?_
        kd_all
        refine itemS (by omega) (by omega) hc1 ?_
        rw [hc2]
        kd_all
        refine newTuple_ ⟨?_, ?_⟩ (by kt_len)
        · rw [hsp]; rfl
        refine sl_cons (sl_ex okF JT.stable ?_)
        kd_all
        refine AugI_ (i := ((place : Nat) : Int)) (j := 1) (by assumption) (by mem_news) (by mem_news) (by mem_news) ?_
        kd_all
        refine ⟨rfl, ?_⟩
        kd_all
        refine sl_nil (bk _ _ _ (sl_nil (sl_again rfl ?_)))
        rw [hsp]
        refine ih ⟨g, place + 1, st, sl, o1, o2, o3, o4, o5, by omega, by omega, hs.le' (by omega)⟩ (by show g < g + 1; omega)



theorem tx_of {w : Str} (h : (w.cps.toList.all fun c => decide (c < 0x110000)) = true) : Tx w := fun c hc => of_decide_eq_true (List.all_eq_true.mp h c hc)
theorem kind_tx (k : Int) : Tx (kindN k) := by
  unfold kindN kinds3
  generalize k.toNat = n
  match n with
  | 0 => exact tx_of (by decide +kernel)
  | 1 => exact tx_of (by decide +kernel)
  | 2 => exact tx_of (by decide +kernel)
  | n + 3 => exact tx_of (by show ((Str.ofString "Name").cps.toList.all _) = true; decide +kernel)
theorem hit_word {text : Str} {place : Nat} {w : Str} (h : hit text place w = true) (hp : place + w.length ≤ text.length) : w.cps.toList = (text.cps.toList.drop place).take w.length := by
  have e : cutS text (some place) (some (place + w.length)) = w := eq_of_beq h
  have e2 : (cutS text (some place) (some (place + w.length))).cps.toList = w.cps.toList := by rw [e]
  rw [← e2]
  unfold cutS sliced cut
  have hl : text.cps.toList.length = text.length := Array.length_toList
  simp only [hl]
  congr 1
  · omega
  · congr 1; omega
theorem at1_word {text : Str} {place : Nat} (hp : place < text.length) : (at1 text place).cps.toList = (text.cps.toList.drop place).take 1 := by
  have hl : text.cps.toList.length = text.length := Array.length_toList
  have hp' : place < text.cps.size := hp
  unfold at1
  rw [List.drop_eq_getElem_cons (by rw [hl]; exact hp)]
  simp [hp']
structure StpOk (text : Str) (place b : Nat) (s : Stp) : Prop where
  rp : s.row.place = place
  pl : s.place = place + s.row.word.length
  pos : 1 ≤ s.row.word.length
  le : s.place ≤ text.length
  word : s.row.word.cps.toList = (text.cps.toList.drop place).take s.row.word.length
  tx : Tx s.row.word
  nx : ∀ w ∈ s.row.names, Tx w
  st : SOk s.stack (b + 3)
theorem at1_tx {text : Str} {place : Nat} (hx : Tx text) (hp : place < text.length) : Tx (at1 text place) := by
  intro c hc
  rw [at1_word hp] at hc
  exact hx c (List.mem_of_mem_drop (List.mem_of_mem_take hc))
theorem stp_ok {T : Tbl} {text : Str} {place b : Nat} {st : List Str} (hT : TblOk T) (hx : Tx text) (hp : place < text.length) (hs : SOk st b) : StpOk text place b (stp T text place st) := by
  unfold stp
  have l1 : (at1 text place).length = 1 := rfl
  cases e : pick text place (rulesOf T (st.getLastD sRoot)) with
  | none =>
    dsimp only
    have hw := at1_word hp
    split
    · exact ⟨rfl, by rw [l1], by rw [l1]; exact Nat.le_refl _, hp, by rw [l1]; exact hw, at1_tx hx hp, fun w hw => by
        rcases List.mem_cons.mp hw with rfl | hw
        · exact tx_of (by decide +kernel)
        · rw [List.mem_singleton.mp hw]; exact tx_of (by decide +kernel), ⟨by show 0 < 1; decide, by show 1 ≤ _; omega, by simp⟩⟩
    · exact ⟨rfl, by rw [l1], by rw [l1]; exact Nat.le_refl _, hp, by rw [l1]; exact hw, at1_tx hx hp, fun w hw => by
        rw [List.mem_singleton.mp hw]; exact tx_of (by decide +kernel), hs.le' (by omega)⟩
  | some x =>
    obtain ⟨w, k, c⟩ := x
    obtain ⟨w1, w2, w3, w4, k0, k3, hch⟩ := pick_ok (rulesOf_ok hT) e
    exact ⟨rfl, rfl, w1, w2, hit_word w4 w2, w3, fun w hw => by rw [List.mem_singleton.mp hw]; exact kind_tx k, hs.moved hch⟩
theorem run_facts {T : Tbl} {text : Str} (hT : TblOk T) (hx : Tx text) : ∀ (f place b : Nat) (st : List Str), text.length ≤ place + f → place ≤ text.length → SOk st b →
    (((run T text f place st).map (fun r => r.word.cps.toList)).flatten = text.cps.toList.drop place ∧ (run T text f place st).length ≤ text.length - place ∧ (∀ r ∈ run T text f place st, Tx r.word ∧ ∀ w ∈ r.names, Tx w) ∧
      ∀ (k : Nat) (r : Row), (run T text f place st)[k]? = some r → r.place = place + (((run T text f place st).take k).map (fun r => r.word.length)).sum)
  | f, place, b, st, hf, hp, hs => by
    have hl : text.cps.toList.length = text.length := Array.length_toList
    by_cases h : place < text.length
    · obtain ⟨g, rfl, hrun⟩ := run_step (T := T) (st := st) h hf
      have so := stp_ok hT hx h hs
      have hpos := so.pos
      have hpl := so.pl
      obtain ⟨i1, i2, i3, i4⟩ := run_facts hT hx g (stp T text place st).place (b + 3) (stp T text place st).stack (by omega) so.le so.st
      have hle := so.le
      rw [hrun]
      refine ⟨?_, ?_, ?_, ?_⟩
      · rw [List.map_cons, List.flatten_cons, i1, so.word, hpl, ← List.drop_drop, List.take_append_drop]
      · rw [List.length_cons]; omega
      · intro r hr
        rcases List.mem_cons.mp hr with rfl | hr
        · exact ⟨so.tx, so.nx⟩
        · exact i3 r hr
      · intro k r hk
        cases k with
        | zero => simp at hk; subst hk; simp [so.rp]
        | succ k =>
          simp at hk
          have := i4 k r hk
          rw [List.take_succ_cons, List.map_cons, List.sum_cons]
          omega
    · rw [run_done (by omega)]
      refine ⟨?_, by simp, by simp, by simp⟩
      rw [List.drop_eq_nil_of_le (by omega)]; rfl
termination_by f => f
theorem join_cps : ∀ (ws : List Str) (acc : Array Nat), (ws.foldl (fun a w => a ++ (Str.ofString "").cps ++ w.cps) acc).toList = acc.toList ++ (ws.map (fun w => w.cps.toList)).flatten
  | [], acc => by simp
  | w :: ws, acc => by
    rw [List.foldl_cons, join_cps ws]
    simp [show (Str.ofString "").cps = #[] from by decide +kernel]
theorem join_run {T : Tbl} {text : Str} {st : List Str} (hT : TblOk T) (hx : Tx text) (hs : SOk st 3) : Txt.join (Str.ofString "") ((run T text text.length 0 st).map (·.word)) = text := by
  have h := (run_facts hT hx text.length 0 3 st (by omega) (by omega) hs).1
  have e : ∀ ws : List Str, (Txt.join (Str.ofString "") ws).cps.toList = (ws.map (fun w => w.cps.toList)).flatten := by
    intro ws
    cases ws with
    | nil => rfl
    | cons w ws =>
      show (ws.foldl (fun a w => a ++ (Str.ofString "").cps ++ w.cps) w.cps).toList = _
      rw [join_cps]; simp
  have h2 := e ((run T text text.length 0 st).map (·.word))
  rw [List.map_map] at h2
  have h3 : (Txt.join (Str.ofString "") ((run T text text.length 0 st).map (·.word))).cps.toList = text.cps.toList := by
    rw [h2]; exact h
  have h4 := Array.toList_inj.mp h3
  cases hh : Txt.join (Str.ofString "") ((run T text text.length 0 st).map (·.word)) with
  | mk c => rw [hh] at h4; cases text; exact congrArg Str.mk h4




theorem mem_le_sum {α : Type} {f : α → Nat} : ∀ {l : List α} {a : α}, a ∈ l → f a ≤ (l.map f).sum
  | b :: l, a, h => by
    rw [List.map_cons, List.sum_cons]
    rcases List.mem_cons.mp h with rfl | h
    · omega
    · have := mem_le_sum (f := f) h; omega
theorem cast_sum {α : Type} {f : α → Nat} : ∀ (l : List α), (((l.map f).sum : Nat) : Int) = (l.map fun a => (f a : Int)).sum
  | [] => rfl
  | a :: l => by rw [List.map_cons, List.sum_cons, List.map_cons, List.sum_cons, ← cast_sum l]; push_cast; rfl
theorem places_eq {rows : List Row} (f4 : ∀ (k : Nat) (r : Row), rows[k]? = some r → r.place = 0 + ((rows.take k).map (fun r => r.word.length)).sum) :
    ((List.range rows.length).map fun k => D.int (((rows.take k).map fun r => (r.word.length : Int)).sum)) = rows.map fun r => D.int (r.place : Int) := by
  apply List.ext_getElem?
  intro k
  rw [List.getElem?_map, List.getElem?_map]
  by_cases h : k < rows.length
  · rw [List.getElem?_eq_getElem h, List.getElem?_range h]
    have := f4 k _ (List.getElem?_eq_getElem h)
    simp only [Option.map_some]
    rw [this, Nat.zero_add, cast_sum]
  · have h1 : (List.range rows.length)[k]? = none := List.getElem?_eq_none (by rw [List.length_range]; omega)
    have h2 : rows[k]? = none := List.getElem?_eq_none (by omega)
    rw [h1, h2]; rfl
/-- a told row, as the comprehension keeps it -/
def elG : D → D
  | .tup [a, .inst _ [(_, n)], c] => .tup [a, n, c]
  | d => d
theorem elG_row (r : Row) : elG (rowG r) = r.d := rfl
theorem GenMade.from {Γ : Cx} {k : Nat} {a b c : Sg} {v : Value} {items : List D} {Qe : Led → Prop} {w : Led} (st : Step a b) (h : GenMade Γ k b v c items Qe w) : GenMade Γ k a v c items Qe w := by
  obtain ⟨ga, G, g0, gs, h1, h2, h3, h4, h5⟩ := h
  exact ⟨ga, G, g0, gs, h1, h2, h3, st.gens.trans h4, h5⟩
def Row.p (r : Row) : PyData := .tuple [.int r.place, .tuple (r.names.map .str), .str r.word]
theorem row_dt (r : Row) : Dt r.d r.p := .tup (.cons (.int _) (.cons (.tup dts_strs) (.cons (.str _) .nil)))
theorem rows_dts : ∀ (rs : List Row), Dts (rs.map Row.d) (rs.map Row.p)
  | [] => .nil
  | r :: rs => .cons (row_dt r) (rows_dts rs)
theorem rows_lay : ∀ (rs : List Row), (∀ r ∈ rs, Tx r.word ∧ ∀ w ∈ r.names, Tx w) → PyData.canLayAll0 (rs.map Row.p) = true ∧ PyData.depthAll (rs.map Row.p) ≤ 2
  | [], _ => ⟨rfl, Nat.zero_le _⟩
  | r :: rs, h => by
    have ih := rows_lay rs fun x hx => h x (.tail _ hx)
    have h1 := h r (.head _)
    have l1 := lay_strs h1.2
    have l2 := lay_str h1.1
    refine ⟨?_, ?_⟩
    · show ((true && (PyData.canLayAll0 (r.names.map .str) && ((PyData.str r.word).canLay0 && true))) && PyData.canLayAll0 (rs.map Row.p)) = true
      rw [l1.1, l2, ih.1]; rfl
    · show max (max 0 (max (PyData.depthAll (r.names.map .str) + 1) (max 0 0)) + 1) (PyData.depthAll (rs.map Row.p)) ≤ 2
      rw [l1.2]
      have := ih.2
      omega
theorem rows_shaped {rs : List Row} (h : ∀ r ∈ rs, Tx r.word ∧ ∀ w ∈ r.names, Tx w) : SeqAt.shaped (.list (rs.map Row.p)) = true := by
  have := rows_lay rs h
  show (PyData.canLayAll0 (rs.map Row.p) && decide (PyData.depthAll (rs.map Row.p) + 1 ≤ 64)) = true
  rw [this.1, Bool.true_and, decide_eq_true_eq]
  have := this.2
  omega
theorem ints_lay : ∀ (l : List Int), PyData.canLayAll0 (l.map .int) = true ∧ PyData.depthAll (l.map .int) = 0
  | [] => ⟨rfl, rfl⟩
  | a :: l => by
    have ih := ints_lay l
    exact ⟨by show (true && PyData.canLayAll0 (l.map .int)) = true; rw [ih.1]; rfl, by show max 0 (PyData.depthAll (l.map .int)) = 0; rw [ih.2]; rfl⟩
theorem ints_shaped (l : List Int) : SeqAt.shaped (.list (l.map .int)) = true := by
  have := ints_lay l
  show (PyData.canLayAll0 (l.map .int) && decide (PyData.depthAll (l.map .int) + 1 ≤ 64)) = true
  rw [this.1, this.2]; rfl
theorem ints_dts : ∀ (l : List Int), Dts (l.map .int) (l.map .int)
  | [] => .nil
  | a :: l => .cons (.int a) (ints_dts l)
theorem On1.sub {α β : Type} {Γ : Cx} {R : Heap → α → β → Prop} {n : Nat} {t : Value → Sem α} {d : D} {Q : β → Led → Prop} {u u' : Led} (s : u'.Sublist u) (h : On1 Γ R n t d Q u') : On1 Γ R n t d Q u := by
  rintro ⟨gs, g, uu, hp⟩ ho rfl v hv A dr os tk hA
  refine wpAny_mono (h ⟨gs, g, u', hp⟩ (ho.sub s) rfl v hv A dr os tk hA) ?_ (fun _ _ f => f)
  rintro x _ ⟨b, tk', y, rfl, st, o, r, q⟩
  have s2 : Step ⟨gs, g, uu, hp⟩ ⟨gs, g, u', hp⟩ := Step.sub s
  exact ⟨b, tk', y, rfl, s2.trans st, o, r, q⟩
set_option maxHeartbeats 0 in
theorem law_ok {Γ : Cx} (hK : Γ.K = hd.heap_39 Γ.w.params) {u : Led} {ns : List Int} {Q : D → Led → Prop} (hl : ns.length ≤ 1000) (hQ : Q (.bool true) u) : OnL Γ (Is Γ.w.params) 20 (fun vs => call (.ref 691) vs) [scriptD ns] Q u := by
  have hsl : sizeLine = 16777216 := rfl
  refine defC_ hK rfl (by kernel_rfl) rfl (bs := [(Str.ofString "script", scriptD ns)]) (rs := [Str.ofString "turn", Str.ofString "text", Str.ofString "stack", Str.ofString "lexer"]) (cs := fun L => [(Str.ofString "told", L + 1 + 1 + 1), (Str.ofString "table", L + 1 + 1), (Str.ofString "state", L + 1)]) (led := fun L => [(L + 1 + 1 + 1, .cell none), (L + 1 + 1, .cell none), (L + 1, .cell none)]) ?_ (InitC.bind (by decide +kernel) (InitC.rest (InitC.rest (InitC.rest (InitC.rest InitC.nil))))) (by kernel_rfl) (by kernel_rfl) (fun L => rfl) (fun L => by tb_rel) (by kernel_rfl) (by kernel_rfl) (by kernel_rfl) rfl rfl rfl rfl (by kernel_rfl) rfl rfl ?_
  · intro g vs hv
    cases hv with | cons h1 hv => ?_
    cases hv
    exact ⟨_, rfl, .cons h1 .nil⟩
  intro L env he
  dsimp only [List.cons_append, List.nil_append] at he ⊢
  have hno := stNums_ok ns
  kd_all
  refine CallU_ (NameG_ (by assumption) (by assumption) (by tb_rel) g_state (.raw _) ⟨Callee.fn (by assumption) k_state, ?_⟩)
  kd_all
  refine (state_ok hK hl (fun st => ?_)).up (by decide)
  kd_all
  refine For2_ ?_
  kd_all
  refine range1 ⟨rangeD 0 (2 - 0 : Int).toNat, fun i u' => ∃ (k' : Int) (o1 o2 o3 o4 c3 c2 : Option D), i ≤ 2 ∧ 0 ≤ k' ∧ k' ≤ 300 * i ∧ u' = (st, rng (stNums ns) k') :: (L, .ns [(Str.ofString "script", some (scriptD ns)), (Str.ofString "turn", o1), (Str.ofString "text", o2), (Str.ofString "stack", o3), (Str.ofString "lexer", o4)]) :: (L + 1 + 1 + 1, .cell c3) :: (L + 1 + 1, .cell c2) :: (L + 1, .cell (some (.raw (.ref st)))) :: u, iterRange (by decide) (by decide) (by decide) (by decide), ⟨0, _, _, _, _, _, _, by decide, by decide, by decide, rfl⟩, ?_, ?_⟩
  · rintro i di _ hdi ⟨k', o1, o2, o3, o4, c3, c2, hi, hk0, hk1, rfl⟩
    obtain ⟨hi2, rfl⟩ := rangeD_get hdi
    replace hi2 : i < 2 := hi2
    kd_all
    refine (next_ok hK (by tb_start) hno hk0 (by omega) (by decide) ?_).up (by decide)
    intro r hr0 hr1
    kd_all
    refine (text_ok hK (by tb_start) hno (by omega) (by omega) hr0 (by omega) ?_).up (by decide)
    intro text k2 htl htx hk20 hk21
    kd_all
    refine newListF_ ?_ (by kt_len)
    refine comp_ (cl := [(Str.ofString "state", L + 1)]) (names := [(Str.ofString ".0", .local), (Str.ofString "one", .local), (Str.ofString "_law_names", .globalImplicit), (Str.ofString "_law_next", .globalImplicit), (Str.ofString "state", .cell)]) (rs := [Str.ofString "one"]) (by with_unfolding_all rfl) (by kernel_rfl) (by kernel_rfl) (by kernel_rfl) rfl rfl rfl ?_
    kd_all
    refine (next_ok hK (by tb_start) hno (by omega) (by omega) (by decide) ?_).up (by decide)
    intro r1 hr10 hr11
    kd_all
    refine range1 ⟨rangeD 0 (r1 - 0).toNat, fun j acc u' => ∃ (l : List Str) (k3 : Int), acc = stl l ∧ l.length = j ∧ (∀ s ∈ l, s ∈ names4) ∧ 0 ≤ k3 ∧ k3 ≤ k' + 16 + j ∧ j ≤ 2 ∧ u' = (st, rng (stNums ns) k3) :: (L, .ns [(Str.ofString "script", some (scriptD ns)), (Str.ofString "turn", (some (.int (0 + (i : Nat))))), (Str.ofString "text", (some (.str text))), (Str.ofString "stack", o3), (Str.ofString "lexer", o4)]) :: (L + 1 + 1 + 1, .cell c3) :: (L + 1 + 1, .cell c2) :: (L + 1, .cell (some (.raw (.ref st)))) :: u, iterRange (by decide) (by decide) (by omega) (by omega), ?_, ?_, ?_, ?_⟩
    · rw [rangeD_length]; omega
    · exact ⟨[], _, rfl, rfl, by simp, by omega, by omega, by omega, rfl⟩
    · rintro j dj acc _ C Dd m hdj hj _ ⟨l, k3, rfl, hll, hlm, hk30, hk31, hj2, rfl⟩ hm cenv he2
      obtain ⟨h4, rfl⟩ := rangeD_get hdj
      obtain ⟨o, rfl⟩ := names1 hm
      kd_all
      refine tests0_ ?_
      refine ifT rfl ?_
      kd_all
      refine (next_ok hK (by tb_start) hno (by omega) (by omega) (by decide) ?_).up (by decide)
      intro r2 hr20 hr21
      obtain ⟨s1, e1, m1⟩ := names_at r2 hr20 hr21
      refine itemL hr20 (by omega) e1 ?_
      refine ⟨_, _, _, _, .here, rfl, .here, .refl _, l ++ [s1], _, by simp, by simp [hll], ?_, ?_, ?_, ?_, rfl⟩
      · intro z hz
        rcases List.mem_append.mp hz with hz | hz
        · exact hlm z hz
        · rw [List.mem_singleton.mp hz]; exact m1
      · omega
      · push_cast; omega
      · omega
    rintro acc _ _ ⟨l, k3, rfl, hll, hlm, hk30, hk31, hj2, rfl⟩
    rw [rangeD_length] at hll hk31 hj2
    refine addLL (by simp; omega) ?_
    rw [show [D.str (Str.ofString "root")] ++ stl l = stl (sRoot :: l) from rfl]
    have hst : SOk (sRoot :: l) 3 := ⟨by simp, by simp; omega, fun s hs => by
      rcases List.mem_cons.mp hs with rfl | hs
      · simp
      · exact hlm s hs⟩
    generalize sRoot :: l = stk at hst ⊢
    kd_all
    refine CallU_ (NameG_ (by assumption) (by assumption) (by tb_rel) g_table (.raw _) ⟨Callee.fn (by assumption) k_table, ?_⟩)
    kd_all
    refine (table_ok hK (by tb_start) hno hk30 (by omega) ?_).up (by decide)
    intro T k4 hT hk40 hk41
    kd_all
    refine CallU_ (NameG_ (by assumption) (by assumption) (by tb_rel) g_plexer (.raw _) ⟨Callee.fn (by assumption) k_plexer, ?_⟩)
    kd_all
    refine comp_ (cl := [(Str.ofString "table", L + 1 + 1)]) (names := [(Str.ofString ".0", .local), (Str.ofString "name", .local), (Str.ofString "_law_rules", .globalImplicit), (Str.ofString "table", .cell)]) (rs := [Str.ofString "name"]) (by with_unfolding_all rfl) (by kernel_rfl) (by kernel_rfl) (by kernel_rfl) rfl rfl rfl ?_
    kd_all
    have hT4 : T.length = 4 := by have := congrArg List.length hT.keys; simpa using this
    refine ⟨stl names4, fun j acc u' => j ≤ 4 ∧ acc = (((T.take j).map ruleRow).map fun p => .tup [.str p.1, p.2]) ∧ u' = (st, rng (stNums ns) k4) :: (L, .ns [(Str.ofString "script", some (scriptD ns)), (Str.ofString "turn", (some (.int (0 + (i : Nat))))), (Str.ofString "text", (some (.str text))), (Str.ofString "stack", (some (.list (stl stk)))), (Str.ofString "lexer", o4)]) :: (L + 1 + 1 + 1, .cell c3) :: (L + 1 + 1, .cell (some (.dict (tblD T)))) :: (L + 1, .cell (some (.raw (.ref st)))) :: u, iterList, by kt_len, ⟨by decide, rfl, rfl⟩, ?_, ?_⟩
    · rintro j dj acc _ C Dd m hdj hj _ ⟨hj4, rfl, rfl⟩ hm cenv he2
      obtain ⟨o, rfl⟩ := names1 hm
      have hj' : j < T.length := by rw [hT4]; exact hj
      obtain ⟨p, hp⟩ : ∃ p, T[j]? = some p := ⟨_, List.getElem?_eq_getElem hj'⟩
      have hk : (T.map (·.1))[j]? = some p.1 := by rw [List.getElem?_map, hp]; rfl
      have hdj' : dj = .str p.1 := by
        rw [hT.keys] at hk
        rw [stl, List.getElem?_map, hk] at hdj
        exact (Option.some.inj hdj).symm
      subst hdj'
      have hok := hT.ok p (List.mem_of_getElem? hp)
      kd_all
      refine tests0_ ?_
      refine ifT rfl ?_
      kd_all
      refine CallU_ (NameG_ (by assumption) (by assumption) (by tb_rel) g_rules (.raw _) ⟨Callee.fn (by assumption) k_rules, ?_⟩)
      kd_all
      refine dget_ (rows_valD (f := rlD) hT hp) ?_
      kd_all
      refine (rules_ok hK hok.2 (by omega) ?_).up (by decide)
      kd_all
      refine newTuple_ ?_ (by kt_len)
      refine ⟨_, _, _, _, .here, rfl, .here, .refl _, by omega, ?_, rfl⟩
      rw [take_one hp, List.map_append, List.map_append]; rfl
    rintro acc _ _ ⟨hj4, rfl, rfl⟩
    rw [show T.take (stl names4).length = T from List.take_of_length_le (by rw [hT4]; exact Nat.le_refl 4)]
    kd_all
    refine dictOfPairs (by rw [show (T.map ruleRow).map (·.1) = names4 from ruleRows_only hT]; decide +kernel) (by simp [hT4]) ?_
    kd_all
    refine (plexer_ok hK hT ?_).up (by decide)
    kd_all
    have hzt : text.length ≤ 1000 := by omega
    obtain ⟨f1, f2, f3, f4⟩ := run_facts hT htx text.length 0 3 stk (by omega) (by omega) hst
    have hjoin := join_run hT htx hst
    have hsum : ((run T text text.length 0 stk).map (fun r => r.word.length)).sum = text.length := by
      have := congrArg List.length f1
      rw [List.length_flatten, List.map_map, List.drop_zero] at this
      exact this.trans Array.length_toList
    have hmch := fun (u' : Led) (Q' : D → Led → Prop) (h : Q' (.list ((run T text text.length 0 stk).map Row.d)) u') => machine_ok hK (u := u') (stack := stk) (Q := Q') hT htx hzt (hst.le' (by decide)) h
    have hgtu := fun (a : Sg) (u' : Led) (ho : Own Γ a.g a.u a.h) (hu : a.u = u') (vs : List Value) (hv : IsAll Γ.w.params a.g vs [.inst 621 (lexF T), .str text, .tup (stl stk)]) => gtu_ok hK hT hzt hst ho hu hv
    generalize run T text text.length 0 stk = rows at f2 f3 f4 hjoin hsum hmch hgtu
    refine compGen_ (k := 7) (items := rows.map rowG) (el := elG) (Qe := fun _ => True) (w := (st, rng (stNums ns) k4) :: (L, .ns [(Str.ofString "script", some (scriptD ns)), (Str.ofString "turn", (some (.int (0 + (i : Nat))))), (Str.ofString "text", (some (.str text))), (Str.ofString "stack", (some (.list (stl stk)))), (Str.ofString "lexer", (some (.inst 621 (lexF T))))]) :: (L + 1 + 1 + 1, .cell c3) :: (L + 1 + 1, .cell (some (.dict (tblD T)))) :: (L + 1, .cell (some (.raw (.ref st)))) :: u) (cl := []) (names := [(Str.ofString ".0", .local), (Str.ofString "place", .local), (Str.ofString "kind", .local), (Str.ofString "word", .local)]) (rs := [Str.ofString "place", Str.ofString "kind", Str.ofString "word"]) (by decide) (by with_unfolding_all rfl) (by with_unfolding_all rfl) (by kernel_rfl) (by kernel_rfl) rfl rfl rfl (by rw [List.length_map]; omega) ?_ ?_ ?_
    · intro a' ho' hu'
      refine CallIWS_ (a := a') hK ?_ (ho := ho') (hu := hu')
      kd_all
      refine ⟨621, lexF T, 529, .fix, by kernel_rfl, rfl, ?_⟩
      kd_all
      have hstl := hst.le
      refine tupOfList (by simp only [stl, List.length_map]; omega) ?_
      kd_all
      intro b' sb ob hb vs' hv'
      exact ((hgtu b' _ ob hb vs' hv').up (by decide)).mono fun x c _ _ h => GenMade.from sb h
    · intro j dj acc C Dd m W hdj hm cenv he2
      obtain ⟨p1, p2, p3, rfl⟩ := names3 hm
      rw [List.getElem?_map, Option.map_eq_some_iff] at hdj
      obtain ⟨r, hr, rfl⟩ := hdj
      rw [show rowG r = .tup [.int r.place, .inst 66 [(aNames, .tup (stl r.names))], .str r.word] from rfl]
      kd_all
      refine Attr_ ?_
      kd_all
      refine getOwn_ (C := 66) (dv := .tup (stl r.names)) hK .fix (by kernel_rfl) rfl rfl ?_
      kd_all
      refine newTuple_ ?_ (by kt_len)
      exact ⟨rfl, _, rfl, rfl⟩
    rintro G' -
    refine On1.sub (List.sublist_append_right G' _) ?_
    rw [List.map_map, show elG ∘ rowG = Row.d from funext elG_row]
    kd_all
    refine CallU_ (NameG_ (by assumption) (by assumption) (by tb_rel) g_machine (.raw _) ⟨Callee.fn (by assumption) k_machine, ?_⟩)
    kd_all
    refine (hmch _ _ ?_).up (by decide)
    refine neD_same (.list (rows_dts rows)) (rows_shaped f3) ⟨_, rfl, ifF rfl ?_⟩
    kd_all
    refine CallM_ (T := "str") (id := "str.join") (pl := pure true) F.plainAttrs_str F.slot_str_join F.type_str_join ?_ (by with_unfolding_all rfl) (by with_unfolding_all exact .inr ⟨_, _, rfl, rfl⟩) (by with_unfolding_all rfl)
    kd_all
    refine ⟨methS, ?_⟩
    kd_all
    refine comp_ (cl := []) (names := [(Str.ofString ".0", .local), (Str.ofString "place", .local), (Str.ofString "names", .local), (Str.ofString "word", .local)]) (rs := [Str.ofString "place", Str.ofString "names", Str.ofString "word"]) (by with_unfolding_all rfl) (by with_unfolding_all rfl) (by kernel_rfl) (by kernel_rfl) rfl rfl rfl ?_
    kd_all
    refine ⟨rows.map Row.d, fun j acc u' => acc = stl ((rows.take j).map (·.word)) ∧ u' = _, iterList, by rw [List.length_map]; omega, ⟨rfl, rfl⟩, ?_, ?_⟩
    · rintro j dj acc _ C Dd m hdj hj _ ⟨rfl, rfl⟩ hm cenv he2
      obtain ⟨p1, p2, p3, rfl⟩ := names3 hm
      rw [List.getElem?_map, Option.map_eq_some_iff] at hdj
      obtain ⟨r, hr, rfl⟩ := hdj
      rw [show r.d = .tup [.int r.place, .tup (stl r.names), .str r.word] from rfl]
      kd_all
      refine tests0_ ?_
      refine ifT rfl ?_
      kd_all
      refine ⟨_, _, _, _, .here, rfl, .here, .refl _, ?_, rfl⟩
      rw [take_one hr, List.map_append]; simp [stl]
    rintro acc _ _ ⟨rfl, rfl⟩
    rw [List.length_map, List.take_length]
    kd_all
    refine joinL (by rw [List.map_map]; show (rows.map (fun r => r.word.length)).sum + _ * 0 ≤ _; rw [hsum]; omega) ?_
    rw [hjoin]
    kd_all
    refine neS ⟨_, rfl, ?_⟩
    refine ifF (by simp) ?_
    kd_all
    refine comp_ (cl := []) (names := [(Str.ofString ".0", .local), (Str.ofString "place", .local), (Str.ofString "names", .local), (Str.ofString "word", .local)]) (rs := [Str.ofString "place", Str.ofString "names", Str.ofString "word"]) (by with_unfolding_all rfl) (by with_unfolding_all rfl) (by kernel_rfl) (by kernel_rfl) rfl rfl rfl ?_
    kd_all
    refine ⟨rows.map Row.d, fun j acc u' => acc = ((rows.take j).map fun r => D.int r.place) ∧ u' = _, iterList, by rw [List.length_map]; omega, ⟨rfl, rfl⟩, ?_, ?_⟩
    · rintro j dj acc _ C Dd m hdj hj _ ⟨rfl, rfl⟩ hm cenv he2
      obtain ⟨p1, p2, p3, rfl⟩ := names3 hm
      rw [List.getElem?_map, Option.map_eq_some_iff] at hdj
      obtain ⟨r, hr, rfl⟩ := hdj
      rw [show r.d = .tup [.int r.place, .tup (stl r.names), .str r.word] from rfl]
      kd_all
      refine tests0_ ?_
      refine ifT rfl ?_
      kd_all
      refine ⟨_, _, _, _, .here, rfl, .here, .refl _, ?_, rfl⟩
      rw [take_one hr, List.map_append]; rfl
    rintro acc _ _ ⟨rfl, rfl⟩
    rw [List.length_map, List.take_length]
    refine comp_ (cl := [(Str.ofString "told", L + 1 + 1 + 1)]) (names := [(Str.ofString ".0", .local), (Str.ofString "k", .local), (Str.ofString "sum", .globalImplicit), (Str.ofString "told", .cell)]) (rs := [Str.ofString "k"]) (by with_unfolding_all rfl) (by kernel_rfl) (by kernel_rfl) (by kernel_rfl) rfl rfl rfl ?_
    kd_all
    refine lenL (by rw [List.length_map]; omega) ?_
    rw [List.length_map]
    kd_all
    refine range1 ⟨rangeD 0 ((rows.length : Int) - 0).toNat, fun j acc u' => j ≤ rows.length ∧ acc = ((List.range j).map fun k => D.int (((rows.take k).map fun r => (r.word.length : Int)).sum)) ∧ u' = _, iterRange (by decide) (by decide) (by omega) (by omega), by rw [rangeD_length]; omega, ⟨Nat.zero_le _, rfl, rfl⟩, ?_, ?_⟩
    · rintro j dj acc _ C Dd m hdj hj _ ⟨hjl, rfl, rfl⟩ hm cenv he2
      obtain ⟨h4, rfl⟩ := rangeD_get hdj
      obtain ⟨o, rfl⟩ := names1 hm
      have hj5 : j < rows.length := by omega
      kd_all
      refine tests0_ ?_
      refine ifT rfl ?_
      kd_all
      refine comp_ (cl := []) (names := [(Str.ofString ".0", .local), (Str.ofString "row", .local), (Str.ofString "len", .globalImplicit)]) (rs := [Str.ofString "row"]) (by with_unfolding_all rfl) (by with_unfolding_all rfl) (by kernel_rfl) (by kernel_rfl) rfl rfl rfl ?_
      refine SliceL_ ?_
      kd_all
      have hcut : sliced (rows.map Row.d) none (some (0 + (j : Nat))) = (rows.take j).map Row.d := by
        unfold sliced cut
        simp only [List.length_map, List.drop_zero, Nat.sub_zero, List.map_take]
        congr 1
        omega
      refine ⟨rows.map Row.d, none, some (0 + (j : Nat)), rfl, .none, .int, by rw [List.length_map]; omega, ?_⟩
      rw [hcut]
      refine ⟨(rows.take j).map Row.d, fun i acc u' => acc = (((rows.take j).take i).map fun r => D.int (r.word.length : Int)) ∧ u' = _, iterList, by rw [List.length_map, List.length_take]; omega, ⟨rfl, rfl⟩, ?_, ?_⟩
      · rintro i di acc _ C2 Dd2 m2 hdi hi _ ⟨rfl, rfl⟩ hm2 cenv2 he3
        obtain ⟨o2, rfl⟩ := names1 hm2
        rw [List.getElem?_map, Option.map_eq_some_iff] at hdi
        obtain ⟨r, hr, rfl⟩ := hdi
        have hrl : r.word.length ≤ 1000 := by
          have : r.word.length ≤ (rows.map (fun r => r.word.length)).sum := mem_le_sum (f := fun r : Row => r.word.length) (List.mem_of_mem_take (List.mem_of_getElem? hr))
          omega
        rw [show r.d = .tup [.int r.place, .tup (stl r.names), .str r.word] from rfl]
        kd_all
        refine tests0_ ?_
        refine ifT rfl ?_
        kd_all
        refine itemT (d := .str r.word) (by decide) (by decide) (j := 2) rfl rfl ?_
        kd_all
        refine lenS (by omega) ?_
        refine ⟨_, _, _, _, .here, rfl, .here, .refl _, ?_, rfl⟩
        rw [take_one hr, List.map_append]; rfl
      rintro acc _ _ ⟨rfl, rfl⟩
      rw [List.length_map, List.take_length, show ((rows.take j).map fun r => D.int (r.word.length : Int)) = ((rows.take j).map fun r => (r.word.length : Int)).map D.int from by rw [List.map_map]; rfl]
      kd_all
      refine sumI ?_
      refine ⟨_, _, _, _, .here, rfl, .here, .refl _, by omega, ?_, rfl⟩
      rw [List.range_succ, List.map_append]; rfl
    rintro acc _ _ ⟨hjl, rfl, rfl⟩
    rw [rangeD_length, show ((rows.length : Int) - 0).toNat = rows.length by omega, places_eq f4]
    rw [show (rows.map fun r => D.int (r.place : Int)) = (rows.map fun r => (r.place : Int)).map D.int from by rw [List.map_map]; rfl]
    refine neD_same (.list (ints_dts _)) (ints_shaped _) ⟨_, rfl, ifF rfl ?_⟩
    kd_all
    exact ⟨k4, _, _, _, _, _, _, by omega, by omega, by push_cast; omega, rfl⟩
  · rintro _ ⟨k', o1, o2, o3, o4, c3, c2, hi, hk0, hk1, rfl⟩
    kd_all
    exact ⟨_, .cons _ (.cons _ (.cons _ (.cons _ (.cons _ (.refl _))))), hQ⟩

end Mine
section
open PySem PySem.W PyProof.Rows
namespace Mine
theorem ints_well {P : Params} {h : Heap} : ∀ {vs : List Value} {ns : List Int}, WellAll P h vs (ofPys (ns.map .int)) → IsAll P h vs (ns.map .int)
  | _, [], hw => by cases hw; exact .nil
  | _, n :: ns, hw => by
    cases hw with | cons a b => ?_
    cases a
    exact .cons (.int _ _) (ints_well b)
end Mine
set_option maxRecDepth 100000 in
set_option maxHeartbeats 8000000 in
theorem PySem.Challenge.cw_ev0006_01_holds : PySem.Challenge.rw_ev0006_01.Holds := by
  refine Mine.hd ?_
  intro w s₀ s₁ mg mb G Y fa o pm cd doc dV kV ho hd hcd hD hmg hg args vals as hpre hlay hrd hwl hlo
  have KX := km_in_of Y
  clear hd hcd hD Y
  refine Ground.open G ?_
  intro T B D TE TW
  have hfa : fa = 691 := by
    have e := mg_of (n := Str.ofString "law") (v := .ref 691) KX T.g (by kernel_rfl)
    have e2 : mg (Str.ofString "law") = some (.ref fa) := hmg
    rw [e] at e2
    exact (Value.ref.inj (Option.some.inj e2)).symm
  clear hmg
  subst hfa
  wrow_args hpre hlay hrd hwl hlo
  rename_i ns _ _ _ _ _ _ _ l vs _ hL _ w1 _ hI _ hc _
  have hl63 : ns.length ≤ 1000 := by
    have : (ns.length : Int) ≤ 63 := by simpa using hc
    omega
  cases w1 with | list e hwa => ?_
  have hlow : sysModules < s₁.heap.objs.size := Nat.lt_trans (by decide) (Heap.lt_size ho)
  let Γ : Mine.Cx := ⟨PySem.Challenge.rw_ev0006_01.row.prog, w, Mine.hd.heap_39 w.params, s₁.heap, mg, mb, KX, T.g, T.b, T.nolimit, T.nodigits, T.builtins, hlow⟩
  have own : Mine.Own Γ s₁.heap [] s₁.heap := ⟨Mine.Keep.refl _, Mine.Keep.refl _, List.nodup_nil, fun p hp => by cases hp⟩
  have okc : Mine.Ok 20 callerA := ⟨rfl, by decide, by decide⟩
  refine wpAny_mono (Mine.law_ok (Γ := Γ) rfl hl63 (Q := fun d u => d = .bool true ∧ u = []) ⟨rfl, rfl⟩ ⟨s₁.gens, s₁.heap, [], s₁.heap⟩ own rfl [.ref l] (.cons (.list e (Mine.ints_well hwa)) .nil) callerA s₁.drawn s₁.os s₁.toks okc) ?_ (fun _ _ f => f.elim)
  rintro v s' ⟨b, tk, y, rfl, st, ob, r, rfl, hu⟩
  cases r
  refine ⟨.inl ⟨_, .bool true, [], rfl, fun _ => rfl, .bool true, ?_, fun _ => ⟨List.nodup_nil, fun a ha => by cases ha⟩⟩, .of_keep fun q o hq => (st.fram q o hq (by simp)).1, rfl, ?_⟩
  · wrow_post
  · intro y hy
    obtain ⟨i, hi, rfl⟩ := Array.mem_iff_getElem.mp hy
    exact st.gens.2 i _ (Array.getElem?_eq_getElem hi) (by show s₁.gens[i]? = none; rw [hg]; simp)
end
