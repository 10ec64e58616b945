import PyProof.Rows.All
import Wide.All
import OpenK.AllK
import Wide.FinOn
import PySem.Challenge.RW_pg0119_01
set_option Elab.async false
-- part M0.lean
set_option autoImplicit false
set_option linter.unusedVariables false
namespace Mine
open PySem PySem.W PyProof.Rows
noncomputable section

/-- abstract values -/
inductive V where
  | unb | none | bool (b : Bool) | int (i : Int) | inp (r m : Nat) | str (s : List Nat) | ref (i : Nat)
  | clo (j : Nat) | bm (i : Nat) | il (xs : List (Nat × Nat))

/-- abstract objects -/
inductive O where
  | dead
  | list (xs : List V)
  | tuple (xs : List V)
  | dict (es : List (List Nat × V))
  | inst (es : List (List Nat × V))
  | fit (i : Nat) (over : Bool)
  | tab (made : Bool)

abbrev Im := Addr → Option Obj
abbrev As := List (List Addr)

def Ext (I : Im) (h : Heap) : Prop := ∀ b o, I b = some o → h.get? b = some o
def ImLe (I I' : Im) : Prop := ∀ b o, I b = some o → I' b = some o

/-- what stays the same through the whole call of the law -/
structure Cx where
  prog : Program
  w : World
  base : Im
  mg : Str → Option Value
  mb : Str → Option Value
  os : OsState
  cls : Addr
  fnRead : Addr
  tabAt : Addr
  clo : Im → Addr → Addr → Prop
  tabR : Im → Bool → Obj → Prop
  g : ∀ h, Ext base h → h.Ns mainGlobals mg
  b : ∀ h, Ext base h → h.Ns builtinsNs mb
  lim : ∀ h, Ext base h → h.NoLimit
  cloMono : ∀ I I' f l, ImLe I I' → clo I f l → clo I' f l
  tabMono : ∀ I I' m o, ImLe I I' → tabR I m o → tabR I' m o

def big : Nat := 1000000

inductive All2 {α β : Type} (R : α → β → Prop) : List α → List β → Prop
  | nil : All2 R [] []
  | cons {a b as bs} (h : R a b) (t : All2 R as bs) : All2 R (a :: as) (b :: bs)
def InpR (p : Nat × Nat) (x : Value) : Prop := ∃ j t, x = .int j t ∧ 0 < p.2 ∧ j % (p.2 : Int) = (p.1 : Int)
inductive VR (c : Cx) (I : Im) (as : As) : V → Value → Prop
  | none : VR c I as .none .none
  | bool (b : Bool) : VR c I as (.bool b) (.bool b)
  | int (i : Int) (t : Tok) : VR c I as (.int i) (.int i t)
  | inp {r m : Nat} {j : Int} (t : Tok) (hm : 0 < m) (h : j % (m : Int) = (r : Int)) : VR c I as (.inp r m) (.int j t)
  | str {l : List Nat} (t : Tok) (h : l.length ≤ big) : VR c I as (.str l) (.str ⟨l.toArray⟩ t)
  | ref {i : Nat} {a : Addr} {fp : List Addr} (h : as[i]? = some (a :: fp)) : VR c I as (.ref i) (.ref a)
  | clo {j : Nat} {f cl l : Addr} {fp : List Addr} {oc : Obj} (h : c.clo I f cl) (hc : I cl = some oc) (hd : oc.data = .cell (some (.ref l))) (hl : as[j]? = some (l :: fp)) : VR c I as (.clo j) (.ref f)
  | bm {i : Nat} {b a : Addr} {fp : List Addr} (h : I b = some { cls := .type "method", data := .fields #[.ref c.fnRead, .ref a] }) (ha : as[i]? = some (a :: fp)) : VR c I as (.bm i) (.ref b)
  | il {a : Addr} {items : List Value} {n : Nat} {o : Obj} {xs : List (Nat × Nat)} (h : I a = some o) (hc : o.cls = .type "list") (hd : o.data = .seq items.toArray n) (r : All2 InpR xs items) (hl : xs.length ≤ big) : VR c I as (.il xs) (.ref a)

def EntR (c : Cx) (I : Im) (as : As) (p : List Nat × V) (e : DictEntry) : Prop :=
  (∃ t, e.key = .str ⟨p.1.toArray⟩ t) ∧ p.1.length ≤ big ∧ e.hash = PyData.keyHash c.w.params ⟨p.1.toArray⟩ ∧ VR c I as p.2 e.val

def KvR (c : Cx) (I : Im) (as : As) (p : List Nat × V) (q : Str × Value) : Prop := q.1 = ⟨p.1.toArray⟩ ∧ p.1.length ≤ big ∧ VR c I as p.2 q.2

inductive OR (c : Cx) (I : Im) (as : As) (h : Heap) : O → List Addr → Prop
  | dead (fp : List Addr) : OR c I as h .dead fp
  | list {a : Addr} {items : List Value} {n : Nat} {xs : List V} (e : h.get? a = some { cls := .type "list", data := .seq items.toArray n }) (r : All2 (VR c I as) xs items) (hl : xs.length ≤ big) : OR c I as h (.list xs) [a]
  | tuple {a : Addr} {items : List Value} {n : Nat} {xs : List V} (e : h.get? a = some { cls := .type "tuple", data := .seq items.toArray n }) (r : All2 (VR c I as) xs items) (hl : xs.length ≤ big) : OR c I as h (.tuple xs) [a]
  | dict {a : Addr} {kvs : List (Str × Value)} {xs : List (List Nat × V)} (e : h.DictAt (PySem.strKind c.prog c.w) a kvs xs.length) (r : All2 (KvR c I as) xs kvs) (hl : xs.length ≤ big) (hs : (a == sysModules) = false) : OR c I as h (.dict xs) [a]
  | inst {a d : Addr} {es : List DictEntry} {n : Nat} {sl : Array (Option Value)} {xs : List (List Nat × V)} (e : h.get? a = some { cls := .ref c.cls, dict := some d }) (ed : h.get? d = some { cls := .type "dict", data := .dict es.toArray n, slots := sl }) (r : All2 (EntR c I as) xs es) (hl : xs.length ≤ big) (nd : (xs.map (·.1)).Nodup) : OR c I as h (.inst xs) [a, d]
  | fit {a b : Addr} {i : Nat} {t : Tok} (e : h.get? a = some { cls := .type "callable_iterator", data := .fields #[.ref b, .str ⟨#[]⟩ t, .bool false] }) (r : VR c I as (.bm i) (.ref b)) : OR c I as h (.fit i false) [a]
  | over {a : Addr} {i : Nat} (e : h.get? a = some { cls := .type "callable_iterator", data := .fields #[.none, .none, .bool true] }) : OR c I as h (.fit i true) [a]
  | tab {m : Bool} {o : Obj} (e : h.get? c.tabAt = some o) (r : c.tabR I m o) : OR c I as h (.tab m) [c.tabAt]

structure Inv (c : Cx) (I : Im) (as : As) (H : List O) (s : Shared) : Prop where
  imm : Ext I s.heap
  base : ImLe c.base I
  len : as.length = H.length
  objs : ∀ (i : Nat) (o : O) (fp : List Addr), H[i]? = some o → as[i]? = some fp → OR c I as s.heap o fp
  nodup : as.flatten.Nodup
  out : ∀ a ∈ as.flatten, I a = none
  lt : ∀ a ∈ as.flatten, a < s.heap.objs.size
  gens : s.gens = #[]
  os : s.os = c.os

/-- one piece of a run: what it may change -/
structure Tr (fa : List Addr) (I : Im) (as : As) (s : Shared) (I' : Im) (as' : As) (s' : Shared) : Prop where
  imm : ImLe I I'
  immN : ∀ b o, I' b = some o → I b = some o ∨ s.heap.objs.size ≤ b ∨ b ∈ fa
  pre : ∃ ex, as' = as ++ ex
  fresh : ∀ a ∈ as'.flatten, a ∈ as.flatten ∨ s.heap.objs.size ≤ a
  kept : ∀ b o, s.heap.get? b = some o → b ∉ as.flatten → b ∉ fa → s'.heap.get? b = some o
  size : s.heap.objs.size ≤ s'.heap.objs.size

theorem Tr.refl (fa : List Addr) (I : Im) (as : As) (s : Shared) : Tr fa I as s I as s :=
  ⟨fun _ _ e => e, fun _ _ e => .inl e, ⟨[], by simp⟩, fun _ h => .inl h, fun _ _ e _ _ => e, Nat.le_refl _⟩

theorem Tr.trans {fa : List Addr} {I I' I'' : Im} {as as' as'' : As} {s s' s'' : Shared} (x : Tr fa I as s I' as' s') (y : Tr fa I' as' s' I'' as'' s'') : Tr fa I as s I'' as'' s'' := by
  refine ⟨fun b o e => y.imm b o (x.imm b o e), fun b o e => ?_, ?_, fun a h => ?_, fun b o e h1 h2 => ?_, Nat.le_trans x.size y.size⟩
  · rcases y.immN b o e with h | h | h
    · exact x.immN b o h
    · exact .inr (.inl (Nat.le_trans x.size h))
    · exact .inr (.inr h)
  · obtain ⟨e1, r1⟩ := x.pre
    obtain ⟨e2, r2⟩ := y.pre
    exact ⟨e1 ++ e2, by rw [r2, r1, List.append_assoc]⟩
  · rcases y.fresh a h with h | h
    · exact x.fresh a h
    · exact .inr (Nat.le_trans x.size h)
  · refine y.kept b o (x.kept b o e h1 h2) (fun h => ?_) h2
    rcases x.fresh b h with h | h
    · exact h1 h
    · exact Nat.lt_irrefl _ (Nat.lt_of_lt_of_le (Heap.lt_size e) h)

theorem Tr.weak {fa fa' : List Addr} {I I' : Im} {as as' : As} {s s' : Shared} (x : Tr fa I as s I' as' s') (h : ∀ a ∈ fa, a ∈ fa') : Tr fa' I as s I' as' s' :=
  ⟨x.imm, fun b o e => (x.immN b o e).imp id (Or.imp id (h b)), x.pre, x.fresh, fun b o e h1 h2 => x.kept b o e h1 fun q => h2 (h b q), x.size⟩
theorem Tr.nil {fa : List Addr} {I I' : Im} {as as' : As} {s s' : Shared} (x : Tr [] I as s I' as' s') : Tr fa I as s I' as' s' := x.weak fun _ h => nomatch h

theorem getElem?_append_some {α : Type} {l m : List α} {i : Nat} {x : α} (h : l[i]? = some x) : (l ++ m)[i]? = some x := by
  rw [List.getElem?_append_left]; exact h
  exact (List.getElem?_eq_some_iff.mp h).1

theorem VR.mono {c : Cx} {I I' : Im} {as ex : As} {v : V} {x : Value} (h : VR c I as v x) (hI : ImLe I I') : VR c I' (as ++ ex) v x := by
  cases h with
  | none => exact .none
  | bool b => exact .bool b
  | int i t => exact .int i t
  | inp t hm h => exact .inp t hm h
  | str t h => exact .str t h
  | ref h => exact .ref (getElem?_append_some h)
  | clo h hc hd hl => exact .clo (c.cloMono _ _ _ _ hI h) (hI _ _ hc) hd (getElem?_append_some hl)
  | bm h ha => exact .bm (hI _ _ h) (getElem?_append_some ha)
  | il h hc hd r hl => exact .il (hI _ _ h) hc hd r hl

theorem VR.tr {c : Cx} {fa : List Addr} {I I' : Im} {as as' : As} {s s' : Shared} {v : V} {x : Value} (h : VR c I as v x) (t : Tr fa I as s I' as' s') : VR c I' as' v x := by
  obtain ⟨ex, rfl⟩ := t.pre
  exact h.mono t.imm

theorem All2.imp {α β : Type} {R S : α → β → Prop} {l : List α} {m : List β} (h : All2 R l m) (f : ∀ a b, R a b → S a b) : All2 S l m := by
  induction h with
  | nil => exact .nil
  | cons h _ ih => exact .cons (f _ _ h) ih
theorem All2.length {α β : Type} {R : α → β → Prop} {l : List α} {m : List β} (h : All2 R l m) : l.length = m.length := by
  induction h with
  | nil => rfl
  | cons _ _ ih => simp [ih]
theorem All2.get {α β : Type} {R : α → β → Prop} {l : List α} {m : List β} (h : All2 R l m) : ∀ {i : Nat} {a : α}, l[i]? = some a → ∃ b, m[i]? = some b ∧ R a b := by
  induction h with
  | nil => intro i a e; simp at e
  | cons h _ ih =>
    intro i a e
    cases i with
    | zero => simp at e; subst e; exact ⟨_, rfl, h⟩
    | succ i => simp at e; simpa using ih e
theorem All2.append {α β : Type} {R : α → β → Prop} {l l' : List α} {m m' : List β} (h : All2 R l m) (h' : All2 R l' m') : All2 R (l ++ l') (m ++ m') := by
  induction h with
  | nil => exact h'
  | cons h _ ih => exact .cons h ih
theorem All2.take {α β : Type} {R : α → β → Prop} {l : List α} {m : List β} (h : All2 R l m) (k : Nat) : All2 R (l.take k) (m.take k) := by
  induction h generalizing k with
  | nil => simp; exact .nil
  | cons h _ ih => cases k with
    | zero => simp; exact .nil
    | succ k => simp; exact .cons h (ih k)
theorem All2.drop {α β : Type} {R : α → β → Prop} {l : List α} {m : List β} (h : All2 R l m) (k : Nat) : All2 R (l.drop k) (m.drop k) := by
  induction h generalizing k with
  | nil => simp; exact .nil
  | cons h t ih => cases k with
    | zero => exact .cons h t
    | succ k => simpa using ih k
theorem All2.set {α β : Type} {R : α → β → Prop} {l : List α} {m : List β} (h : All2 R l m) {a : α} {b : β} (hab : R a b) (k : Nat) : All2 R (l.set k a) (m.set k b) := by
  induction h generalizing k with
  | nil => simp; exact .nil
  | cons h t ih => cases k with
    | zero => exact .cons hab t
    | succ k => exact .cons h (ih k)

theorem EntR.mono {c : Cx} {I I' : Im} {as ex : As} {p : List Nat × V} {e : DictEntry} (h : EntR c I as p e) (hI : ImLe I I') : EntR c I' (as ++ ex) p e :=
  ⟨h.1, h.2.1, h.2.2.1, h.2.2.2.mono hI⟩

theorem OR.mono {c : Cx} {I I' : Im} {as ex : As} {h h' : Heap} {o : O} {fp : List Addr} (x : OR c I as h o fp) (hI : ImLe I I') (hk : ∀ a ∈ fp, ∀ ob, h.get? a = some ob → h'.get? a = some ob) : OR c I' (as ++ ex) h' o fp := by
  cases x with
  | dead => exact .dead _
  | list e r hl => exact .list (hk _ (by simp) _ e) (r.imp fun _ _ q => q.mono hI) hl
  | tuple e r hl => exact .tuple (hk _ (by simp) _ e) (r.imp fun _ _ q => q.mono hI) hl
  | dict e r hl hs => exact .dict (let ⟨o, es, ho, z⟩ := e; ⟨o, es, hk _ (by simp) _ ho, z⟩) (r.imp fun _ _ q => ⟨q.1, q.2.1, q.2.2.mono hI⟩) hl hs
  | inst e ed r hl nd => exact .inst (hk _ (by simp) _ e) (hk _ (by simp) _ ed) (r.imp fun _ _ q => q.mono hI) hl nd
  | fit e r => exact .fit (hk _ (by simp) _ e) (r.mono hI)
  | over e => exact .over (hk _ (by simp) _ e)
  | tab e r => exact .tab (hk _ (by simp) _ e) (c.tabMono _ _ _ _ hI r)

/-- room for calls -/
structure Rm (n : Nat) (A : Around) : Prop where
  handled : A.handled = none
  depth : A.depth + n ≤ 900
  units : A.units + 20 * n ≤ 9000

theorem Rm.le {n m : Nat} {A : Around} (h : Rm n A) (hm : m ≤ n) : Rm m A := ⟨h.handled, by have := h.depth; omega, by have := h.units; omega⟩
theorem Rm.deeper {n : Nat} {A : Around} (h : Rm (n + 1) A) (env : Env) : Rm n (A.deeper env) :=
  ⟨h.handled, by show A.depth + 1 + n ≤ 900; have := h.depth; omega, by show A.units + 3 + 20 * n ≤ 9000; have := h.units; omega⟩
theorem Rm.room {n : Nat} {A : Around} (h : Rm n A) : A.depth < recursionLimit := by have := h.depth; show A.depth < 1000; omega
theorem Rm.cl {n : Nat} {A : Around} (h : Rm n A) (k : Nat) (hk : k ≤ 800 := by decide) : A.units + k < cLine := by have := h.units; show A.units + k < 9900; omega

/-- a run of t keeps the relation and yields what the pure side says -/
abbrev Post (c : Cx) (fa : List Addr) {α β : Type} (R : Im → As → Shared → β → α → Prop) (I : Im) (as : As) (s : Shared) (b : β) (H' : List O) : α → Shared → Prop := fun a s' => ∃ I' as', Tr fa I as s I' as' s' ∧ Inv c I' as' H' s' ∧ R I' as' s' b a
abbrev NoE : Value → Shared → Prop := fun _ _ => False
def Ho (c : Cx) (n : Nat) (fa : List Addr) {α β : Type} (t : Sem α) (R : Im → As → Shared → β → α → Prop) (I : Im) (as : As) (s : Shared) (res : Option (β × List O)) : Prop :=
  ∀ b H', res = some (b, H') → ∀ A, Rm n A → wpAny (model c.prog c.w) A t (Post c fa R I as s b H') NoE s

abbrev VRs (c : Cx) : Im → As → Shared → V → Value → Prop := fun I as _ v x => VR c I as v x
abbrev BRs : Im → As → Shared → Bool → Bool → Prop := fun _ _ _ b b' => b' = b

@[reducible] def bnd {β γ : Type} (r : Option (β × List O)) (g : β → List O → Option (γ × List O)) : Option (γ × List O) := match r with
  | some (b, H) => g b H
  | none => none
theorem bnd_some {β γ : Type} {r : Option (β × List O)} {g : β → List O → Option (γ × List O)} {x : γ × List O} (h : bnd r g = some x) : ∃ b H, r = some (b, H) ∧ g b H = some x := by
  cases r with
  | none => cases h
  | some p => exact ⟨p.1, p.2, rfl, h⟩

theorem Ho.use {c : Cx} {n : Nat} {fa : List Addr} {α β : Type} {t : Sem α} {R : Im → As → Shared → β → α → Prop} {I : Im} {as : As} {s : Shared} {res : Option (β × List O)} {b : β} {H' : List O} {A : Around} {Q : α → Shared → Prop}
    (h : Ho c n fa t R I as s res) (hr : res = some (b, H')) (hA : Rm n A) (k : ∀ a s' I' as', Tr fa I as s I' as' s' → Inv c I' as' H' s' → R I' as' s' b a → Q a s') :
    wpAny (model c.prog c.w) A t Q (fun _ _ => False) s :=
  wpAny_mono (h b H' hr A hA) (fun a s' ⟨I', as', t, i, r⟩ => k a s' I' as' t i r) fun _ _ f => f

/-- the frame -/
def fAddrs (env : Env) : List Addr := env.locals :: env.cells.map (·.2)

structure LR (c : Cx) (env : Env) (lo : List V) (I : Im) (as : As) (s : Shared) : Prop where
  own : ∀ a ∈ fAddrs env, a < s.heap.objs.size ∧ a ∉ as.flatten ∧ I a = none
  loc : ∃ m, s.heap.Ns env.locals m ∧ ∀ (i : Nat) (x : Str) (v : V), env.scope.names[i]? = some (x, NameKind.local) → lo[i]? = some v → v ≠ .unb → ∃ val, m x = some val ∧ VR c I as v val
  cel : ∀ (i : Nat) (x : Str) (k : NameKind), env.scope.names[i]? = some (x, k) → (k = .cell ∨ k = .free) → ∃ a, env.cells.lookup x = some a ∧ ∃ cv, s.heap.IsCell a cv ∧ ∀ v, lo[i]? = some v → v ≠ .unb → ∃ val, cv = some val ∧ VR c I as v val
  nd : (fAddrs env).Nodup

structure EOk (env : Env) (sc : Scope) : Prop where
  scope : env.scope = sc
  kind : sc.kind = .function
  g : env.globals = mainGlobals
  b : env.builtins = builtinsNs
  nd : (sc.names.map (·.1)).Nodup

theorem mem_snd_of_lookup {env : Env} {x : Str} {a : Addr} (h : env.cells.lookup x = some a) : a ∈ fAddrs env :=
  List.mem_cons_of_mem _ (List.mem_map.mpr ⟨(x, a), mem_of_lookup h, rfl⟩)

theorem LR.trD {c : Cx} {env : Env} {lo : List V} {fa : List Addr} {I I' : Im} {as as' : As} {s s' : Shared} (x : LR c env lo I as s) (t : Tr fa I as s I' as' s') (hd : ∀ a ∈ fAddrs env, a ∉ fa) : LR c env lo I' as' s' := by
  have hk : ∀ a ∈ fAddrs env, ∀ o, s.heap.get? a = some o → s'.heap.get? a = some o := fun a ha o e => t.kept a o e (x.own a ha).2.1 (hd a ha)
  refine ⟨fun a ha => ?_, ?_, fun i y k e hk' => ?_, x.nd⟩
  · obtain ⟨h1, h2, h3⟩ := x.own a ha
    refine ⟨Nat.lt_of_lt_of_le h1 t.size, fun q => ?_, ?_⟩
    · rcases t.fresh a q with q | q
      · exact h2 q
      · exact absurd (Nat.lt_of_lt_of_le h1 q) (Nat.lt_irrefl _)
    · cases e : I' a with
      | none => rfl
      | some o => rcases t.immN a o e with q | q | q
                  · rw [h3] at q; cases q
                  · exact absurd (Nat.lt_of_lt_of_le h1 q) (Nat.lt_irrefl _)
                  · exact absurd q (hd a ha)
  · obtain ⟨m, hn, hm⟩ := x.loc
    refine ⟨m, hn.at' fun o e => hk _ (by simp [fAddrs]) o e, fun i y v e1 e2 e3 => ?_⟩
    obtain ⟨val, h1, h2⟩ := hm i y v e1 e2 e3
    exact ⟨val, h1, h2.tr t⟩
  · obtain ⟨a, hl, cv, ⟨o, ho, hd⟩, hv⟩ := x.cel i y k e hk'
    refine ⟨a, hl, cv, ⟨o, hk a (mem_snd_of_lookup hl) o ho, hd⟩, fun v e1 e2 => ?_⟩
    obtain ⟨val, h1, h2⟩ := hv v e1 e2
    exact ⟨val, h1, h2.tr t⟩
theorem LR.tr {c : Cx} {env : Env} {lo : List V} {I I' : Im} {as as' : As} {s s' : Shared} (x : LR c env lo I as s) (t : Tr [] I as s I' as' s') : LR c env lo I' as' s' := x.trD t fun _ _ q => nomatch q

abbrev Ef := List V → List O → Option (V × List O)
abbrev Tf := List V → List O → Option (Bool × List O)
inductive Fl where
  | next | cont | brk | ret (v : V)
abbrev Sf := List V → List O → Option ((Fl × List V) × List O)

inductive FlR (c : Cx) (I : Im) (as : As) : Fl → Flow → Prop
  | next : FlR c I as .next .next
  | cont : FlR c I as .cont .cont
  | brk : FlR c I as .brk .brk
  | ret {v : V} {x : Value} (h : VR c I as v x) : FlR c I as (.ret v) (.ret x)

/-- an expression's pure side -/
def ET (c : Cx) (n : Nat) (sc : Scope) (e : Expr) (f : Ef) : Prop :=
  ∀ env lo I as H s, EOk env sc → LR c env lo I as s → Inv c I as H s → Ho c n [] (eval e env) (VRs c) I as s (f lo H)
def TT (c : Cx) (n : Nat) (sc : Scope) (e : Expr) (f : Tf) : Prop :=
  ∀ env lo I as H s, EOk env sc → LR c env lo I as s → Inv c I as H s → Ho c n [] (isTrue e env (eval e env)) BRs I as s (f lo H)
def SRel (c : Cx) (env : Env) : Im → As → Shared → (Fl × List V) → Flow → Prop := fun I as s b fl => FlR c I as b.1 fl ∧ LR c env b.2 I as s
def ST (c : Cx) (n : Nat) (sc : Scope) (st : Stmt) (f : Sf) : Prop :=
  ∀ env lo I as H s, EOk env sc → LR c env lo I as s → Inv c I as H s → Ho c n (fAddrs env) (exec st env) (SRel c env) I as s (f lo H)
def SS (c : Cx) (n : Nat) (sc : Scope) (st : List Stmt) (f : Sf) : Prop :=
  ∀ env lo I as H s, EOk env sc → LR c env lo I as s → Inv c I as H s → Ho c n (fAddrs env) (execs st env) (SRel c env) I as s (f lo H)

/-- nothing but tokens turned -/
theorem Inv.toks {c : Cx} {I : Im} {as : As} {H : List O} {s : Shared} (x : Inv c I as H s) (k : Nat) : Inv c I as H { s with toks := k } :=
  ⟨x.imm, x.base, x.len, x.objs, x.nodup, x.out, x.lt, x.gens, x.os⟩
theorem Tr.toks (fa : List Addr) (I : Im) (as : As) (s : Shared) (k : Nat) : Tr fa I as s I as { s with toks := k } :=
  ⟨fun _ _ e => e, fun _ _ e => .inl e, ⟨[], by simp⟩, fun _ h => .inl h, fun _ _ e _ _ => e, Nat.le_refl _⟩

/-- the heap grown alone: garbage made -/
theorem Inv.grow {c : Cx} {I : Im} {as : As} {H : List O} {s : Shared} (x : Inv c I as H s) {h' : Heap} (k : Nat) (hz : s.heap.objs.size ≤ h'.objs.size) (hk : ∀ b o, s.heap.get? b = some o → h'.get? b = some o) : Inv c I as H { s with heap := h', toks := k } := by
  refine ⟨fun b o e => hk b o (x.imm b o e), x.base, x.len, fun i o fp e1 e2 => ?_, x.nodup, x.out, fun a h => Nat.lt_of_lt_of_le (x.lt a h) hz, x.gens, x.os⟩
  have := (x.objs i o fp e1 e2).mono (I' := I) (ex := []) (h' := h') (fun _ _ e => e) fun a _ ob e => hk a ob e
  simpa using this
theorem Tr.grow (fa : List Addr) (I : Im) (as : As) (s : Shared) {h' : Heap} (k : Nat) (hz : s.heap.objs.size ≤ h'.objs.size) (hk : ∀ b o, s.heap.get? b = some o → h'.get? b = some o) : Tr fa I as s I as { s with heap := h', toks := k } :=
  ⟨fun _ _ e => e, fun _ _ e => .inl e, ⟨[], by simp⟩, fun _ h => .inl h, fun b o e _ _ => hk b o e, hz⟩

/-! the heap never shrinks -/
theorem runs_size {M : Model} {Γ : Ctx} {p : Pos} {t : Sem Fin} {fs : List Frame} {s s' : Shared} {e : End} (h : Runs M Γ p t fs s e s') : s.heap.objs.size ≤ s'.heap.objs.size := by
  induction h <;> (try simp only [Shared.setGen, Heap.size_push, Heap.size_after_update] at *) <;> omega
theorem wakes_size {M : Model} {Γ : Ctx} {p : Pos} {g : Nat} {r : Resume} {s s' : Shared} {res : GenResult} (h : Wakes M Γ p g r s res s') : s.heap.objs.size ≤ s'.heap.objs.size := by
  unfold Wakes at h
  split at h
  · exact h.elim
  · split at h
    · obtain ⟨e₁, s₁, hr, _, _, rfl⟩ := h; exact (runs_size hr : (s.setGen g .running).heap.objs.size ≤ s₁.heap.objs.size)
    · rw [h.2]; exact Nat.le_refl _
    · rw [h.2]; exact Nat.le_refl _
  · obtain ⟨e₁, s₁, hr, _, _, rfl⟩ := h; exact (runs_size hr : (s.setGen g .running).heap.objs.size ≤ s₁.heap.objs.size)
  · rw [h.2]; exact Nat.le_refl _
  · rw [h.2]; exact Nat.le_refl _
theorem wp_size {α : Type} (M : Model) (Γ : Ctx) (n : Nat) (t : Sem α) : ∀ (Q : α → Pos → Shared → Prop) (E : Value → Pos → Shared → Prop) (p : Pos) (s : Shared), n ≤ s.heap.objs.size → Sem.wp M Γ t Q E p s →
    Sem.wp M Γ t (fun a p' s' => n ≤ s'.heap.objs.size ∧ Q a p' s') (fun e p' s' => n ≤ s'.heap.objs.size ∧ E e p' s') p s := by
  induction t with
  | pure a => intro Q E p s hn h; exact ⟨hn, h⟩
  | raise e => intro Q E p s hn h; exact ⟨hn, h⟩
  | unsupported _ => intro Q E p s _ h; exact h
  | finish _ => intro Q E p s _ h; exact h
  | rule _ k ih => intro Q E p s hn h; exact ih () Q E p s hn h
  | «at» p' k ih => intro Q E p s hn h; exact ih () Q E p' s hn h
  | load a _ k ih => intro Q E p s hn h; obtain ⟨o, ho, h⟩ := h; exact ⟨o, ho, ih o Q E p s hn h⟩
  | update a _ f k ih => intro Q E p s hn h; exact ⟨h.1, ih () Q E p _ (by show n ≤ (s.heap.update a f).objs.size; rw [Heap.size_after_update]; exact hn) h.2⟩
  | loadIfAlive a k ih => intro Q E p s hn h; exact ih _ Q E p s hn h
  | point _ k ih => intro Q E p s hn h; exact ih () Q E p s hn h
  | register _ _ => intro Q E p s _ h; exact h
  | alloc o k ih => intro Q E p s hn h; exact ih _ Q E p _ (by show n ≤ (s.heap.push o).objs.size; rw [Heap.size_push]; exact Nat.le_succ_of_le hn) h
  | fresh k ih => intro Q E p s hn h; exact ih _ Q E p _ hn h
  | ask k ih => intro Q E p s hn h; exact ih _ Q E p s hn h
  | choose src m k ih => intro Q E p s hn h; exact ⟨h.1, ih _ Q E p _ hn h.2⟩
  | os q _ k ih => intro Q E p s hn h; exact ih _ Q E p _ hn h
  | call c hd _ _ k ih => intro Q E p s hn h; obtain ⟨r, s', hr, h⟩ := h; exact ⟨r, s', hr, ih r Q E p s' (Nat.le_trans hn (runs_size hr)) h⟩
  | handled own k ih => intro Q E p s hn h; exact ih _ Q E p s hn h
  | genState g k ih => intro Q E p s hn h; obtain ⟨st, hs, h⟩ := h; exact ⟨st, hs, ih _ Q E p s hn h⟩
  | newGen c k ih => intro Q E p s hn h; exact ih _ Q E p _ hn h
  | resume g r _ k ih => intro Q E p s hn h; obtain ⟨res, s', hw, h⟩ := h; exact ⟨res, s', hw, ih res Q E p s' (Nat.le_trans hn (wakes_size hw)) h⟩
  | yield _ _ _ _ => intro Q E p s _ h; exact h
  | stack k ih => intro Q E p s hn h; exact ih _ Q E p s hn h
  | fork _ _ => intro Q E p s _ h; exact h
  | thread k ih => intro Q E p s hn h; exact ih _ Q E p s hn h
  | await _ _ _ _ _ => intro Q E p s _ h; exact h
theorem wpAny_with_size {α : Type} {M : Model} {A : Around} {s : Shared} {t : Sem α} {Q : α → Shared → Prop} {E : Value → Shared → Prop}
    (h : wpAny M A t (fun a s' => s.heap.objs.size ≤ s'.heap.objs.size → Q a s') (fun e s' => s.heap.objs.size ≤ s'.heap.objs.size → E e s') s) : wpAny M A t Q E s :=
  fun Γ p hΓ => Sem.wp_mono M Γ t (fun _ _ _ x => x.2 x.1) (fun _ _ _ x => x.2 x.1) p s (wp_size M Γ _ t _ _ p s (Nat.le_refl _) (h Γ p hΓ))
theorem wpAny_sized {α : Type} {M : Model} {A : Around} {s : Shared} {t : Sem α} {Q : α → Shared → Prop}
    (h : wpAny M A t (fun a s' => s.heap.objs.size ≤ s'.heap.objs.size → Q a s') (fun _ _ => False) s) : wpAny M A t Q (fun _ _ => False) s :=
  wpAny_with_size (wpAny_mono h (fun _ _ x => x) fun _ _ x => x.elim)

end
end Mine
-- part M1.lean
set_option autoImplicit false
set_option linter.unusedVariables false
namespace Mine
open PySem PySem.W PyProof.Rows
noncomputable section

/-! lists by their recursors: what the kernel runs fast -/
def nth {α : Type} (d : α) (l : List α) : Nat → α := List.rec (fun _ => d) (fun a _ ih i => Nat.rec a (fun j _ => ih j) i) l
theorem nth_eq {α : Type} (d : α) : ∀ (l : List α) (i : Nat), nth d l i = l.getD i d
  | [], _ => rfl
  | a :: l, 0 => rfl
  | a :: l, i + 1 => by show nth d l i = _; rw [nth_eq d l i]; simp
def setL {α β : Type} (l : List α) : Nat → α → (List α → β) → β := List.rec (fun _ _ k => k []) (fun a t ih i v k => Nat.rec (k (v :: t)) (fun j _ => ih j v (fun r => k (a :: r))) i) l
theorem setL_eq {α β : Type} : ∀ (l : List α) (i : Nat) (v : α) (k : List α → β), setL l i v k = k (l.set i v)
  | [], _, _, _ => rfl
  | a :: l, 0, _, _ => rfl
  | a :: l, i + 1, v, k => by show setL l i v (fun r => k (a :: r)) = _; rw [setL_eq l i v]; rfl

/-! names and constants -/
def eName (i : Nat) : Ef := fun lo H => V.casesOn (nth .unb lo i) none (some (.none, H)) (fun b => some (.bool b, H)) (fun i => some (.int i, H)) (fun a b => some (.inp a b, H)) (fun s => some (.str s, H)) (fun i => some (.ref i, H)) (fun i => some (.clo i, H)) (fun i => some (.bm i, H)) (fun i => some (.il i, H))
def eV (v : V) : Ef := fun _ H => some (v, H)

theorem eName_some {i : Nat} {lo : List V} {H H' : List O} {v : V} (h : eName i lo H = some (v, H')) : lo[i]? = some v ∧ v ≠ .unb ∧ H' = H := by
  unfold eName at h
  rw [nth_eq] at h
  cases e : lo[i]? with
  | none =>
    have : lo.getD i .unb = .unb := by rw [List.getD_eq_getElem?_getD, e]; rfl
    rw [this] at h; cases h
  | some w =>
    have : lo.getD i .unb = w := by rw [List.getD_eq_getElem?_getD, e]; rfl
    rw [this] at h
    cases w <;> cases h <;> exact ⟨rfl, (fun q => V.noConfusion q), rfl⟩

theorem ET.name {c : Cx} {n : Nat} {sc : Scope} {x : Str} {pos : Pos} (i : Nat) (hi : sc.names[i]? = some (x, .local)) (hl : sc.names.lookup x = some .local) (hd : (x == ("__debug__" : Str)) = false) :
    ET c n sc (.Name x pos) (eName i) := by
  intro env lo I as H s he L J v H' hr A hA
  obtain ⟨h1, h2, rfl⟩ := eName_some hr
  obtain ⟨m, hn, hm⟩ := L.loc
  obtain ⟨val, hv, hvr⟩ := hm i x v (by rw [he.scope]; exact hi) h1 h2
  exact wpAny_Name (wpAny_loadName_local (by rw [he.scope]; exact he.kind) (by show env.scope.names.lookup x = _; rw [he.scope]; exact hl) hn hv ⟨I, as, Tr.refl .., J, hvr⟩) hd
theorem ET.cell {c : Cx} {n : Nat} {sc : Scope} {x : Str} {pos : Pos} (i : Nat) (hi : sc.names[i]? = some (x, .cell)) (hl : sc.names.lookup x = some .cell) (hd : (x == ("__debug__" : Str)) = false) :
    ET c n sc (.Name x pos) (eName i) := by
  intro env lo I as H s he L J v H' hr A hA
  obtain ⟨h1, h2, rfl⟩ := eName_some hr
  obtain ⟨a, ha, cv, hc, hm⟩ := L.cel i x .cell (by rw [he.scope]; exact hi) (.inl rfl)
  obtain ⟨val, rfl, hvr⟩ := hm v h1 h2
  exact wpAny_Name (wpAny_loadName_cell (by rw [he.scope]; exact he.kind) (by show env.scope.names.lookup x = _; rw [he.scope]; exact hl) ha hc ⟨I, as, Tr.refl .., J, hvr⟩) hd
theorem ET.free {c : Cx} {n : Nat} {sc : Scope} {x : Str} {pos : Pos} (i : Nat) (hi : sc.names[i]? = some (x, .free)) (hl : sc.names.lookup x = some .free) (hd : (x == ("__debug__" : Str)) = false) (hn : (x == ("__classdict__" : Str)) = false) :
    ET c n sc (.Name x pos) (eName i) := by
  intro env lo I as H s he L J v H' hr A hA
  obtain ⟨h1, h2, rfl⟩ := eName_some hr
  obtain ⟨a, ha, cv, hc, hm⟩ := L.cel i x .free (by rw [he.scope]; exact hi) (.inr rfl)
  obtain ⟨val, rfl, hvr⟩ := hm v h1 h2
  exact wpAny_Name (wpAny_loadName_free (by rw [he.scope]; exact he.kind) (by show env.scope.names.lookup x = _; rw [he.scope]; exact hl) ha hc ⟨I, as, Tr.refl .., J, hvr⟩ hn) hd

theorem Inv.glob {c : Cx} {I : Im} {as : As} {H : List O} {s : Shared} (J : Inv c I as H s) : s.heap.Ns mainGlobals c.mg := c.g _ fun b o e => J.imm b o (J.base b o e)
theorem Inv.blt {c : Cx} {I : Im} {as : As} {H : List O} {s : Shared} (J : Inv c I as H s) : s.heap.Ns builtinsNs c.mb := c.b _ fun b o e => J.imm b o (J.base b o e)
theorem Inv.nolim {c : Cx} {I : Im} {as : As} {H : List O} {s : Shared} (J : Inv c I as H s) : s.heap.NoLimit := c.lim _ fun b o e => J.imm b o (J.base b o e)

/-- a global name as a machine value -/
theorem load_global {c : Cx} {sc : Scope} {env : Env} {I : Im} {as : As} {H : List O} {s : Shared} {x : Str} {pos : Pos} {A : Around} {v : Value} {Q : Value → Shared → Prop} {E : Value → Shared → Prop} (he : EOk env sc) (J : Inv c I as H s)
    (hl : sc.names.lookup x = some .globalImplicit) (hd : (x == ("__debug__" : Str)) = false) (hv : c.mg x = some v) (h : Q v s) : wpAny (model c.prog c.w) A (eval (.Name x pos) env) Q E s :=
  Calls.Name_function_global (by rw [he.scope]; exact he.kind) (by show env.scope.names.lookup x = _; rw [he.scope]; exact hl) (Calls.loadGlobal_global (by rw [he.g]; exact J.glob) hv h) hd
theorem load_builtin {c : Cx} {sc : Scope} {env : Env} {I : Im} {as : As} {H : List O} {s : Shared} {x : Str} {pos : Pos} {A : Around} {v : Value} {Q : Value → Shared → Prop} {E : Value → Shared → Prop} (he : EOk env sc) (J : Inv c I as H s)
    (hl : sc.names.lookup x = some .globalImplicit) (hd : (x == ("__debug__" : Str)) = false) (hg : c.mg x = none) (hv : c.mb x = some v) (h : Q v s) : wpAny (model c.prog c.w) A (eval (.Name x pos) env) Q E s :=
  Calls.Name_function_global (by rw [he.scope]; exact he.kind) (by show env.scope.names.lookup x = _; rw [he.scope]; exact hl) (Calls.loadGlobal_builtin (by rw [he.g]; exact J.glob) hg (by rw [he.b]; exact J.blt) hv h) hd

/-- a global that holds an int -/
theorem ET.gint {c : Cx} {n : Nat} {sc : Scope} {x : Str} {pos : Pos} (k : Int) (t : Tok) (hl : sc.names.lookup x = some .globalImplicit) (hd : (x == ("__debug__" : Str)) = false) (hv : c.mg x = some (.int k t)) :
    ET c n sc (.Name x pos) (eV (.int k)) := by
  intro env lo I as H s he L J v H' hr A hA
  cases hr
  exact load_global he J hl hd hv ⟨I, as, Tr.refl .., J, .int _ _⟩

theorem ET.intC {c : Cx} {n : Nat} {sc : Scope} {k : Int} {p : Nat} {pos : Pos} : ET c n sc (.Constant (.int k) p pos) (eV (.int k)) := by
  intro env lo I as H s he L J v H' hr A hA
  cases hr
  exact wpAny_Constant_int ⟨I, as, Tr.toks .., J.toks _, .int _ _⟩
theorem ET.strC {c : Cx} {n : Nat} {sc : Scope} {x : Str} {p : Nat} {pos : Pos} (l : List Nat) (hx : x = ⟨l.toArray⟩) (hl : Nat.ble l.length big = true) : ET c n sc (.Constant (.str x) p pos) (eV (.str l)) := by
  intro env lo I as H s he L J v H' hr A hA
  cases hr
  subst hx
  exact Calls.Constant_str ⟨I, as, Tr.toks .., J.toks _, .str _ (Nat.le_of_ble_eq_true hl)⟩
theorem ET.noneC {c : Cx} {n : Nat} {sc : Scope} {p : Nat} {pos : Pos} : ET c n sc (.Constant .none p pos) (eV .none) := by
  intro env lo I as H s he L J v H' hr A hA
  cases hr
  exact Constant_none ⟨I, as, Tr.refl .., J, .none⟩
theorem ET.boolC {c : Cx} {n : Nat} {sc : Scope} {b : Bool} {p : Nat} {pos : Pos} : ET c n sc (.Constant (.bool b) p pos) (eV (.bool b)) := by
  intro env lo I as H s he L J v H' hr A hA
  cases hr
  exact Constant_bool ⟨I, as, Tr.refl .., J, .bool _⟩

@[reducible] def ob {α β : Type} (x : Option α) (f : α → Option β) : Option β := match x with
  | some a => f a
  | none => none
theorem ob_some {α β : Type} {x : Option α} {f : α → Option β} {b : β} (h : ob x f = some b) : ∃ a, x = some a ∧ f a = some b := by
  cases x with
  | none => cases h
  | some a => exact ⟨a, rfl, h⟩
@[reducible] def gd {β : Type} (b : Bool) (x : Option β) : Option β := match b with
  | true => x
  | false => none
theorem gd_some {β : Type} {b : Bool} {x : Option β} {y : β} (h : gd b x = some y) : b = true ∧ x = some y := by
  cases b with
  | false => cases h
  | true => exact ⟨rfl, h⟩

/-! binary operators and comparisons -/
abbrev Bp := V → V → List O → Option (V × List O)
def PB (c : Cx) (n : Nat) (op : Value → Value → Sem Value) (p : Bp) : Prop :=
  ∀ a b x y I as H s, Inv c I as H s → VR c I as a x → VR c I as b y → Ho c n [] (op x y) (VRs c) I as s (p a b H)

def eBin (p : Bp) (f g : Ef) : Ef := fun lo H => bnd (f lo H) fun a H1 => bnd (g lo H1) fun b H2 => p a b H2

theorem ET.bin {c : Cx} {n : Nat} {sc : Scope} {l r : Expr} {op : Operator} {pos : Pos} {p : Bp} {f g : Ef} (hf : ET c n sc l f) (hg : ET c n sc r g) (hp : PB c n (binaryOp op) p) : ET c n sc (.BinOp l op r pos) (eBin p f g) := by
  intro env lo I as H s he L J v H' hr A hA
  obtain ⟨a, H1, e1, hr⟩ := bnd_some hr
  obtain ⟨b, H2, e2, hr⟩ := bnd_some hr
  refine wpAny_BinOp ((hf env lo I as H s he L J).use e1 hA fun x s1 I1 as1 T1 J1 R1 => (hg env lo I1 as1 H1 s1 he (L.tr T1) J1).use e2 hA fun y s2 I2 as2 T2 J2 R2 => ?_)
  exact (hp a b x y I2 as2 H2 s2 J2 (R1.tr T2) R2).use hr hA fun z s3 I3 as3 T3 J3 R3 => ⟨I3, as3, T1.trans (T2.trans T3), J3, R3⟩

theorem ET.cmp {c : Cx} {n : Nat} {sc : Scope} {l r : Expr} {op : CmpOp} {pos : Pos} {p : Bp} {f g : Ef} (hf : ET c n sc l f) (hg : ET c n sc r g) (hp : PB c n (compareOp op) p) (hm : behindInMarks op r = false) : ET c n sc (.Compare l [op] [r] pos) (eBin p f g) := by
  intro env lo I as H s he L J v H' hr A hA
  obtain ⟨a, H1, e1, hr⟩ := bnd_some hr
  obtain ⟨b, H2, e2, hr⟩ := bnd_some hr
  refine wpAny_Compare1 ((hf env lo I as H s he L J).use e1 hA fun x s1 I1 as1 T1 J1 R1 => (hg env lo I1 as1 H1 s1 he (L.tr T1) J1).use e2 hA fun y s2 I2 as2 T2 J2 R2 => ?_) hm
  exact (hp a b x y I2 as2 H2 s2 J2 (R1.tr T2) R2).use hr hA fun z s3 I3 as3 T3 J3 R3 => ⟨I3, as3, T1.trans (T2.trans T3), J3, R3⟩

/-! truth -/
def asList (H : List O) (i : Nat) : Option (List V) := O.casesOn (nth .dead H i) none (fun xs => some xs) (fun _ => none) (fun _ => none) (fun _ => none) (fun _ _ => none) (fun _ => none)
def asTup (H : List O) (i : Nat) : Option (List V) := O.casesOn (nth .dead H i) none (fun _ => none) (fun xs => some xs) (fun _ => none) (fun _ => none) (fun _ _ => none) (fun _ => none)
def asDict (H : List O) (i : Nat) : Option (List (List Nat × V)) := O.casesOn (nth .dead H i) none (fun _ => none) (fun _ => none) (fun xs => some xs) (fun _ => none) (fun _ _ => none) (fun _ => none)
def asInst (H : List O) (i : Nat) : Option (List (List Nat × V)) := O.casesOn (nth .dead H i) none (fun _ => none) (fun _ => none) (fun _ => none) (fun xs => some xs) (fun _ _ => none) (fun _ => none)
theorem nth_dead {H : List O} {i : Nat} {o : O} (h : nth .dead H i = o) (ho : o ≠ .dead) : H[i]? = some o := by
  rw [nth_eq, List.getD_eq_getElem?_getD] at h
  cases e : H[i]? with
  | none => rw [e] at h; exact absurd h.symm ho
  | some x => rw [e] at h; exact congrArg some h
theorem asList_some {H : List O} {i : Nat} {xs : List V} (h : asList H i = some xs) : H[i]? = some (.list xs) := by
  unfold asList at h
  cases e : nth .dead H i <;> rw [e] at h <;> cases h
  exact nth_dead e (fun q => O.noConfusion q)
theorem asTup_some {H : List O} {i : Nat} {xs : List V} (h : asTup H i = some xs) : H[i]? = some (.tuple xs) := by
  unfold asTup at h
  cases e : nth .dead H i <;> rw [e] at h <;> cases h
  exact nth_dead e (fun q => O.noConfusion q)
theorem asDict_some {H : List O} {i : Nat} {xs : List (List Nat × V)} (h : asDict H i = some xs) : H[i]? = some (.dict xs) := by
  unfold asDict at h
  cases e : nth .dead H i <;> rw [e] at h <;> cases h
  exact nth_dead e (fun q => O.noConfusion q)

theorem asInst_some {H : List O} {i : Nat} {xs : List (List Nat × V)} (h : asInst H i = some xs) : H[i]? = some (.inst xs) := by
  unfold asInst at h
  cases e : nth .dead H i <;> rw [e] at h <;> cases h
  exact nth_dead e (fun q => O.noConfusion q)

def isCons {α : Type} : List α → Bool
  | [] => false
  | _ :: _ => true
def truth : V → List O → Option (Bool × List O)
  | .bool b, H => some (b, H)
  | .none, H => some (false, H)
  | .int i, H => some (i != 0, H)
  | .str l, H => some (isCons l, H)
  | .ref i, H => match asList H i with
    | some xs => some (isCons xs, H)
    | none => match asTup H i with
      | some xs => some (isCons xs, H)
      | none => none
  | _, _ => none

theorem nonempty_beq {α : Type} (l : List α) : ((l.length : Int) != 0) = isCons l := by
  cases l with
  | nil => rfl
  | cons a l => show (((l.length + 1 : Nat) : Int) != 0) = true; exact bne_iff_ne.mpr (by omega)
theorem nonempty_isEmpty {α : Type} (l : List α) : (!l.toArray.isEmpty) = isCons l := by
  cases l <;> rfl
theorem All2.isCons {α β : Type} {R : α → β → Prop} {l : List α} {m : List β} (h : All2 R l m) : isCons m = isCons l := by cases h <;> rfl

theorem Inv.obj {c : Cx} {I : Im} {as : As} {H : List O} {s : Shared} (J : Inv c I as H s) {i : Nat} {o : O} {a : Addr} {fp : List Addr} (ha : as[i]? = some (a :: fp)) (ho : H[i]? = some o) : OR c I as s.heap o (a :: fp) := J.objs i o _ ho ha

theorem or_list {c : Cx} {I : Im} {as : As} {h : Heap} {xs : List V} {a : Addr} {fp : List Addr} (R : OR c I as h (.list xs) (a :: fp)) : ∃ (items : List Value) (n : Nat), fp = [] ∧ h.get? a = some { cls := .type "list", data := .seq items.toArray n } ∧ All2 (VR c I as) xs items ∧ xs.length ≤ big := by
  cases R with | @list _ items n _ e r hl => exact ⟨items, n, rfl, e, r, hl⟩
theorem or_dict {c : Cx} {I : Im} {as : As} {h : Heap} {xs : List (List Nat × V)} {a : Addr} {fp : List Addr} (R : OR c I as h (.dict xs) (a :: fp)) : ∃ kvs, fp = [] ∧ h.DictAt (PySem.strKind c.prog c.w) a kvs xs.length ∧ All2 (KvR c I as) xs kvs ∧ xs.length ≤ big ∧ (a == sysModules) = false := by
  cases R with | @dict _ kvs _ e r hl hs => exact ⟨kvs, rfl, e, r, hl, hs⟩
theorem or_tup {c : Cx} {I : Im} {as : As} {h : Heap} {xs : List V} {a : Addr} {fp : List Addr} (R : OR c I as h (.tuple xs) (a :: fp)) : ∃ (items : List Value) (n : Nat), fp = [] ∧ h.get? a = some { cls := .type "tuple", data := .seq items.toArray n } ∧ All2 (VR c I as) xs items ∧ xs.length ≤ big := by
  cases R with | @tuple _ items n _ e r hl => exact ⟨items, n, rfl, e, r, hl⟩
theorem isTup_of {h : Heap} {a : Addr} {items : List Value} {n : Nat} (e : h.get? a = some { cls := .type "tuple", data := .seq items.toArray n }) : IsTup h a items.toArray := ⟨_, e, rfl, n, rfl⟩
theorem isList_of {h : Heap} {a : Addr} {items : List Value} {n : Nat} (e : h.get? a = some { cls := .type "list", data := .seq items.toArray n }) : h.IsList a items.toArray := ⟨_, e, rfl, n, rfl⟩

theorem truth_sound (c : Cx) (n : Nat) (v : V) (x : Value) (I : Im) (as : As) (H : List O) (s : Shared) (J : Inv c I as H s) (R : VR c I as v x) : Ho c n [] (truthy x) BRs I as s (truth v H) := by
  intro b H' hr A hA
  cases R with
  | none => cases hr; exact truthy_none ⟨I, as, Tr.refl .., J, rfl⟩
  | bool b => cases hr; exact wpAny_truthy_bool ⟨I, as, Tr.refl .., J, rfl⟩
  | int i t => cases hr; exact truthy_int ⟨I, as, Tr.refl .., J, rfl⟩
  | inp => cases hr
  | @str l t h =>
    cases hr
    have hb : l.length ≤ 1000000 := h
    refine P.truthy_str (by show ¬ ((l.toArray.size : Int) ≥ 2 ^ 63); simp only [List.size_toArray]; omega) ⟨I, as, Tr.toks .., J.toks _, ?_⟩
    show ((l.toArray.size : Int) != 0) = _
    rw [List.size_toArray]; exact nonempty_beq l
  | @ref i a fp h =>
    change (match asList H i with
      | some xs => some (isCons xs, H)
      | none => match asTup H i with
        | some xs => some (isCons xs, H)
        | none => none) = some (b, H') at hr
    cases e1 : asList H i with
    | some xs =>
      rw [e1] at hr; cases hr
      obtain ⟨items, _, rfl, e, r, hl⟩ := or_list (J.obj h (asList_some e1))
      have hz := r.length
      have hb : xs.length ≤ 1000000 := hl
      refine wpAny_truthy_list (isList_of e) (by simp only [List.size_toArray]; omega) ⟨I, as, Tr.toks .., J.toks _, ?_⟩
      exact (nonempty_isEmpty items).trans r.isCons
    | none =>
      rw [e1] at hr
      cases e2 : asTup H i with
      | none => rw [e2] at hr; cases hr
      | some xs =>
        rw [e2] at hr; cases hr
        obtain ⟨items, _, rfl, e, r, hl⟩ := or_tup (J.obj h (asTup_some e2))
        have hz := r.length
        have hb : xs.length ≤ 1000000 := hl
        refine truthy_tuple (isTup_of e) (by simp only [List.size_toArray]; omega) ⟨I, as, Tr.toks .., J.toks _, ?_⟩
        exact (nonempty_isEmpty items).trans r.isCons
  | clo => cases hr
  | bm => cases hr
  | il => cases hr

theorem vr_int {c : Cx} {I : Im} {as : As} {i : Int} {x : Value} (R : VR c I as (.int i) x) : ∃ t, x = .int i t := by cases R; exact ⟨_, rfl⟩
theorem vr_str {c : Cx} {I : Im} {as : As} {l : List Nat} {x : Value} (R : VR c I as (.str l) x) : ∃ t, x = .str ⟨l.toArray⟩ t ∧ l.length ≤ big := by cases R with | str t h => exact ⟨t, rfl, h⟩
theorem vr_ref {c : Cx} {I : Im} {as : As} {i : Nat} {x : Value} (R : VR c I as (.ref i) x) : ∃ a fp, x = .ref a ∧ as[i]? = some (a :: fp) := by cases R with | ref h => exact ⟨_, _, rfl, h⟩
theorem all2_0 {α β : Type} {R : α → β → Prop} {ys : List β} (h : All2 R [] ys) : ys = [] := by cases h; rfl
theorem all2_1 {α β : Type} {R : α → β → Prop} {a : α} {ys : List β} (h : All2 R [a] ys) : ∃ x, ys = [x] ∧ R a x := by cases h with | cons r t => exact ⟨_, by rw [all2_0 t], r⟩
theorem all2_2 {α β : Type} {R : α → β → Prop} {a b : α} {ys : List β} (h : All2 R [a, b] ys) : ∃ x y, ys = [x, y] ∧ R a x ∧ R b y := by
  cases h with
  | cons r t => obtain ⟨y, h1, h2⟩ := all2_1 t; exact ⟨_, _, by rw [h1], r, h2⟩
theorem all2_3 {α β : Type} {R : α → β → Prop} {a b d : α} {ys : List β} (h : All2 R [a, b, d] ys) : ∃ x y z, ys = [x, y, z] ∧ R a x ∧ R b y ∧ R d z := by
  cases h with
  | cons r t => obtain ⟨y, z, h1, h2, h3⟩ := all2_2 t; exact ⟨_, _, _, by rw [h1], r, h2, h3⟩

/-! readers of values, told by their casesOn alone -/
def isI : V → Option Int := fun v => V.casesOn v none none (fun _ => none) (fun i => some i) (fun _ _ => none) (fun _ => none) (fun _ => none) (fun _ => none) (fun _ => none) (fun _ => none)
def isS : V → Option (List Nat) := fun v => V.casesOn v none none (fun _ => none) (fun _ => none) (fun _ _ => none) (fun l => some l) (fun _ => none) (fun _ => none) (fun _ => none) (fun _ => none)
def isR : V → Option Nat := fun v => V.casesOn v none none (fun _ => none) (fun _ => none) (fun _ _ => none) (fun _ => none) (fun i => some i) (fun _ => none) (fun _ => none) (fun _ => none)
def isN : V → Option (Nat × Nat) := fun v => V.casesOn v none none (fun _ => none) (fun _ => none) (fun r m => some (r, m)) (fun _ => none) (fun _ => none) (fun _ => none) (fun _ => none) (fun _ => none)
theorem isI_some {v : V} {i : Int} (h : isI v = some i) : v = .int i := by cases v <;> cases h; rfl
theorem isS_some {v : V} {l : List Nat} (h : isS v = some l) : v = .str l := by cases v <;> cases h; rfl
theorem isR_some {v : V} {i : Nat} (h : isR v = some i) : v = .ref i := by cases v <;> cases h; rfl
theorem isN_some {v : V} {p : Nat × Nat} (h : isN v = some p) : v = .inp p.1 p.2 := by cases v <;> cases h; rfl
def isB : V → Option Nat := fun v => V.casesOn v none none (fun _ => none) (fun _ => none) (fun _ _ => none) (fun _ => none) (fun _ => none) (fun _ => none) (fun i => some i) (fun _ => none)
def isL : V → Option (List (Nat × Nat)) := fun v => V.casesOn v none none (fun _ => none) (fun _ => none) (fun _ _ => none) (fun _ => none) (fun _ => none) (fun _ => none) (fun _ => none) (fun l => some l)
theorem isB_some {v : V} {i : Nat} (h : isB v = some i) : v = .bm i := by cases v <;> cases h; rfl
theorem isL_some {v : V} {l : List (Nat × Nat)} (h : isL v = some l) : v = .il l := by cases v <;> cases h; rfl
theorem vr_bm {c : Cx} {I : Im} {as : As} {i : Nat} {x : Value} (R : VR c I as (.bm i) x) : ∃ b a fp, x = .ref b ∧ I b = some { cls := .type "method", data := .fields #[.ref c.fnRead, .ref a] } ∧ as[i]? = some (a :: fp) := by cases R with | bm h ha => exact ⟨_, _, _, rfl, h, ha⟩
theorem vr_il {c : Cx} {I : Im} {as : As} {xs : List (Nat × Nat)} {x : Value} (R : VR c I as (.il xs) x) : ∃ a items n o, x = .ref a ∧ I a = some o ∧ o.cls = .type "list" ∧ o.data = .seq (List.toArray items) n ∧ All2 InpR xs items ∧ xs.length ≤ big := by cases R with | il h hc hd r hl => exact ⟨_, _, _, _, rfl, h, hc, hd, r, hl⟩
theorem or_fit {c : Cx} {I : Im} {as : As} {h : Heap} {i : Nat} {a : Addr} {fp : List Addr} (R : OR c I as h (.fit i false) (a :: fp)) : ∃ b t, fp = [] ∧ h.get? a = some { cls := .type "callable_iterator", data := .fields #[.ref b, .str ⟨#[]⟩ t, .bool false] } ∧ VR c I as (.bm i) (.ref b) := by
  cases R with | @fit _ b _ t e r => exact ⟨b, t, rfl, e, r⟩
theorem or_over {c : Cx} {I : Im} {as : As} {h : Heap} {i : Nat} {a : Addr} {fp : List Addr} (R : OR c I as h (.fit i true) (a :: fp)) : fp = [] ∧ h.get? a = some { cls := .type "callable_iterator", data := .fields #[.none, .none, .bool true] } := by
  cases R with | over e => exact ⟨rfl, e⟩
def natOf : Int → Option Nat := fun i => Int.casesOn i (fun k => some k) (fun _ => none)
theorem natOf_some {i : Int} {k : Nat} (h : natOf i = some k) : i = .ofNat k := by cases i <;> cases h; rfl
def prevN : Nat → Option Nat := fun k => Nat.casesOn k none (fun d => some d)
theorem prevN_some {k d : Nat} (h : prevN k = some d) : k = d + 1 := by cases k <;> cases h; rfl
def isNil {α : Type} : List α → Bool := fun l => List.casesOn l true (fun _ _ => false)
theorem isNil_ok {α : Type} {l : List α} (h : isNil l = true) : l = [] := by cases l <;> cases h; rfl
def uncons {α : Type} : List α → Option (α × List α) := fun l => List.casesOn l none (fun a t => some (a, t))
theorem uncons_some {α : Type} {l : List α} {p : α × List α} (h : uncons l = some p) : l = p.1 :: p.2 := by cases l <;> cases h; rfl
def one {α : Type} (vs : List α) : Option α := ob (uncons vs) fun p => gd (isNil p.2) (some p.1)
theorem one_some {α : Type} {vs : List α} {a : α} (h : one vs = some a) : vs = [a] := by
  obtain ⟨p, h1, h⟩ := ob_some h
  obtain ⟨h2, h⟩ := gd_some h
  cases h
  rw [uncons_some h1, isNil_ok h2]
def two' {α : Type} (vs : List α) : Option (α × α) := ob (uncons vs) fun p => ob (one p.2) fun b => some (p.1, b)
theorem two'_some {α : Type} {vs : List α} {p : α × α} (h : two' vs = some p) : vs = [p.1, p.2] := by
  obtain ⟨q, h1, h⟩ := ob_some h
  obtain ⟨b, h2, h⟩ := ob_some h
  cases h
  rw [uncons_some h1, one_some h2]
def three' {α : Type} (vs : List α) : Option (α × α × α) := ob (uncons vs) fun p => ob (two' p.2) fun q => some (p.1, q)
theorem three'_some {α : Type} {vs : List α} {p : α × α × α} (h : three' vs = some p) : vs = [p.1, p.2.1, p.2.2] := by
  obtain ⟨q, h1, h⟩ := ob_some h
  obtain ⟨b, h2, h⟩ := ob_some h
  cases h
  rw [uncons_some h1, two'_some h2]

end
end Mine
-- part M2.lean
set_option autoImplicit false
set_option linter.unusedVariables false
namespace Mine
open PySem PySem.W PyProof.Rows
noncomputable section

/-! tests -/
def tOf (f : Ef) : Tf := fun lo H => bnd (f lo H) fun v H1 => truth v H1

theorem TT.plain {c : Cx} {n : Nat} {sc : Scope} {e : Expr} {f : Ef} (hf : ET c n sc e f)
    (he : ∀ env, isTrue e env (eval e env) = (do let v ← eval e env; standAt e.pos; holding [v] (truthy v))) : TT c n sc e (tOf f) := by
  intro env lo I as H s ho L J b H' hr A hA
  obtain ⟨a, H1, e1, hr⟩ := bnd_some hr
  refine isTrue_plain ((hf env lo I as H s ho L J).use e1 hA fun x s1 I1 as1 T1 J1 R1 => ?_) (he env)
  exact (truth_sound c n a x I1 as1 H1 s1 J1 R1).use hr hA fun z s3 I3 as3 T3 J3 R3 => ⟨I3, as3, T1.trans T3, J3, R3⟩
theorem TT.cmp {c : Cx} {n : Nat} {sc : Scope} {l r : Expr} {op : CmpOp} {pos : Pos} {p : Bp} {f g : Ef} (hf : ET c n sc l f) (hg : ET c n sc r g) (hp : PB c n (compareOp op) p) (hm : behindInMarks op r = false) : TT c n sc (.Compare l [op] [r] pos) (tOf (eBin p f g)) := by
  intro env lo I as H s he L J v H' hr A hA
  obtain ⟨d, H3, hr, ht⟩ := bnd_some hr
  obtain ⟨a, H1, e1, hr⟩ := bnd_some hr
  obtain ⟨b, H2, e2, hr⟩ := bnd_some hr
  refine wpAny_isTrue_Compare1 ((hf env lo I as H s he L J).use e1 hA fun x s1 I1 as1 T1 J1 R1 => (hg env lo I1 as1 H1 s1 he (L.tr T1) J1).use e2 hA fun y s2 I2 as2 T2 J2 R2 => ?_) hm
  refine (hp a b x y I2 as2 H2 s2 J2 (R1.tr T2) R2).use hr hA fun z s3 I3 as3 T3 J3 R3 => ?_
  exact (truth_sound c n d z I3 as3 H3 s3 J3 R3).use ht hA fun z s4 I4 as4 T4 J4 R4 => ⟨I4, as4, T1.trans (T2.trans (T3.trans T4)), J4, R4⟩

def tNot (f : Tf) : Tf := fun lo H => bnd (f lo H) fun b H1 => some (!b, H1)
theorem TT.not {c : Cx} {n : Nat} {sc : Scope} {e : Expr} {pos : Pos} {f : Tf} (hf : TT c n sc e f) : TT c n sc (.UnaryOp .Not e pos) (tNot f) := by
  intro env lo I as H s ho L J b H' hr A hA
  obtain ⟨a, H1, e1, hr⟩ := bnd_some hr
  cases hr
  exact isTrue_not ((hf env lo I as H s ho L J).use e1 hA fun x s1 I1 as1 T1 J1 R1 => ⟨I1, as1, T1, J1, by rw [R1]⟩)
def tAnd (f g : Tf) : Tf := fun lo H => bnd (f lo H) fun b H1 => match b with
  | true => g lo H1
  | false => some (false, H1)
def tOr (f g : Tf) : Tf := fun lo H => bnd (f lo H) fun b H1 => match b with
  | true => some (true, H1)
  | false => g lo H1
def tTrue : Tf := fun _ H => some (true, H)
def tFalse : Tf := fun _ H => some (false, H)
/-- the rest of an and | or -/
theorem TT.andNil {c : Cx} {n : Nat} {sc : Scope} {pos : Pos} : TT c n sc (.BoolOp .And [] pos) tTrue := by
  intro env lo I as H s ho L J b H' hr A hA
  cases hr
  exact isTrue_and_nil ⟨I, as, Tr.refl .., J, rfl⟩
theorem TT.orNil {c : Cx} {n : Nat} {sc : Scope} {pos : Pos} : TT c n sc (.BoolOp .Or [] pos) tFalse := by
  intro env lo I as H s ho L J b H' hr A hA
  cases hr
  exact isTrue_or_nil ⟨I, as, Tr.refl .., J, rfl⟩
theorem isTrue_any_whole {op : BoolOp} {es : List Expr} {pos : Pos} {env : Env} (w1 w2 : Sem Value) : isTrue (.BoolOp op es pos) env w1 = isTrue (.BoolOp op es pos) env w2 := rfl
theorem TT.and {c : Cx} {n : Nat} {sc : Scope} {e : Expr} {es : List Expr} {pos : Pos} {f g : Tf} (hf : TT c n sc e f) (hg : TT c n sc (.BoolOp .And es pos) g) : TT c n sc (.BoolOp .And (e :: es) pos) (tAnd f g) := by
  intro env lo I as H s ho L J b H' hr A hA
  obtain ⟨a, H1, e1, hr⟩ := bnd_some hr
  refine isTrue_and ((hf env lo I as H s ho L J).use e1 hA fun x s1 I1 as1 T1 J1 R1 => ?_)
  cases R1
  cases a with
  | false => cases hr; exact ⟨I1, as1, T1, J1, rfl⟩
  | true =>
    rw [if_pos rfl, isTrue_any_whole _ (eval (.BoolOp .And es pos) env)]
    exact (hg env lo I1 as1 H1 s1 ho (L.tr T1) J1).use hr hA fun x s2 I2 as2 T2 J2 R2 => ⟨I2, as2, T1.trans T2, J2, R2⟩
theorem TT.or {c : Cx} {n : Nat} {sc : Scope} {e : Expr} {es : List Expr} {pos : Pos} {f g : Tf} (hf : TT c n sc e f) (hg : TT c n sc (.BoolOp .Or es pos) g) : TT c n sc (.BoolOp .Or (e :: es) pos) (tOr f g) := by
  intro env lo I as H s ho L J b H' hr A hA
  obtain ⟨a, H1, e1, hr⟩ := bnd_some hr
  refine isTrue_or ((hf env lo I as H s ho L J).use e1 hA fun x s1 I1 as1 T1 J1 R1 => ?_)
  cases R1
  cases a with
  | true => cases hr; exact ⟨I1, as1, T1, J1, rfl⟩
  | false =>
    rw [if_neg Bool.false_ne_true, isTrue_any_whole _ (eval (.BoolOp .Or es pos) env)]
    exact (hg env lo I1 as1 H1 s1 ho (L.tr T1) J1).use hr hA fun x s2 I2 as2 T2 J2 R2 => ⟨I2, as2, T1.trans T2, J2, R2⟩

/-! value forms of or, conditional expressions -/
def eOr (f g : Ef) : Ef := fun lo H => bnd (f lo H) fun v H1 => bnd (truth v H1) fun b H2 => match b with
  | true => some (v, H2)
  | false => g lo H2
theorem ET.or {c : Cx} {n : Nat} {sc : Scope} {e e' : Expr} {pos : Pos} {f g : Ef} (hf : ET c n sc e f) (hg : ET c n sc e' g) : ET c n sc (.BoolOp .Or [e, e'] pos) (eOr f g) := by
  intro env lo I as H s ho L J b H' hr A hA
  obtain ⟨v, H1, e1, hr⟩ := bnd_some hr
  obtain ⟨d, H2, e2, hr⟩ := bnd_some hr
  refine BoolOp_or ((hf env lo I as H s ho L J).use e1 hA fun x s1 I1 as1 T1 J1 R1 => (truth_sound c n v x I1 as1 H1 s1 J1 R1).use e2 hA fun z s2 I2 as2 T2 J2 R2 => ?_)
  cases R2
  cases d with
  | true => cases hr; exact ⟨I2, as2, T1.trans T2, J2, R1.tr T2⟩
  | false =>
    rw [if_neg Bool.false_ne_true]
    exact BoolOp_one ((hg env lo I2 as2 H2 s2 ho ((L.tr T1).tr T2) J2).use hr hA fun x s3 I3 as3 T3 J3 R3 => ⟨I3, as3, T1.trans (T2.trans T3), J3, R3⟩)
def eIf (t : Tf) (f g : Ef) : Ef := fun lo H => bnd (t lo H) fun b H1 => match b with
  | true => f lo H1
  | false => g lo H1
theorem ET.ifExp {c : Cx} {n : Nat} {sc : Scope} {t e e' : Expr} {pos : Pos} {q : Tf} {f g : Ef} (hq : TT c n sc t q) (hf : ET c n sc e f) (hg : ET c n sc e' g) : ET c n sc (.IfExp t e e' pos) (eIf q f g) := by
  intro env lo I as H s ho L J b H' hr A hA
  obtain ⟨d, H1, e1, hr⟩ := bnd_some hr
  refine IfExp_ ((hq env lo I as H s ho L J).use e1 hA fun x s1 I1 as1 T1 J1 R1 => ?_)
  cases R1
  cases d with
  | true => rw [if_pos rfl]; exact (hf env lo I1 as1 H1 s1 ho (L.tr T1) J1).use hr hA fun x s2 I2 as2 T2 J2 R2 => ⟨I2, as2, T1.trans T2, J2, R2⟩
  | false => rw [if_neg Bool.false_ne_true]; exact (hg env lo I1 as1 H1 s1 ho (L.tr T1) J1).use hr hA fun x s2 I2 as2 T2 J2 R2 => ⟨I2, as2, T1.trans T2, J2, R2⟩

/-! int and text operators -/
theorem strAppend (a b : List Nat) : (⟨a.toArray⟩ : Str) ++ (⟨b.toArray⟩ : Str) = ⟨(a ++ b).toArray⟩ := by
  show Str.append _ _ = _
  simp [Str.append]
theorem strBeq (a b : List Nat) : ((⟨a.toArray⟩ : Str) == (⟨b.toArray⟩ : Str)) = (a == b) := by
  rw [← toList_beq]
theorem strBne (a b : List Nat) : ((⟨a.toArray⟩ : Str) != (⟨b.toArray⟩ : Str)) = (a != b) := by
  rw [← toList_bne]

theorem big_le : big ≤ sizeLine := by decide
theorem fresh_none (h : Heap) : h.get? h.objs.size = none := by
  cases e : h.get? h.objs.size with
  | none => rfl
  | some o => exact absurd (Heap.lt_size e) (Nat.lt_irrefl _)
/-- new object -/
theorem Inv.alloc {c : Cx} {I : Im} {as : As} {H : List O} {s : Shared} (J : Inv c I as H s) (ob : Obj) (o : O) (k : Nat) (hf : ob.isFreed = false) (hr : OR c I (as ++ [[s.heap.objs.size]]) (s.heap.push ob) o [s.heap.objs.size]) :
    Inv c I (as ++ [[s.heap.objs.size]]) (H ++ [o]) { s with heap := s.heap.push ob, toks := k } := by
  have hk : ∀ b o', s.heap.get? b = some o' → (s.heap.push ob).get? b = some o' := fun b o' e => Heap.get?_push_of_some _ e
  refine ⟨fun b o e => hk b o (J.imm b o e), J.base, by simp [J.len], fun i o' fp e1 e2 => ?_, ?_, fun a ha => ?_, fun a ha => ?_, J.gens, J.os⟩
  · by_cases hi : i < H.length
    · rw [List.getElem?_append_left hi] at e1
      rw [List.getElem?_append_left (by rw [J.len]; exact hi)] at e2
      exact (J.objs i o' fp e1 e2).mono (fun _ _ e => e) fun a _ ob e => hk a ob e
    · have hi' : H.length ≤ i := Nat.le_of_not_lt hi
      rw [List.getElem?_append_right hi'] at e1
      rw [List.getElem?_append_right (by rw [J.len]; exact hi'), J.len] at e2
      cases hd : i - H.length with
      | zero => rw [hd] at e1 e2; cases e1; cases e2; exact hr
      | succ j => rw [hd] at e1; simp at e1
  · rw [List.flatten_append, List.nodup_append]
    refine ⟨J.nodup, by simp, fun a ha b hb => ?_⟩
    simp at hb; subst hb
    exact Nat.ne_of_lt (J.lt a ha)
  · rw [List.flatten_append, List.mem_append] at ha
    rcases ha with ha | ha
    · exact J.out a ha
    · simp at ha; subst ha
      cases e : I s.heap.objs.size with
      | none => rfl
      | some o' => exact absurd (Heap.lt_size (J.imm _ _ e)) (Nat.lt_irrefl _)
  · show a < (s.heap.push ob).objs.size
    rw [Heap.size_push]
    rw [List.flatten_append, List.mem_append] at ha
    rcases ha with ha | ha
    · exact Nat.lt_succ_of_lt (J.lt a ha)
    · simp at ha; subst ha; exact Nat.lt_succ_self _
theorem Tr.alloc (fa : List Addr) (I : Im) (as : As) (s : Shared) (ob : Obj) (k : Nat) : Tr fa I as s I (as ++ [[s.heap.objs.size]]) { s with heap := s.heap.push ob, toks := k } := by
  refine ⟨fun _ _ e => e, fun _ _ e => .inl e, ⟨_, rfl⟩, fun a ha => ?_, fun b o e _ _ => Heap.get?_push_of_some _ e, by show _ ≤ (s.heap.push ob).objs.size; rw [Heap.size_push]; exact Nat.le_succ _⟩
  rw [List.flatten_append, List.mem_append] at ha
  rcases ha with ha | ha
  · exact .inl ha
  · simp at ha; subst ha; exact .inr (Nat.le_refl _)
theorem Inv.newRef {c : Cx} {I : Im} {as : As} {H : List O} {s : Shared} (J : Inv c I as H s) (a : Addr) : VR c I (as ++ [[a]]) (.ref H.length) (.ref a) :=
  .ref (fp := []) (by rw [← J.len]; simp)

def onII (f : Int → Int → Option V) : Bp := fun a b H => ob (isI a) fun i => ob (isI b) fun j => ob (f i j) fun v => some (v, H)
def onSS (f : List Nat → List Nat → Option V) : Bp := fun a b H => ob (isS a) fun x => ob (isS b) fun y => ob (f x y) fun v => some (v, H)
def orP (p q : Bp) : Bp := fun a b H => Option.casesOn (p a b H) (q a b H) (fun r => some r)
theorem PB.onII {c : Cx} {n : Nat} {op : Value → Value → Sem Value} {f : Int → Int → Option V} (h : ∀ (i j : Int) (v : V) (t u : Tok) (A : Around) (s : Shared) (Q : Value → Shared → Prop), f i j = some v → (∀ x tk, (∀ I as, VR c I as v x) → Q x { s with toks := tk }) → wpAny (model c.prog c.w) A (op (.int i t) (.int j u)) Q NoE s) : PB c n op (onII f) := by
  intro a b x y I as H s J Ra Rb v H' hr A hA
  obtain ⟨i, h1, hr⟩ := ob_some hr
  obtain ⟨j, h2, hr⟩ := ob_some hr
  obtain ⟨w, h3, hr⟩ := ob_some hr
  cases hr
  rw [isI_some h1] at Ra
  rw [isI_some h2] at Rb
  obtain ⟨t, rfl⟩ := vr_int Ra
  obtain ⟨u, rfl⟩ := vr_int Rb
  exact h i j v t u A s _ h3 fun x tk R => ⟨I, as, Tr.toks .., J.toks _, R I as⟩
theorem PB.onSS {c : Cx} {n : Nat} {op : Value → Value → Sem Value} {f : List Nat → List Nat → Option V} (h : ∀ (i j : List Nat) (v : V) (t u : Tok) (A : Around) (s : Shared) (Q : Value → Shared → Prop), f i j = some v → (∀ x tk, (∀ I as, VR c I as v x) → Q x { s with toks := tk }) → wpAny (model c.prog c.w) A (op (.str ⟨i.toArray⟩ t) (.str ⟨j.toArray⟩ u)) Q NoE s) : PB c n op (onSS f) := by
  intro a b x y I as H s J Ra Rb v H' hr A hA
  obtain ⟨i, h1, hr⟩ := ob_some hr
  obtain ⟨j, h2, hr⟩ := ob_some hr
  obtain ⟨w, h3, hr⟩ := ob_some hr
  cases hr
  rw [isS_some h1] at Ra
  rw [isS_some h2] at Rb
  obtain ⟨t, rfl, _⟩ := vr_str Ra
  obtain ⟨u, rfl, _⟩ := vr_str Rb
  exact h i j v t u A s _ h3 fun x tk R => ⟨I, as, Tr.toks .., J.toks _, R I as⟩
theorem PB.orP {c : Cx} {n : Nat} {op : Value → Value → Sem Value} {p q : Bp} (hp : PB c n op p) (hq : PB c n op q) : PB c n op (orP p q) := by
  intro a b x y I as H s J Ra Rb v H' hr A hA
  unfold Mine.orP at hr
  cases e : p a b H with
  | none => rw [e] at hr; exact hq a b x y I as H s J Ra Rb v H' hr A hA
  | some r => rw [e] at hr; cases hr; exact hp a b x y I as H s J Ra Rb v H' e A hA
def addL : Bp := fun a b H => ob (isR a) fun i => ob (isR b) fun j => ob (asList H i) fun xs => ob (asList H j) fun ys => gd (Nat.ble (xs ++ ys).length big) (some (.ref H.length, H ++ [.list (xs ++ ys)]))
def glue (x y : List Nat) : Option V := gd (Nat.ble (x ++ y).length big) (some (.str (x ++ y)))
def pAdd : Bp := orP (onII fun i j => some (.int (i + j))) (orP (onSS glue) addL)
def pSub : Bp := onII fun i j => some (.int (i - j))
def isZ : Int → Bool
  | .ofNat 0 => true
  | _ => false
theorem isZ_false {i : Int} (h : isZ i = false) : i ≠ 0 := by rintro rfl; cases h
def small (i : Int) : Bool := Nat.blt i.natAbs 1000000000
def pMul : Bp := onII fun i j => gd (small i) (some (.int (i * j)))
def modI (i j : Int) : Option V := gd (!isZ j) (some (.int (i.fmod j)))
def modN : Bp := fun a b H => ob (isN a) fun p => ob (isI b) fun j => ob (natOf j) fun k => ob (prevN k) fun d => gd (Nat.beq (p.2 % (d + 1)) 0) (some (.int ((p.1 % (d + 1) : Nat) : Int), H))
def pMod : Bp := orP (onII modI) modN
def divI (i j : Int) : Option V := gd (small j) (gd (!isZ j) (some (.int (i.fdiv j))))
def divN : Bp := fun a b H => ob (isN a) fun p => ob (isI b) fun j => ob (natOf j) fun k => ob (prevN k) fun d => gd (Nat.beq (p.2 % (d + 1)) 0) (gd (small j) (some (.inp (p.1 / (d + 1)) (p.2 / (d + 1)), H)))
def pDiv : Bp := orP (onII divI) divN
def powI (i j : Int) : Option V := ob (natOf j) fun k => gd (small i) (gd (Nat.ble k 1000) (some (.int (i ^ k))))
def pPow : Bp := onII powI
theorem small_lt {i : Int} (h : small i = true) : i.natAbs < 1000000000 := Nat.lt_of_succ_le (Nat.le_of_ble_eq_true h)

theorem PB.addL (c : Cx) (n : Nat) : PB c n (binaryOp .Add) addL := by
  intro a b x y I as H s J Ra Rb v H' hr A hA
  obtain ⟨i, h1, hr⟩ := ob_some hr
  obtain ⟨j, h2, hr⟩ := ob_some hr
  obtain ⟨xs, e1, hr⟩ := ob_some hr
  obtain ⟨ys, e2, hr⟩ := ob_some hr
  obtain ⟨e3, hr⟩ := gd_some hr
  cases hr
  rw [isR_some h1] at Ra
  rw [isR_some h2] at Rb
  obtain ⟨a, fp, rfl, ha⟩ := vr_ref Ra
  obtain ⟨b, fp', rfl, hb⟩ := vr_ref Rb
  have hbb := Nat.le_of_ble_eq_true e3
  obtain ⟨items, _, rfl, o1, r1, hl1⟩ := or_list (J.obj ha (asList_some e1))
  obtain ⟨items', _, rfl, o2, r2, hl2⟩ := or_list (J.obj hb (asList_some e2))
  have z1 := r1.length
  have z2 := r2.length
  have z3 : xs.length + ys.length ≤ big := by rw [← List.length_append]; exact hbb
  refine P.add_list o1 o2 ⟨I, _, Tr.alloc _ _ _ _ _ s.toks, J.alloc _ _ s.toks rfl (.list (items := items ++ items') (n := 0) ?_ ((r1.append r2).imp fun _ _ q => q.mono fun _ _ e => e) hbb), J.newRef _⟩ ?_
  · rw [Heap.get?_push_size _ rfl]; simp
  · simp only [List.size_toArray]; rw [← z1, ← z2]; exact Nat.le_trans z3 big_le
theorem glue_fits {l l' : List Nat} (hb : (l ++ l').length ≤ big) : l.toArray.size + l'.toArray.size ≤ sizeLine := by
  rw [List.size_toArray, List.size_toArray]; rw [List.length_append] at hb; exact Nat.le_trans hb big_le
theorem PB.add (c : Cx) (n : Nat) : PB c n (binaryOp .Add) pAdd :=
  .orP (.onII fun i j v t u A s Q hf h => by cases hf; exact add_int (h _ _ fun _ _ => .int _ _)) (.orP (.onSS fun l l' v t u A s Q hf h => by
    obtain ⟨e, hf⟩ := gd_some hf
    cases hf
    have hb := Nat.le_of_ble_eq_true e
    exact add_str (fun t' tk => h _ _ fun _ _ => by rw [strAppend]; exact .str _ hb) (glue_fits hb)) (.addL c n))
theorem PB.sub (c : Cx) (n : Nat) : PB c n (binaryOp .Sub) pSub := .onII fun i j v t u A s Q hf h => by cases hf; exact sub_int (h _ _ fun _ _ => .int _ _)
theorem PB.mul (c : Cx) (n : Nat) : PB c n (binaryOp .Mult) pMul := .onII fun i j v t u A s Q hf h => by
  obtain ⟨e, hf⟩ := gd_some hf
  cases hf
  exact mul_int (h _ _ fun _ _ => .int _ _) (IntMulOk.of_left (intBits_le (Nat.lt_trans (small_lt e) (by decide))))
theorem fmod_inp {j : Int} {m d r : Nat} (hm : 0 < m) (h : j % (m : Int) = (r : Int)) (hd : m % (d + 1) = 0) : j.fmod ((d + 1 : Nat) : Int) = ((r % (d + 1) : Nat) : Int) := by
  rw [Int.fmod_eq_emod_of_nonneg _ (by omega)]
  have hdvd : ((d + 1 : Nat) : Int) ∣ (m : Int) := Int.natCast_dvd_natCast.mpr (Nat.dvd_of_mod_eq_zero hd)
  rw [← Int.emod_emod_of_dvd j hdvd, h]
  rfl
theorem fdiv_inp {j : Int} {m d r : Nat} (hm : 0 < m) (h : j % (m : Int) = (r : Int)) (hd : m % (d + 1) = 0) : (j.fdiv ((d + 1 : Nat) : Int)) % ((m / (d + 1) : Nat) : Int) = ((r / (d + 1) : Nat) : Int) := by
  rw [Int.fdiv_eq_ediv_of_nonneg _ (by omega)]
  obtain ⟨q, hq⟩ := Nat.dvd_of_mod_eq_zero hd
  have hq0 : 0 < q := by rcases Nat.eq_zero_or_pos q with e | e
                         · subst e; simp at hq; omega
                         · exact e
  have e1 : m / (d + 1) = q := by rw [hq]; exact Nat.mul_div_cancel_left q (by omega)
  rw [e1]
  have hj : j = (r : Int) + ((d + 1 : Nat) : Int) * ((q : Int) * (j / (m : Int))) := by
    have := Int.emod_add_mul_ediv j m
    rw [h] at this
    rw [← Int.mul_assoc, ← Int.natCast_mul, ← hq]; exact this.symm
  have hrm : (r : Int) < (m : Int) := by rw [← h]; exact Int.emod_lt_of_pos _ (by omega)
  have hr1 : r / (d + 1) < q := by
    rw [Nat.div_lt_iff_lt_mul (by omega), Nat.mul_comm, ← hq]; omega
  have h2 : j / ((d + 1 : Nat) : Int) = ((r / (d + 1) : Nat) : Int) + (q : Int) * (j / (m : Int)) := by
    conv => lhs; rw [hj]
    rw [Int.add_mul_ediv_left _ _ (by omega)]
    rfl
  rw [h2, Int.add_mul_emod_self_left]
  exact Int.emod_eq_of_lt (Int.natCast_nonneg _) (Int.ofNat_lt.mpr hr1)
theorem vr_inp {c : Cx} {I : Im} {as : As} {r m : Nat} {x : Value} (R : VR c I as (.inp r m) x) : ∃ i t, x = .int i t ∧ 0 < m ∧ i % (m : Int) = (r : Int) := by cases R with | inp t hm h => exact ⟨_, t, rfl, hm, h⟩
theorem notZ {j : Int} (h : (!isZ j) = true) : j ≠ 0 := isZ_false (by simpa using h)
theorem PB.modN (c : Cx) (n : Nat) : PB c n (binaryOp .Mod) modN := by
  intro a b x y I as H s J Ra Rb v H' hr A hA
  obtain ⟨p, h1, hr⟩ := ob_some hr
  obtain ⟨j, h2, hr⟩ := ob_some hr
  obtain ⟨k, h3, hr⟩ := ob_some hr
  obtain ⟨d, h4, hr⟩ := ob_some hr
  obtain ⟨e, hr⟩ := gd_some hr
  cases hr
  rw [isN_some h1] at Ra
  rw [isI_some h2] at Rb
  obtain ⟨i, t, rfl, hm, h⟩ := vr_inp Ra
  obtain ⟨u, rfl⟩ := vr_int Rb
  rw [natOf_some h3, prevN_some h4]
  refine mod_int (Int.ofNat_ne_zero.mpr (Nat.succ_ne_zero d)) ⟨I, as, Tr.toks .., J.toks _, ?_⟩
  show VR c I as _ (.int (i.fmod ((d + 1 : Nat) : Int)) _)
  rw [fmod_inp hm h (Nat.eq_of_beq_eq_true e)]
  exact .int _ _
theorem PB.mod (c : Cx) (n : Nat) : PB c n (binaryOp .Mod) pMod := .orP (.onII fun i j v t u A s Q hf h => by
  obtain ⟨e, hf⟩ := gd_some hf
  cases hf
  exact mod_int (notZ e) (h _ _ fun _ _ => .int _ _)) (.modN c n)
theorem PB.divN (c : Cx) (n : Nat) : PB c n (binaryOp .FloorDiv) divN := by
  intro a b x y I as H s J Ra Rb v H' hr A hA
  obtain ⟨p, h1, hr⟩ := ob_some hr
  obtain ⟨j, h2, hr⟩ := ob_some hr
  obtain ⟨k, h3, hr⟩ := ob_some hr
  obtain ⟨d, h4, hr⟩ := ob_some hr
  obtain ⟨e, hr⟩ := gd_some hr
  obtain ⟨e', hr⟩ := gd_some hr
  cases hr
  rw [isN_some h1] at Ra
  rw [isI_some h2] at Rb
  obtain ⟨i, t, rfl, hm, h⟩ := vr_inp Ra
  obtain ⟨u, rfl⟩ := vr_int Rb
  have hd := Nat.eq_of_beq_eq_true e
  rw [natOf_some h3, prevN_some h4] at e' ⊢
  refine floordiv_int (Int.ofNat_ne_zero.mpr (Nat.succ_ne_zero d)) ⟨I, as, Tr.toks .., J.toks _, .inp _ ?_ (fdiv_inp hm h hd)⟩ (.inl (PyProof.noPylong_small (Nat.lt_trans (small_lt e') (by decide))))
  exact Nat.div_pos (Nat.le_of_dvd hm (Nat.dvd_of_mod_eq_zero hd)) (Nat.succ_pos d)
theorem PB.div (c : Cx) (n : Nat) : PB c n (binaryOp .FloorDiv) pDiv := .orP (.onII fun i j v t u A s Q hf h => by
  obtain ⟨e', hf⟩ := gd_some hf
  obtain ⟨e, hf⟩ := gd_some hf
  cases hf
  exact floordiv_int (notZ e) (h _ _ fun _ _ => .int _ _) (.inl (PyProof.noPylong_small (Nat.lt_trans (small_lt e') (by decide))))) (.divN c n)
theorem PB.pow (c : Cx) (n : Nat) : PB c n (binaryOp .Pow) pPow := .onII fun i j v t u A s Q hf h => by
  obtain ⟨k, h1, hf⟩ := ob_some hf
  obtain ⟨e, hf⟩ := gd_some hf
  obtain ⟨e', hf⟩ := gd_some hf
  cases hf
  rw [natOf_some h1]
  have hk := Nat.le_of_ble_eq_true e'
  exact pow_int_small (n := Int.ofNat k) (Int.natCast_nonneg k) (Int.ofNat_le.mpr (Nat.le_trans hk (by decide))) (Nat.lt_trans (small_lt e) (by decide)) (h _ _ fun _ _ => .int _ _)
end
end Mine
-- part M3.lean
set_option autoImplicit false
set_option linter.unusedVariables false
namespace Mine
open PySem PySem.W PyProof.Rows
noncomputable section

/-! comparisons of ints and texts -/
def strEq : List Nat → List Nat → Bool
  | [], [] => true
  | a :: l, b :: m => match Nat.beq a b with
    | true => strEq l m
    | false => false
  | _, _ => false
theorem strEq_eq : ∀ (l m : List Nat), strEq l m = (l == m)
  | [], [] => rfl
  | [], _ :: _ => rfl
  | _ :: _, [] => rfl
  | a :: l, b :: m => by
    show (match Nat.beq a b with | true => strEq l m | false => false) = (a == b && l == m)
    rw [strEq_eq l m]
    cases e : Nat.beq a b with
    | true => rw [Nat.eq_of_beq_eq_true e]; simp
    | false => rw [beq_eq_false_iff_ne.mpr (Nat.ne_of_beq_eq_false e)]; rfl
def intEq : Int → Int → Bool
  | .ofNat a, .ofNat b => Nat.beq a b
  | .negSucc a, .negSucc b => Nat.beq a b
  | _, _ => false
theorem intEq_eq (a b : Int) : intEq a b = (a == b) := by
  cases a with
  | ofNat a => cases b with
    | ofNat b =>
      show Nat.beq a b = _
      cases e : Nat.beq a b with
      | true => rw [Nat.eq_of_beq_eq_true e]; simp
      | false => have : a ≠ b := Nat.ne_of_beq_eq_false e
                 symm; rw [beq_eq_false_iff_ne]; intro q; exact this (Int.ofNat.inj q)
    | negSucc b => symm; show _ = false; rw [beq_eq_false_iff_ne]; intro q; cases q
  | negSucc a => cases b with
    | ofNat b => symm; show _ = false; rw [beq_eq_false_iff_ne]; intro q; cases q
    | negSucc b =>
      show Nat.beq a b = _
      cases e : Nat.beq a b with
      | true => rw [Nat.eq_of_beq_eq_true e]; simp
      | false => have : a ≠ b := Nat.ne_of_beq_eq_false e
                 symm; rw [beq_eq_false_iff_ne]; intro q; exact this (Int.negSucc.inj q)
def intLt : Int → Int → Bool
  | .ofNat a, .ofNat b => Nat.blt a b
  | .negSucc a, .negSucc b => Nat.blt b a
  | .negSucc _, .ofNat _ => true
  | .ofNat _, .negSucc _ => false
theorem blt_eq (a b : Nat) : Nat.blt a b = decide (a < b) := by
  cases e : Nat.blt a b with
  | true => exact (decide_eq_true (Nat.le_of_ble_eq_true e)).symm
  | false => exact (decide_eq_false fun q => by rw [show Nat.blt a b = true from Nat.ble_eq_true_of_le q] at e; cases e).symm
theorem intLt_eq (a b : Int) : intLt a b = decide (a < b) := by
  cases a with
  | ofNat a => cases b with
    | ofNat b => show Nat.blt a b = _; rw [blt_eq]; exact decide_eq_decide.mpr (by show a < b ↔ (a : Int) < (b : Int); omega)
    | negSucc b => symm; exact decide_eq_false (by show ¬ ((a : Int) < Int.negSucc b); omega)
  | negSucc a => cases b with
    | ofNat b => symm; exact decide_eq_true (by show Int.negSucc a < (b : Int); omega)
    | negSucc b => show Nat.blt b a = _; rw [blt_eq]; exact decide_eq_decide.mpr (by omega)

def pEq : Bp := orP (onII fun i j => some (.bool (intEq i j))) (onSS fun x y => some (.bool (strEq x y)))
def pNe : Bp := orP (onII fun i j => some (.bool (!intEq i j))) (onSS fun x y => some (.bool (!strEq x y)))
def pLt : Bp := onII fun i j => some (.bool (intLt i j))
def pGt : Bp := onII fun i j => some (.bool (intLt j i))
def pGe : Bp := onII fun i j => some (.bool (!intLt i j))
theorem PB.eq (c : Cx) (n : Nat) : PB c n (compareOp .Eq) pEq :=
  .orP (.onII fun i j v t u A s Q hf h => by cases hf; rw [intEq_eq] at h; exact eq_int (h _ s.toks fun _ _ => .bool _)) (.onSS fun i j v t u A s Q hf h => by cases hf; rw [strEq_eq, ← strBeq] at h; exact eq_str (h _ s.toks fun _ _ => .bool _))
theorem PB.ne (c : Cx) (n : Nat) : PB c n (compareOp .NotEq) pNe :=
  .orP (.onII fun i j v t u A s Q hf h => by cases hf; rw [intEq_eq] at h; exact ne_int (h _ s.toks fun _ _ => .bool _)) (.onSS fun i j v t u A s Q hf h => by cases hf; rw [strEq_eq, ← strBeq] at h; exact ne_str (h _ s.toks fun _ _ => .bool _))
theorem PB.lt (c : Cx) (n : Nat) : PB c n (compareOp .Lt) pLt := .onII fun i j v t u A s Q hf h => by cases hf; rw [intLt_eq] at h; exact lt_int (h _ s.toks fun _ _ => .bool _)
theorem PB.gt (c : Cx) (n : Nat) : PB c n (compareOp .Gt) pGt := .onII fun i j v t u A s Q hf h => by cases hf; rw [intLt_eq] at h; exact gt_int (h _ s.toks fun _ _ => .bool _)
theorem PB.ge (c : Cx) (n : Nat) : PB c n (compareOp .GtE) pGe := .onII fun i j v t u A s Q hf h => by
  cases hf
  rw [intLt_eq, show (!decide (i < j)) = decide (j ≤ i) from by rw [Bool.eq_iff_iff]; simp [Int.not_lt]] at h
  exact ge_int (h _ s.toks fun _ _ => .bool _)
/-! in -/
def occ1 (x : Nat) : List Nat → Bool
  | [] => false
  | a :: l => match Nat.beq a x with
    | true => true
    | false => occ1 x l
def pInStr : Bp := onSS fun y x => some (.bool (Txt.contains ⟨x.toArray⟩ ⟨y.toArray⟩))
theorem PB.inStr (c : Cx) (n : Nat) : PB c n (compareOp .In) pInStr := .onSS fun i j v t u A s Q hf h => by cases hf; exact in_str (h _ s.toks fun _ _ => .bool _)
/-! items -/
def ix (i : Int) (n : Nat) : Option Nat := match i with
  | .ofNat k => match Nat.blt k n with
    | true => some k
    | false => none
  | .negSucc k => match Nat.blt k n with
    | true => some (n - (k + 1))
    | false => none
theorem ix_some {i : Int} {n k : Nat} (h : ix i n = some k) : seqIndex? i n = some k ∧ k < n := by
  unfold seqIndex?
  cases i with
  | ofNat j =>
    change (match Nat.blt j n with | true => some j | false => none) = some k at h
    cases e : Nat.blt j n with
    | false => rw [e] at h; cases h
    | true =>
      rw [e] at h; cases h
      have : k < n := Nat.lt_of_succ_le (Nat.le_of_ble_eq_true e)
      refine ⟨?_, this⟩
      have e1 : ¬ (Int.ofNat k < 0) := by show ¬ ((k : Int) < 0); omega
      simp only [e1, if_false]
      have e2 : (decide (0 ≤ Int.ofNat k) && decide (Int.ofNat k < (n : Int))) = true := by
        rw [Bool.and_eq_true, decide_eq_true_eq, decide_eq_true_eq]; show (0 : Int) ≤ (k : Int) ∧ (k : Int) < n; omega
      rw [if_pos e2]; rfl
  | negSucc j =>
    change (match Nat.blt j n with | true => some (n - (j + 1)) | false => none) = some k at h
    cases e : Nat.blt j n with
    | false => rw [e] at h; cases h
    | true =>
      rw [e] at h; cases h
      have : j < n := Nat.lt_of_succ_le (Nat.le_of_ble_eq_true e)
      refine ⟨?_, by omega⟩
      have e1 : Int.negSucc j < 0 := by omega
      simp only [e1, if_true]
      have e2 : (decide (0 ≤ Int.negSucc j + (n : Int)) && decide (Int.negSucc j + (n : Int) < (n : Int))) = true := by
        rw [Bool.and_eq_true, decide_eq_true_eq, decide_eq_true_eq]; omega
      rw [if_pos e2]
      congr 1
      omega
def pItem : Bp := fun a b H => match a, b with
  | .str x, .int i => match ix i x.length with
    | some k => match x[k]? with
      | some ch => some (.str [ch], H)
      | none => none
    | none => none
  | .ref r, .int i => match asList H r with
    | some xs => match ix i xs.length with
      | some k => match xs[k]? with
        | some v => some (v, H)
        | none => none
      | none => none
    | none => match asTup H r with
      | some xs => match ix i xs.length with
        | some k => match xs[k]? with
          | some v => some (v, H)
          | none => none
        | none => none
      | none => none
  | _, _ => none

theorem ix_bounds {i : Int} {n k : Nat} (h : ix i n = some k) (hn : n ≤ big) : -(2 ^ 63) ≤ i ∧ i < 2 ^ 63 := by
  have hb : n ≤ 1000000 := hn
  cases i with
  | ofNat j =>
    change (match Nat.blt j n with | true => some j | false => none) = some k at h
    cases e : Nat.blt j n with
    | false => rw [e] at h; cases h
    | true =>
      have : j < n := Nat.lt_of_succ_le (Nat.le_of_ble_eq_true e)
      show -(2 ^ 63) ≤ (j : Int) ∧ (j : Int) < 2 ^ 63
      omega
  | negSucc j =>
    change (match Nat.blt j n with | true => some (n - (j + 1)) | false => none) = some k at h
    cases e : Nat.blt j n with
    | false => rw [e] at h; cases h
    | true =>
      have : j < n := Nat.lt_of_succ_le (Nat.le_of_ble_eq_true e)
      omega
theorem getItem_list_ix {c : Cx} {A : Around} {s : Shared} {E : Value → Shared → Prop} {a : Addr} {items : List Value} {i : Int} {t : Tok} {k : Nat} {x : Value} {Q : Value → Shared → Prop}
    (hl : s.heap.IsList a items.toArray) (h : ix i items.length = some k) (hb : items.length ≤ big) (hx : items[k]? = some x) (hQ : Q x s) : wpAny (model c.prog c.w) A (getItem (.ref a) (.int i t)) Q E s := by
  obtain ⟨b1, b2⟩ := ix_bounds h hb
  cases i with
  | ofNat j =>
    change (match Nat.blt j items.length with | true => some j | false => none) = some k at h
    cases e : Nat.blt j items.length with
    | false => rw [e] at h; cases h
    | true =>
      rw [e] at h; cases h
      exact wpAny_getItem_list hl (by show (0 : Int) ≤ (k : Int); omega) b2 (by simpa using hx) hQ
  | negSucc j =>
    change (match Nat.blt j items.length with | true => some (items.length - (j + 1)) | false => none) = some k at h
    cases e : Nat.blt j items.length with
    | false => rw [e] at h; cases h
    | true =>
      rw [e] at h; cases h
      have hlt : j < items.length := Nat.lt_of_succ_le (Nat.le_of_ble_eq_true e)
      refine wpAny_getItem_list_neg hl (by omega) (by simp only [List.size_toArray]; omega) b1 ?_ hQ
      have : (Int.negSucc j + (items.toArray.size : Int)).toNat = items.length - (j + 1) := by simp only [List.size_toArray]; omega
      rw [this]; simpa using hx

theorem str_at {l : List Nat} {i : Int} {k ch : Nat} (e1 : ix i l.length = some k) (e2 : l[k]? = some ch) : (seqIndex? i l.toArray.size).bind (fun j => l.toArray[j]?) = some ch := by
  rw [List.size_toArray, (ix_some e1).1]; simpa using e2
theorem ET.item {c : Cx} {n : Nat} {sc : Scope} {value slice : Expr} {pos : Pos} {f g : Ef} (hf : ET c n sc value f) (hg : ET c n sc slice g)
    (hs : ∀ o i, subscripted slice false o i = operate [o, i] (getItem o i)) : ET c n sc (.Subscript value slice pos) (eBin pItem f g) := by
  intro env lo I as H s he L J v H' hr A hA
  obtain ⟨a, H1, e1, hr⟩ := bnd_some hr
  obtain ⟨b, H2, e2, hr⟩ := bnd_some hr
  refine Subscript_ ((hf env lo I as H s he L J).use e1 hA fun x s1 I1 as1 T1 J1 R1 => (hg env lo I1 as1 H1 s1 he (L.tr T1) J1).use e2 hA fun y s2 I2 as2 T2 J2 R2 => ?_)
  have R1 := R1.tr T2
  have T := T1.trans T2
  clear e1 e2
  unfold pItem at hr
  split at hr
  · obtain ⟨t, rfl, h⟩ := vr_str R1
    obtain ⟨u, rfl⟩ := vr_int R2
    split at hr
    · rename_i k e1
      split at hr
      · rename_i ch e2
        cases hr
        obtain ⟨b1, b2⟩ := ix_bounds e1 h
        refine tail_any (typeIs_str _ _ _) slot_str_getitem.lookup (PyProof.Rows.getItem_str (c := ch) ?_ ?_ ⟨I2, as2, T.trans (Tr.toks ..), J2.toks _, .str (l := [ch]) _ (by show 1 ≤ 1000000; decide)⟩) (hs _ _)
        · rw [Bool.or_eq_false_iff, decide_eq_false_iff_not, decide_eq_false_iff_not]; omega
        · exact str_at e1 e2
      · cases hr
    · cases hr
  · obtain ⟨aa, fp, rfl, h⟩ := vr_ref R1
    obtain ⟨u, rfl⟩ := vr_int R2
    split at hr
    · rename_i xs e1
      split at hr
      · rename_i k e2
        split at hr
        · rename_i w e3
          cases hr
          obtain ⟨items, _, rfl, o1, r1, hl1⟩ := or_list (J2.obj h (asList_some e1))
          obtain ⟨val, hv, hvr⟩ := r1.get e3
          have hz := r1.length
          exact tail_any (isList_of o1).typeIs slot_list_getitem.lookup (getItem_list_ix (isList_of o1) (by rw [← hz]; exact e2) (by rw [← hz]; exact hl1) hv ⟨I2, as2, T, J2, hvr⟩) (hs _ _)
        · cases hr
      · cases hr
    · split at hr
      · rename_i xs e1'
        split at hr
        · rename_i k e2
          split at hr
          · rename_i w e3
            cases hr
            obtain ⟨items, _, rfl, o1, r1, hl1⟩ := or_tup (J2.obj h (asTup_some e1'))
            obtain ⟨val, hv, hvr⟩ := r1.get e3
            have hz := r1.length
            obtain ⟨b1, b2⟩ := ix_bounds e2 hl1
            exact tail_any (isTup_of o1).typeIs slot_tuple_getitem.lookup (PyProof.Rows.getItem_tuple (isTup_of o1) b1 b2 (j := k) (by rw [List.size_toArray, ← hz]; exact (ix_some e2).1) (by simpa using hv) ⟨I2, as2, T, J2, hvr⟩) (hs _ _)
          · cases hr
        · cases hr
      · cases hr
  · cases hr

end
end Mine
-- part M4.lean
set_option autoImplicit false
set_option linter.unusedVariables false
namespace Mine
open PySem PySem.W PyProof.Rows
noncomputable section

/-! slices -/
def clip : Int → Nat → Nat
  | .ofNat k, n => match Nat.ble k n with
    | true => k
    | false => n
  | .negSucc k, n => n - (k + 1)
theorem clip_eq (i : Int) (n : Nat) : clipAt n i = clip i n := by
  cases i with
  | ofNat k =>
    show clipAt n (k : Int) = _
    rw [clipAt_nat]
    show _ = (match Nat.ble k n with | true => k | false => n)
    cases e : Nat.ble k n with
    | true => exact Nat.min_eq_left (Nat.le_of_ble_eq_true e)
    | false => exact Nat.min_eq_right (Nat.le_of_not_le fun q => by rw [Nat.ble_eq_true_of_le q] at e; cases e)
  | negSucc k => exact clipAt_neg n (k + 1) (by omega)
def part : V → Option (Option Int)
  | .none => some .none
  | .int i => some (some i)
  | _ => .none
def cut {α : Type} (l : List α) (lo hi : Option Int) : List α :=
  match lo with
  | .none => match hi with
    | .none => l
    | some j => l.take (clip j l.length)
  | some i => match hi with
    | .none => l.drop (clip i l.length)
    | some j => (l.drop (clip i l.length)).take (clip j l.length - clip i l.length)
theorem cut_eq {α : Type} (l : List α) (lo hi : Option Int) : (l.drop (lo.elim 0 (clipAt l.length))).take (hi.elim l.length (clipAt l.length) - lo.elim 0 (clipAt l.length)) = cut l lo hi := by
  cases lo with
  | none => cases hi with
    | none => simp [cut]
    | some j => simp [cut, clip_eq]
  | some i => cases hi with
    | none => simp [cut, clip_eq]; rw [List.take_of_length_le (by simp)]
    | some j => simp [cut, clip_eq]
theorem cut_len {α : Type} (l : List α) (lo hi : Option Int) : (cut l lo hi).length ≤ l.length := by
  rw [← cut_eq]; simp; omega
theorem slicePick_cut (items : List Value) (lo hi : Option Int) : slicePick items.toArray lo hi none = (cut items lo hi).toArray := by
  rw [slicePick_plain, ← cut_eq]; simp
theorem All2.cut {α β : Type} {R : α → β → Prop} {l : List α} {m : List β} (h : All2 R l m) (lo hi : Option Int) : All2 R (Mine.cut l lo hi) (Mine.cut m lo hi) := by
  rw [← cut_eq, ← cut_eq, h.length]
  exact (h.drop _).take _
theorem pick_runN (xs : Array Nat) (a : Nat) : ∀ k : Nat, ((List.range k).map (a + ·)).filterMap (xs[·]?) = (xs.toList.drop a).take k := pick_run xs a
theorem slice_cut (l : List Nat) (lo hi : Option Int) : Txt.slice ⟨l.toArray⟩ lo hi = ⟨(cut l lo hi).toArray⟩ := by
  have e : Builtin.Str.strSliceIndices lo hi 1 l.length = sliceRange (sliceBounds lo hi none l.length).1 (sliceBounds lo hi none l.length).2.1 1 := by
    unfold Builtin.Str.strSliceIndices sliceBounds
    rfl
  have e2 : (Builtin.Str.strSliceIndices lo hi 1 l.length).filterMap (l.toArray[·]?) = cut l lo hi := by
    rw [e, sliceBounds_plain]
    simp only [sliceRange_one, pick_runN]
    exact cut_eq l lo hi
  unfold Txt.slice
  show (if ((1 : Int) == 1 && (Builtin.Str.strSliceIndices lo hi 1 l.toArray.size).length == l.toArray.size) = true then (⟨l.toArray⟩ : Str) else ⟨((Builtin.Str.strSliceIndices lo hi 1 l.toArray.size).filterMap (l.toArray[·]?)).toArray⟩) = _
  rw [List.size_toArray, e2]
  split
  · rename_i hc
    have hlen : (Builtin.Str.strSliceIndices lo hi 1 l.length).length = l.length := by simpa using hc
    rw [e, sliceBounds_plain] at hlen
    simp only [sliceRange_one, List.length_map, List.length_range] at hlen
    have h3 : cut l lo hi = l := by
      rw [← cut_eq]
      generalize lo.elim 0 (clipAt l.length) = a at hlen
      have hb : hi.elim l.length (clipAt l.length) ≤ l.length := by
        cases hi with
        | none => exact Nat.le_refl _
        | some j => show clipAt l.length j ≤ l.length
                    have := clipAt_cast l.length j
                    omega
      generalize hi.elim l.length (clipAt l.length) = b at hlen hb
      rcases Nat.eq_zero_or_pos l.length with h0 | h0
      · have : l = [] := List.eq_nil_of_length_eq_zero h0
        subst this; simp
      · have ha : a = 0 := by omega
        have hb' : b = l.length := by omega
        subst ha; subst hb'; simp
    rw [h3]
  · rfl

abbrev Tp := V → V → V → List O → Option (V × List O)
def OET (c : Cx) (n : Nat) (sc : Scope) (e : Option Expr) (f : Ef) : Prop :=
  ∀ env lo I as H s, EOk env sc → LR c env lo I as s → Inv c I as H s → Ho c n [] (evalPart e env) (VRs c) I as s (f lo H)
theorem OET.no {c : Cx} {n : Nat} {sc : Scope} : OET c n sc .none (eV .none) := by
  intro env lo I as H s he L J v H' hr A hA
  cases hr
  exact evalPart_none_step ⟨I, as, Tr.refl .., J, .none⟩
theorem OET.yes {c : Cx} {n : Nat} {sc : Scope} {e : Expr} {f : Ef} (h : ET c n sc e f) : OET c n sc (some e) f :=
  fun env lo I as H s he L J v H' hr A hA => evalPart_some_step (h env lo I as H s he L J v H' hr A hA)

theorem part_isPart {c : Cx} {I : Im} {as : As} {v : V} {x : Value} {k : Option Int} (h : VR c I as v x) (hk : part v = some k) : IsPart x k := by
  cases h <;> cases hk
  · exact .none
  · exact .int _ _
theorem isPart_value {x : Value} {k : Option Int} (h : IsPart x k) : ∃ l : Option (Int × Tok), x = partValue l ∧ l.map (·.1) = k := by
  cases h with
  | none => exact ⟨.none, rfl, rfl⟩
  | int i t => exact ⟨some (i, t), rfl, rfl⟩

theorem getItem_str_cut {c : Cx} {A : Around} {s : Shared} {E : Value → Shared → Prop} {l : List Nat} {t : Tok} {a : Addr} {lv uv : Option (Int × Tok)} {Q : Value → Shared → Prop} (hs : s.heap.IsSlice a lv uv .none) (hl : l.length ≤ big)
    (h : ∀ t' k, Q (.str ⟨(cut l (lv.map (·.1)) (uv.map (·.1))).toArray⟩ t') { s with toks := k }) : wpAny (model c.prog c.w) A (getItem (.str ⟨l.toArray⟩ t) (.ref a)) Q E s := by
  refine wpAny_getItem_str_slice hs rfl ?_
  unfold sliceMade
  have key : ∀ t' k, Q (.str (Txt.slice ⟨l.toArray⟩ (lv.map (·.1)) (uv.map (·.1))) t') { s with toks := k } := fun t' k => by rw [slice_cut]; exact h t' k
  have sz0 : Str.length ⟨l.toArray⟩ ≤ sizeLine := by
    show l.toArray.size ≤ sizeLine
    rw [List.size_toArray]; exact Nat.le_trans hl big_le
  have sz : (Txt.slice ⟨l.toArray⟩ (lv.map (·.1)) (uv.map (·.1))).length ≤ sizeLine := Nat.le_trans (Txt.slice_le _ _ _) sz0
  unfold Txt.slice at key sz
  split
  · rename_i hc
    have hc' : ((1 : Int) == 1 && (Builtin.Str.strSliceIndices (lv.map (·.1)) (uv.map (·.1)) 1 (Str.length ⟨l.toArray⟩)).length == Str.length ⟨l.toArray⟩) = true := hc
    rw [if_pos hc'] at key
    exact key t s.toks
  · rename_i hc
    have hc' : ¬ ((1 : Int) == 1 && (Builtin.Str.strSliceIndices (lv.map (·.1)) (uv.map (·.1)) 1 (Str.length ⟨l.toArray⟩)).length == Str.length ⟨l.toArray⟩) = true := hc
    rw [if_neg hc'] at key sz
    exact ⟨sz, key s.toks (s.toks + 1)⟩

def pSliceT (xs : List V) (lo hi : Option Int) (H : List O) : Option (V × List O) := match lo, hi with
  | some (.ofNat (k + 1)), .none => gd (Nat.ble (k + 1) xs.length) (some (.ref H.length, H ++ [.tuple (xs.drop (k + 1))]))
  | _, _ => .none
def pSlice : Tp := fun a x y H => ob (part x) fun lo => ob (part y) fun hi => Option.casesOn (isS a)
  (ob (isR a) fun r => Option.casesOn (asList H r) (ob (asTup H r) fun xs => pSliceT xs lo hi H) (fun xs => some (.ref H.length, H ++ [.list (cut xs lo hi)])))
  (fun l => some (.str (cut l lo hi), H))
theorem pSliceT_some {xs : List V} {lo hi : Option Int} {H : List O} {r : V × List O} (h : pSliceT xs lo hi H = some r) : ∃ k, lo = some (.ofNat (k + 1)) ∧ hi = .none ∧ k + 1 ≤ xs.length ∧ r = (.ref H.length, H ++ [.tuple (xs.drop (k + 1))]) := by
  unfold pSliceT at h
  split at h
  · obtain ⟨hk, h⟩ := gd_some h
    cases h
    exact ⟨_, rfl, rfl, Nat.le_of_ble_eq_true hk, rfl⟩
  · cases h
def eSlice (f lo hi : Ef) : Ef := fun l H => bnd (f l H) fun a H1 => bnd (lo l H1) fun x H2 => bnd (hi l H2) fun y H3 => pSlice a x y H3

theorem ET.slice {c : Cx} {n : Nat} {sc : Scope} {value : Expr} {lower upper : Option Expr} {p pos : Pos} {f lo hi : Ef} (hf : ET c n sc value f) (hlo : OET c n sc lower lo) (hhi : OET c n sc upper hi) :
    ET c n sc (.Subscript value (.Slice lower upper .none p) pos) (eSlice f lo hi) := by
  intro env l I as H s he L J v H' hr A hA
  obtain ⟨a, H1, e1, hr⟩ := bnd_some hr
  obtain ⟨x, H2, e2, hr⟩ := bnd_some hr
  obtain ⟨y, H3, e3, hr⟩ := bnd_some hr
  obtain ⟨klo, p1, hr⟩ := ob_some hr
  obtain ⟨khi, p2, hr⟩ := ob_some hr
  refine Subscript_ ((hf env l I as H s he L J).use e1 hA fun va s1 I1 as1 T1 J1 R1 => wpAny_Slice ((hlo env l I1 as1 H1 s1 he (L.tr T1) J1).use e2 hA fun vx s2 I2 as2 T2 J2 R2 => (hhi env l I2 as2 H2 s2 he ((L.tr T1).tr T2) J2).use e3 hA fun vy s3 I3 as3 T3 J3 R3 => ?_))
  rw [evalPart_none]
  refine wpAny_pure ?_
  have P1 := part_isPart R2 p1
  have P2 := part_isPart R3 p2
  have R1 := (R1.tr T2).tr T3
  have T := T1.trans (T2.trans T3)
  clear e1 e2 e3 T1 T2 T3 R2 R3
  have Jg := J3.grow (h' := s3.heap.push { cls := .type "slice", data := .fields #[vx, vy, .none] }) s3.toks (by rw [Heap.size_push]; exact Nat.le_succ _) (fun b o e => Heap.get?_push_of_some _ e)
  have Tg := Tr.grow [] I3 as3 s3 (h' := s3.heap.push { cls := .type "slice", data := .fields #[vx, vy, .none] }) s3.toks (by rw [Heap.size_push]; exact Nat.le_succ _) (fun b o e => Heap.get?_push_of_some _ e)
  cases q0 : isS a with
  | some l =>
    rw [q0] at hr
    cases hr
    rw [isS_some q0] at R1
    obtain ⟨t, rfl, h⟩ := vr_str R1
    obtain ⟨lv, rfl, hl⟩ := isPart_value P1
    obtain ⟨uv, rfl, hu⟩ := isPart_value P2
    refine tail_any (typeIs_str _ _ _) slot_str_getitem.lookup (getItem_str_cut (lv := lv) (uv := uv) ⟨_, Heap.get?_push_size _ rfl, rfl, rfl⟩ h fun t' k => ⟨I3, as3, (T.trans Tg).trans (Tr.toks ..), Jg.toks _, ?_⟩) (by rfl)
    rw [hl, hu]
    exact .str _ (Nat.le_trans (cut_len ..) h)
  | none =>
    rw [q0] at hr
    obtain ⟨r, q9, hr⟩ := ob_some hr
    rw [isR_some q9] at R1
    obtain ⟨aa, fp, rfl, h⟩ := vr_ref R1
    cases q1 : asList H3 r with
    | some xs =>
      rw [q1] at hr; cases hr
      obtain ⟨items, nn, rfl, o1, r1, hl1⟩ := or_list (Jg.obj h (asList_some q1))
      have hz := r1.length
      have hb : items.length ≤ sizeLine := by rw [← hz]; exact Nat.le_trans hl1 big_le
      refine tail_any (isList_of o1).typeIs slot_list_getitem.lookup (wpAny_getItem_list_slice (isList_of o1) (Heap.IsSliceOf.new ..) P1 P2 .none (by simp) ?_ (by simpa using hb)) rfl
      refine ⟨I3, _, (T.trans Tg).trans (Tr.alloc _ _ _ _ _ s3.toks), Jg.alloc _ _ s3.toks rfl (.list (items := cut items klo khi) (n := 0) ?_ ((r1.cut klo khi).imp fun _ _ q => q.mono fun _ _ e => e) (Nat.le_trans (cut_len ..) hl1)), Jg.newRef _⟩
      rw [Heap.get?_push_size _ rfl, slicePick_cut]
    | none =>
      rw [q1] at hr
      obtain ⟨xs, q2, hr⟩ := ob_some hr
      obtain ⟨k, rfl, rfl, hk, hr⟩ := pSliceT_some hr
      cases hr
      obtain ⟨items, nn, rfl, o1, r1, hl1⟩ := or_tup (Jg.obj h (asTup_some q2))
      have hz := r1.length
      have hb : items.length ≤ sizeLine := by rw [← hz]; exact Nat.le_trans hl1 big_le
      cases P1 with
      | int _ u => cases P2 with
        | none =>
          refine tail_any (isTup_of o1).typeIs slot_tuple_getitem.lookup (getItem_tuple_from (a := k + 1) (u := u) (isTup_of o1) (Heap.IsSliceOf.new ..) (by omega) (by simpa [← hz] using hk) ?_ (by simpa using hb)) rfl
          refine ⟨I3, _, (T.trans Tg).trans (Tr.alloc _ _ _ _ _ s3.toks), Jg.alloc _ _ s3.toks rfl (.tuple (items := items.drop (k + 1)) (n := 0) ?_ ((r1.drop (k + 1)).imp fun _ _ q => q.mono fun _ _ e => e) (Nat.le_trans (by simp) hl1)), Jg.newRef _⟩
          rw [Heap.get?_push_size _ rfl]

end
end Mine
-- part M5.lean
set_option autoImplicit false
set_option maxRecDepth 100000
set_option linter.unusedVariables false
namespace Mine
open PySem PySem.W PyProof.Rows
noncomputable section

/-! arguments -/
abbrev Af := List V → List O → Option (List V × List O)
abbrev LRs (c : Cx) : Im → As → Shared → List V → List Value → Prop := fun I as _ v x => All2 (VR c I as) v x
def AT (c : Cx) (n : Nat) (sc : Scope) (es : List Expr) (f : Af) : Prop :=
  ∀ (pos : Pos) env lo I as H s, EOk env sc → LR c env lo I as s → Inv c I as H s → Ho c n [] (spliced (backTo pos (starEach es env))) (LRs c) I as s (f lo H)
def aNil : Af := fun _ H => some ([], H)
def aCons (f : Ef) (g : Af) : Af := fun lo H => bnd (f lo H) fun v H1 => bnd (g lo H1) fun vs H2 => some (v :: vs, H2)
theorem AT.nil {c : Cx} {n : Nat} {sc : Scope} : AT c n sc [] aNil := by
  intro pos env lo I as H s he L J v H' hr A hA
  cases hr
  exact args_nil ⟨I, as, Tr.refl .., J, .nil⟩
theorem All2.tr {c : Cx} {fa : List Addr} {I I' : Im} {as as' : As} {s s' : Shared} {v : List V} {x : List Value} (h : All2 (VR c I as) v x) (t : Tr fa I as s I' as' s') : All2 (VR c I' as') v x := h.imp fun _ _ q => q.tr t
theorem AT.cons {c : Cx} {n : Nat} {sc : Scope} {e : Expr} {es : List Expr} {f : Ef} {g : Af} (hf : ET c n sc e f) (hg : AT c n sc es g) (hs : ∀ env, starEach (e :: es) env = (false, eval e env) :: starEach es env) : AT c n sc (e :: es) (aCons f g) := by
  intro pos env lo I as H s he L J v H' hr A hA
  obtain ⟨a, H1, e1, hr⟩ := bnd_some hr
  obtain ⟨b, H2, e2, hr⟩ := bnd_some hr
  cases hr
  refine args_cons ((hf env lo I as H s he L J).use e1 hA fun x s1 I1 as1 T1 J1 R1 => (hg pos env lo I1 as1 H1 s1 he (L.tr T1) J1).use e2 hA fun y s2 I2 as2 T2 J2 R2 => ?_) (hs env)
  exact ⟨I2, as2, T1.trans T2, J2, .cons (R1.tr T2) R2⟩

theorem evalArgs_any {M : Model} {A : Around} {E : Value → Shared → Prop} {s : Shared} {f : Value} {args : List (Bool × Sem Value)} (hp : args.any (·.1) = false) {Q : Args → Shared → Prop}
    (h : wpAny M A (spliced args) (fun vs s' => Q ⟨vs, []⟩ s') E s) : wpAny M A (evalArgs f true args []) Q E s := by
  cases args with
  | nil =>
    unfold evalArgs
    show wpAny M A (spliced [] >>= _) Q E s
    refine wpAny_bind (wpAny_mono h (fun vs s' h' => wpAny_bind (wpAny_pure (wpAny_holding ?_))) fun _ _ x => x)
    exact wpAny_bind (wpAny_pure (wpAny_bind (wpAny_pure (wpAny_pure h'))))
  | cons x rest =>
    obtain ⟨b, t⟩ := x
    have hb : b = false := by simp at hp; exact hp.1
    subst hb
    exact Calls.evalArgs_plain h

def plainArg : Expr → Bool
  | .Starred .. => false
  | _ => true
theorem noStar {pos : Pos} {env : Env} {es : List Expr} (h : (es.all plainArg) = true) : (backTo pos (starEach es env)).any (·.1) = false := by
  induction es with
  | nil => rfl
  | cons e es ih =>
    rw [List.all_cons, Bool.and_eq_true] at h
    have ih := ih h.2
    have h1 := h.1
    clear h
    cases e <;> first | exact absurd h1 Bool.false_ne_true | (show (false || (backTo pos (starEach es env)).any (·.1)) = false; rw [ih]; rfl)

abbrev Fp := List V → List O → Option (V × List O)
/-- a def of the text -/
structure FnS (c : Cx) (n : Nat) (a : Addr) (F : Fp) : Prop where
  fn : ∃ o fd, c.base a = some o ∧ o.data = .func fd
  run : ∀ vs xs I as H s, Inv c I as H s → All2 (VR c I as) vs xs → Ho c n [] (call (.ref a) xs) (VRs c) I as s (F vs H)
def eCall (F : Fp) (g : Af) : Ef := fun lo H => bnd (g lo H) fun vs H1 => F vs H1

theorem ET.call {c : Cx} {n : Nat} {sc : Scope} {x : Str} {p pos : Pos} {es : List Expr} {a : Addr} {F : Fp} {g : Af} (hF : FnS c n a F) (hg : AT c n sc es g)
    (hl : sc.names.lookup x = some .globalImplicit) (hd : (x == ("__debug__" : Str)) = false) (hv : c.mg x = some (.ref a)) (hn : (es.all plainArg) = true) :
    ET c n sc (.Call (.Name x p) es [] pos) (eCall F g) := by
  intro env lo I as H s he L J v H' hr A hA
  obtain ⟨vs, H1, e1, hr⟩ := bnd_some hr
  obtain ⟨o, fd, hb, hfd⟩ := hF.fn
  refine Call_ (load_global he J hl hd hv (Calls.callWith_function (o := o) (fd := fd) (evalArgs_any (noStar hn) ((hg pos env lo I as H s he L J).use e1 hA fun xs s1 I1 as1 T1 J1 R1 => ⟨⟨J1.imm _ _ (J1.base _ _ hb), hfd⟩, ?_⟩)))) (by rfl)
  exact (hF.run vs xs I1 as1 H1 s1 J1 R1).use hr hA fun z s2 I2 as2 T2 J2 R2 => ⟨I2, as2, T1.trans T2, J2, R2⟩

/-- built-in functions and classes -/
def BS (c : Cx) (n : Nat) (f : Value) (P : Fp) : Prop :=
  ∀ vs xs I as H s, Inv c I as H s → All2 (VR c I as) vs xs → Ho c n [] (PySem.call f xs) (VRs c) I as s (P vs H)
theorem ET.callB {c : Cx} {n : Nat} {sc : Scope} {x : Str} {p pos : Pos} {es : List Expr} {id : String} {P : Fp} {g : Af} (hP : BS c n (.builtin id) P) (hg : AT c n sc es g)
    (hl : sc.names.lookup x = some .globalImplicit) (hd : (x == ("__debug__" : Str)) = false) (hv : c.mg x = none) (hb : c.mb x = some (.builtin id)) (hn : (es.all plainArg) = true) :
    ET c n sc (.Call (.Name x p) es [] pos) (eCall P g) := by
  intro env lo I as H s he L J v H' hr A hA
  obtain ⟨vs, H1, e1, hr⟩ := bnd_some hr
  refine Call_ (load_builtin he J hl hd hv hb (Calls.callWith_builtin (noStar hn) (evalArgs_any (noStar hn) ((hg pos env lo I as H s he L J).use e1 hA fun xs s1 I1 as1 T1 J1 R1 => ?_)))) (by rfl)
  exact (hP vs xs I1 as1 H1 s1 J1 R1).use hr hA fun z s2 I2 as2 T2 J2 R2 => ⟨I2, as2, T1.trans T2, J2, R2⟩
theorem ET.callT {c : Cx} {n : Nat} {sc : Scope} {x : Str} {p pos : Pos} {es : List Expr} {id : String} {P : Fp} {g : Af} (hP : BS c n (.type id) P) (hg : AT c n sc es g)
    (hl : sc.names.lookup x = some .globalImplicit) (hd : (x == ("__debug__" : Str)) = false) (hv : c.mg x = none) (hb : c.mb x = some (.type id)) (hn : (es.all plainArg) = true) :
    ET c n sc (.Call (.Name x p) es [] pos) (eCall P g) := by
  intro env lo I as H s he L J v H' hr A hA
  obtain ⟨vs, H1, e1, hr⟩ := bnd_some hr
  refine Call_ (load_builtin he J hl hd hv hb (PyProof.Rows.callWith_type (noStar hn) (evalArgs_any (noStar hn) ((hg pos env lo I as H s he L J).use e1 hA fun xs s1 I1 as1 T1 J1 R1 => ?_)))) (by rfl)
  exact (hP vs xs I1 as1 H1 s1 J1 R1).use hr hA fun z s2 I2 as2 T2 J2 R2 => ⟨I2, as2, T1.trans T2, J2, R2⟩

/-- methods of built-in types -/
structure MS (c : Cx) (n : Nat) (name : Str) (ok : V → List O → Bool) (id : String) (P : V → Fp) : Prop where
  get : ∀ v x I as H s, Inv c I as H s → VR c I as v x → ok v H = true → ∀ (A : Around) (pl : Sem Bool) (Q : Value × List Value → Shared → Prop) (E : Value → Shared → Prop), Q (.builtin id, [x]) s → wpAny (model c.prog c.w) A (getMethod x name pl) Q E s
  run : ∀ v x vs xs I as H s, Inv c I as H s → VR c I as v x → All2 (VR c I as) vs xs → Ho c n [] (PySem.call (.builtin id) (x :: xs)) (VRs c) I as s (P v vs H)
def eMeth (ok : V → List O → Bool) (P : V → Fp) (f : Ef) (g : Af) : Ef := fun lo H => bnd (f lo H) fun v H1 => gd (ok v H1) (bnd (g lo H1) fun vs H2 => P v vs H2)
theorem ET.meth {c : Cx} {n : Nat} {sc : Scope} {o : Expr} {name : Str} {apos pos : Pos} {es : List Expr} {ok : V → List O → Bool} {id : String} {P : V → Fp} {f : Ef} {g : Af}
    (hP : MS c n name ok id P) (hf : ET c n sc o f) (hg : AT c n sc es g) (hn : (es.all plainArg) = true)
    (he : ∀ env, ∃ pl, eval (.Call (.Attribute o name apos) es [] pos) env = (do
      let ov ← eval o env
      standAt apos.atName
      let (f, first) ← holding [ov] (getMethod ov name pl)
      callWith pos f first (backTo pos (starEach es env)) [])) :
    ET c n sc (.Call (.Attribute o name apos) es [] pos) (eMeth ok P f g) := by
  intro env lo I as H s hE L J v H' hr A hA
  obtain ⟨a, H1, e1, hr⟩ := bnd_some hr
  obtain ⟨hok, hr⟩ := gd_some hr
  obtain ⟨vs, H2, e2, hr⟩ := bnd_some hr
  obtain ⟨pl, heq⟩ := he env
  refine MethodCall_ (pl := pl) ((hf env lo I as H s hE L J).use e1 hA fun x s1 I1 as1 T1 J1 R1 => hP.get a x I1 as1 H1 s1 J1 R1 hok A pl _ _ ?_) heq
  refine Calls.callWith_builtin (noStar hn) (evalArgs_any (noStar hn) ((hg pos env lo I1 as1 H1 s1 hE (L.tr T1) J1).use e2 hA fun xs s2 I2 as2 T2 J2 R2 => ?_))
  exact (hP.run a x vs xs I2 as2 H2 s2 J2 (R1.tr T2) R2).use hr hA fun z s3 I3 as3 T3 J3 R3 => ⟨I3, as3, T1.trans (T2.trans T3), J3, R3⟩

/-! text methods -/
def isStr : V → List O → Bool
  | .str _, _ => true
  | _, _ => false
theorem MS.strGet {c : Cx} {name : Str} {id : String} (slot : Slot "str" name id) (hty : typeOf (.builtin id) = pure (.type "method_descriptor")) :
    ∀ v x I as H s, Inv c I as H s → VR c I as v x → isStr v H = true → ∀ (A : Around) (pl : Sem Bool) (Q : Value × List Value → Shared → Prop) (E : Value → Shared → Prop), Q (.builtin id, [x]) s → wpAny (model c.prog c.w) A (getMethod x name pl) Q E s := by
  intro v x I as H s J R hok A pl Q E h
  cases R with
  | str t hl => exact getMethod_builtin (T := "str") (typeIs_str _ _ _) F.plainAttrs_str slot hty (fun a e => nomatch e) h
  | _ => cases hok

def mSS (f : List Nat → List Nat → Option V) (v : V) : Fp := fun vs H => ob (isS v) fun x => ob (one vs) fun a => ob (isS a) fun y => ob (f x y) fun r => some (r, H)
def mFind : V → Fp := mSS fun x y => some (.int (Txt.find ⟨x.toArray⟩ ⟨y.toArray⟩))
def mCount : V → Fp := mSS fun x y => some (.int (Txt.count ⟨x.toArray⟩ ⟨y.toArray⟩))
theorem mSS_run {c : Cx} {n : Nat} {id : String} {f : List Nat → List Nat → Option V} (h : ∀ (i j : List Nat) (v : V) (t u : Tok) (A : Around) (s : Shared) (Q : Value → Shared → Prop), f i j = some v → (∀ x tk, (∀ I as, VR c I as v x) → Q x { s with toks := tk }) → wpAny (model c.prog c.w) A (call (.builtin id) [.str ⟨i.toArray⟩ t, .str ⟨j.toArray⟩ u]) Q NoE s)
    (v : V) (x : Value) (vs : List V) (xs : List Value) (I : Im) (as : As) (H : List O) (s : Shared) (J : Inv c I as H s) (R : VR c I as v x) (Rs : All2 (VR c I as) vs xs) : Ho c n [] (call (.builtin id) (x :: xs)) (VRs c) I as s (mSS f v vs H) := by
  intro w H' hr A hA
  obtain ⟨l, h1, hr⟩ := ob_some hr
  obtain ⟨a, h2, hr⟩ := ob_some hr
  obtain ⟨l', h3, hr⟩ := ob_some hr
  obtain ⟨r, h4, hr⟩ := ob_some hr
  cases hr
  rw [isS_some h1] at R
  rw [one_some h2, isS_some h3] at Rs
  obtain ⟨t, rfl, _⟩ := vr_str R
  obtain ⟨y, rfl, R1⟩ := all2_1 Rs
  obtain ⟨u, rfl, _⟩ := vr_str R1
  exact h l l' _ t u A s _ h4 fun x tk R => ⟨I, as, Tr.toks .., J.toks _, R I as⟩
theorem MS.find (c : Cx) (n : Nat) : MS c n "find" isStr "str.find" mFind where
  get := MS.strGet F.slot_str_find F.type_str_find
  run := mSS_run fun i j v t u A s Q hf h => by cases hf; exact SC.find (h _ _ fun _ _ => .int _ _)
end
end Mine
-- part M6.lean
set_option autoImplicit false
set_option maxRecDepth 100000
set_option linter.unusedVariables false
namespace Mine
open PySem PySem.W PyProof.Rows
noncomputable section

/-- a change at one address of the frame -/
theorem Inv.frame {c : Cx} {I : Im} {as : As} {H : List O} {s : Shared} (J : Inv c I as H s) {a : Addr} {h' : Heap} (k : Nat) (ha : a ∉ as.flatten) (hI : I a = none) (hs : Heap.SameBut a s.heap h') : Inv c I as H { s with heap := h', toks := k } := by
  have hk : ∀ b o, b ≠ a → s.heap.get? b = some o → h'.get? b = some o := fun b o hb e => (hs.2 b hb).trans e
  refine ⟨fun b o e => hk b o (fun q => by rw [q, hI] at e; cases e) (J.imm b o e), J.base, J.len, fun i o fp e1 e2 => ?_, J.nodup, J.out, fun b h => (by show b < h'.objs.size; rw [hs.1]; exact J.lt b h), J.gens, J.os⟩
  · have := (J.objs i o fp e1 e2).mono (I' := I) (ex := []) (h' := h') (fun _ _ e => e) fun b hb ob e => hk b ob (fun q => ha (by rw [← q]; exact List.mem_flatten.mpr ⟨fp, List.mem_of_getElem? e2, hb⟩)) e
    simpa using this
theorem Tr.frame {fa : List Addr} (I : Im) (as : As) (s : Shared) {a : Addr} {h' : Heap} (k : Nat) (ha : a ∈ fa) (hs : Heap.SameBut a s.heap h') : Tr fa I as s I as { s with heap := h', toks := k } :=
  ⟨fun _ _ e => e, fun _ _ e => .inl e, ⟨[], by simp⟩, fun _ h => .inl h, fun b o e _ hb => (hs.2 b (fun q => hb (q ▸ ha))).trans e, Nat.le_of_eq hs.1.symm⟩

theorem names_inj {sc : Scope} (nd : (sc.names.map (·.1)).Nodup) {i j : Nat} {x : Str} {k k' : NameKind} (hi : sc.names[i]? = some (x, k)) (hj : sc.names[j]? = some (x, k')) : i = j := by
  have h1 : (sc.names.map (·.1))[i]? = some x := by rw [List.getElem?_map, hi]; rfl
  have h2 : (sc.names.map (·.1))[j]? = some x := by rw [List.getElem?_map, hj]; rfl
  exact (List.getElem?_inj (List.getElem?_eq_some_iff.mp h1).1 nd).mp (h1.trans h2.symm)

theorem set_get {lo : List V} {i j : Nat} {v w : V} (h : (lo.set i v)[j]? = some w) : (i = j ∧ w = v) ∨ (i ≠ j ∧ lo[j]? = some w) := by
  rw [List.getElem?_set] at h
  by_cases e : i = j
  · rw [if_pos e] at h
    split at h
    · exact .inl ⟨e, (Option.some.inj h).symm⟩
    · cases h
  · rw [if_neg e] at h; exact .inr ⟨e, h⟩

theorem store_loc {c : Cx} {env : Env} {sc : Scope} {lo : List V} {I : Im} {as : As} {H : List O} {s : Shared} (he : EOk env sc) (L : LR c env lo I as s) (J : Inv c I as H s) {i : Nat} {x : Str} {v : V} {val : Value}
    (hi : sc.names[i]? = some (x, .local)) (hl : sc.names.lookup x = some .local) (R : VR c I as v val) {A : Around} {Q : Unit → Shared → Prop} {E : Value → Shared → Prop}
    (h : ∀ s', Tr [env.locals] I as s I as s' → Inv c I as H s' → LR c env (lo.set i v) I as s' → Q () s') : wpAny (model c.prog c.w) A (storeName env x val) Q E s := by
  obtain ⟨m, hn, hm⟩ := L.loc
  have hk : env.scope.kind = .function := by rw [he.scope]; exact he.kind
  obtain ⟨hLlt, hLf, hLI⟩ := L.own env.locals (by simp [fAddrs])
  refine wpAny_storeName_local (by show env.scope.names.lookup x = _; rw [he.scope]; exact hl) hn (fun h' hn' hs' => ?_) (by rw [hk]; rfl)
  have T : Tr [env.locals] I as s I as { s with heap := h', toks := s.toks + 1 } := Tr.frame I as s _ (by simp) hs'
  refine h _ T (J.frame _ hLf hLI hs') ⟨fun a ha => ?_, ?_, fun j y k e hk' => ?_, L.nd⟩
  · obtain ⟨h1, h2, h3⟩ := L.own a ha
    exact ⟨Nat.lt_of_lt_of_le h1 T.size, h2, h3⟩
  · refine ⟨_, hn', fun j y w e1 e2 e3 => ?_⟩
    rw [he.scope] at e1
    rcases set_get e2 with ⟨rfl, rfl⟩ | ⟨hne, e2⟩
    · rw [hi] at e1; cases e1
      exact ⟨val, by simp, R⟩
    · obtain ⟨v', h1, h2⟩ := hm j y w (by rw [he.scope]; exact e1) e2 e3
      refine ⟨v', ?_, h2⟩
      rw [if_neg (fun q => hne (names_inj he.nd hi (q ▸ e1)))]; exact h1
  · obtain ⟨a, hl', cv, hc, hv⟩ := L.cel j y k e hk'
    have hne : a ≠ env.locals := fun q => by
      have := L.nd
      rw [fAddrs, List.nodup_cons] at this
      exact this.1 (q ▸ List.mem_map.mpr ⟨(y, a), mem_of_lookup hl', rfl⟩)
    refine ⟨a, hl', cv, hc.sameBut hs' hne, fun w e1 e2 => ?_⟩
    rcases set_get e1 with ⟨rfl, rfl⟩ | ⟨_, e1⟩
    · rw [he.scope, hi] at e; cases e; rcases hk' with q | q <;> cases q
    · exact hv w e1 e2

theorem store_cell {c : Cx} {env : Env} {sc : Scope} {lo : List V} {I : Im} {as : As} {H : List O} {s : Shared} (he : EOk env sc) (L : LR c env lo I as s) (J : Inv c I as H s) {i : Nat} {x : Str} {v : V} {val : Value}
    (hi : sc.names[i]? = some (x, .cell)) (hl : sc.names.lookup x = some .cell) (R : VR c I as v val) {A : Around} {Q : Unit → Shared → Prop} {E : Value → Shared → Prop}
    (h : ∀ s', Tr (fAddrs env) I as s I as s' → Inv c I as H s' → LR c env (lo.set i v) I as s' → Q () s') : wpAny (model c.prog c.w) A (storeName env x val) Q E s := by
  have hk : env.scope.kind = .function := by rw [he.scope]; exact he.kind
  obtain ⟨a, hla, cv, hc, hv⟩ := L.cel i x .cell (by rw [he.scope]; exact hi) (.inl rfl)
  have hmem := mem_snd_of_lookup hla
  obtain ⟨hLlt, hLf, hLI⟩ := L.own a hmem
  have hne : a ≠ env.locals := fun q => by
    have := L.nd
    rw [fAddrs, List.nodup_cons] at this
    exact this.1 (q ▸ List.mem_map.mpr ⟨(x, a), mem_of_lookup hla, rfl⟩)
  refine wpAny_storeName_cell hk (by show env.scope.names.lookup x = _; rw [he.scope]; exact hl) hla hc fun h' hc' hs' => ?_
  have T : Tr (fAddrs env) I as s I as { s with heap := h', toks := s.toks } := Tr.frame I as s _ hmem hs'
  refine h _ T (J.frame _ hLf hLI hs') ⟨fun a ha => ?_, ?_, fun j y k e hk' => ?_, L.nd⟩
  · obtain ⟨h1, h2, h3⟩ := L.own a ha
    exact ⟨Nat.lt_of_lt_of_le h1 T.size, h2, h3⟩
  · obtain ⟨m, hn, hm⟩ := L.loc
    refine ⟨m, hn.sameBut hs' (Ne.symm hne), fun j y w e1 e2 e3 => ?_⟩
    rcases set_get e2 with ⟨rfl, rfl⟩ | ⟨_, e2⟩
    · rw [he.scope, hi] at e1; cases e1
    · exact hm j y w e1 e2 e3
  · obtain ⟨a', hl', cv', hc2, hv'⟩ := L.cel j y k e hk'
    by_cases hij : i = j
    · subst hij
      rw [he.scope, hi] at e; cases e
      rw [hla] at hl'; cases hl'
      refine ⟨a, hla, some val, hc', fun w e1 e2 => ?_⟩
      rcases set_get e1 with ⟨_, rfl⟩ | ⟨q, _⟩
      · exact ⟨val, rfl, R⟩
      · exact absurd rfl q
    · have hne2 : a' ≠ a := fun q => by
        subst q
        have hnd := L.nd
        rw [fAddrs, List.nodup_cons] at hnd
        have : y = x := by
          have p1 := mem_of_lookup hl'
          have p2 := mem_of_lookup hla
          exact name_of_addr (cs := env.cells) (List.pairwise_map.mp hnd.2) p1 p2
        subst this
        rw [he.scope] at e
        exact hij (names_inj he.nd hi e)
      refine ⟨a', hl', cv', hc2.sameBut hs' hne2, fun w e1 e2 => ?_⟩
      rcases set_get e1 with ⟨q, _⟩ | ⟨_, e1⟩
      · exact absurd q hij
      · exact hv' w e1 e2

/-- any own name -/
def SN (c : Cx) (sc : Scope) (x : Str) (i : Nat) : Prop :=
  ∀ env lo I as H s v val, EOk env sc → LR c env lo I as s → Inv c I as H s → VR c I as v val → ∀ (A : Around) (Q : Unit → Shared → Prop) (E : Value → Shared → Prop),
    (∀ s', Tr (fAddrs env) I as s I as s' → Inv c I as H s' → LR c env (lo.set i v) I as s' → Q () s') → wpAny (model c.prog c.w) A (storeName env x val) Q E s
theorem SN.loc {c : Cx} {sc : Scope} {x : Str} (i : Nat) (hi : sc.names[i]? = some (x, .local)) (hl : sc.names.lookup x = some .local) : SN c sc x i :=
  fun env lo I as H s v val he L J R A Q E h => store_loc he L J hi hl R fun s' T J L => h s' (T.weak fun a ha => by simp at ha; simp [fAddrs, ha]) J L
theorem SN.cell {c : Cx} {sc : Scope} {x : Str} (i : Nat) (hi : sc.names[i]? = some (x, .cell)) (hl : sc.names.lookup x = some .cell) : SN c sc x i :=
  fun env lo I as H s v val he L J R A Q E h => store_cell he L J hi hl R h

theorem LR.trF {c : Cx} {env : Env} {lo : List V} {I I' : Im} {as as' : As} {s s' : Shared} (x : LR c env lo I as s) (t : Tr [] I as s I' as' s') : LR c env lo I' as' s' := x.tr t

/-! statements -/
def sAsg (i : Nat) (f : Ef) : Sf := fun lo H => bnd (f lo H) fun v H1 => setL lo i v fun l => some ((.next, l), H1)
theorem ST.asg {c : Cx} {n : Nat} {sc : Scope} {x : Str} {p pos : Pos} {e : Expr} {i : Nat} {f : Ef} (hs : SN c sc x i) (hf : ET c n sc e f) (hw : ∀ env, swapsWith e (some (.Name x p)) pos.line env = pure false) : ST c n sc (.Assign [.Name x p] e pos) (sAsg i f) := by
  intro env lo I as H s he L J b H' hr A hA
  obtain ⟨v, H1, e1, hr⟩ := bnd_some hr
  rw [setL_eq] at hr
  cases hr
  refine wpAny_Assign_Name ((hf env lo I as H s he L J).use e1 hA fun x s1 I1 as1 T1 J1 R1 => hs env lo I1 as1 H' s1 v x he (L.tr T1) J1 R1 A _ _ fun s2 T2 J2 L2 => ?_) (hw env)
  exact ⟨I1, as1, T1.nil.trans T2, J2, .next, L2⟩

def sAug (p : Bp) (i : Nat) (g : Ef) : Sf := fun lo H => bnd (eName i lo H) fun a H0 => bnd (g lo H0) fun b H1 => bnd (p a b H1) fun v H2 => setL lo i v fun l => some ((.next, l), H2)
/-- how an own name is read -/
def LN (c : Cx) (sc : Scope) (x : Str) (i : Nat) : Prop :=
  ∀ env lo I as s v, EOk env sc → LR c env lo I as s → lo[i]? = some v → v ≠ .unb → ∃ val, VR c I as v val ∧ ∀ (A : Around) (Q : Value → Shared → Prop) (E : Value → Shared → Prop), Q val s → wpAny (model c.prog c.w) A (loadName env x) Q E s
theorem LN.loc {c : Cx} {sc : Scope} {x : Str} (i : Nat) (hi : sc.names[i]? = some (x, .local)) (hl : sc.names.lookup x = some .local) : LN c sc x i := by
  intro env lo I as s v he L h1 h2
  obtain ⟨m, hn, hm⟩ := L.loc
  obtain ⟨val, hv, hvr⟩ := hm i x v (by rw [he.scope]; exact hi) h1 h2
  exact ⟨val, hvr, fun A Q E h => wpAny_loadName_local (by rw [he.scope]; exact he.kind) (by show env.scope.names.lookup x = _; rw [he.scope]; exact hl) hn hv h⟩
theorem LN.cell {c : Cx} {sc : Scope} {x : Str} (i : Nat) (hi : sc.names[i]? = some (x, .cell)) (hl : sc.names.lookup x = some .cell) : LN c sc x i := by
  intro env lo I as s v he L h1 h2
  obtain ⟨a, ha, cv, hc, hm⟩ := L.cel i x .cell (by rw [he.scope]; exact hi) (.inl rfl)
  obtain ⟨val, rfl, hvr⟩ := hm v h1 h2
  exact ⟨val, hvr, fun A Q E h => wpAny_loadName_cell (by rw [he.scope]; exact he.kind) (by show env.scope.names.lookup x = _; rw [he.scope]; exact hl) ha hc h⟩
theorem ST.aug {c : Cx} {n : Nat} {sc : Scope} {x : Str} {p pos : Pos} {op : Operator} {e : Expr} {i : Nat} {P : Bp} {g : Ef} (hs : SN c sc x i) (hn : LN c sc x i) (hg : ET c n sc e g) (hP : PB c n (inplaceOp op) P) :
    ST c n sc (.AugAssign (.Name x p) op e pos) (sAug P i g) := by
  intro env lo I as H s he L J b H' hr A hA
  obtain ⟨v0, H0, e0, hr⟩ := bnd_some hr
  obtain ⟨v1, H1, e1, hr⟩ := bnd_some hr
  obtain ⟨v2, H2, e2, hr⟩ := bnd_some hr
  rw [setL_eq] at hr
  cases hr
  obtain ⟨n1, n2, rfl⟩ := eName_some e0
  obtain ⟨x0, R0, h0⟩ := hn env lo I as s v0 he L n1 n2
  refine wpAny_AugAssign_Name (h0 A _ _ ((hg env lo I as _ s he L J).use e1 hA fun x1 s1 I1 as1 T1 J1 R1 => (hP v0 v1 x0 x1 I1 as1 H1 s1 J1 (R0.tr T1) R1).use e2 hA fun x2 s2 I2 as2 T2 J2 R2 => ?_))
  exact hs env lo I2 as2 H' s2 v2 x2 he ((L.tr T1).tr T2) J2 R2 A _ _ fun s3 T3 J3 L3 => ⟨I2, as2, (T1.trans T2).nil.trans T3, J3, .next, L3⟩

def sRet (f : Ef) : Sf := fun lo H => bnd (f lo H) fun v H1 => some ((.ret v, lo), H1)
theorem ST.ret {c : Cx} {n : Nat} {sc : Scope} {e : Expr} {pos : Pos} {f : Ef} (hf : ET c n sc e f) : ST c n sc (.Return (some e) pos) (sRet f) := by
  intro env lo I as H s he L J b H' hr A hA
  obtain ⟨v, H1, e1, hr⟩ := bnd_some hr
  cases hr
  exact wpAny_Return_some ((hf env lo I as H s he L J).use e1 hA fun x s1 I1 as1 T1 J1 R1 => ⟨I1, as1, T1.nil, J1, .ret R1, L.tr T1⟩)
def sCont : Sf := fun lo H => some ((.cont, lo), H)
theorem ST.cont {c : Cx} {n : Nat} {sc : Scope} {pos : Pos} : ST c n sc (.Continue pos) sCont := by
  intro env lo I as H s he L J b H' hr A hA
  cases hr
  exact fun _ _ _ => ⟨I, as, Tr.refl .., J, .cont, L⟩
def sIf (t : Tf) (f g : Sf) : Sf := fun lo H => bnd (t lo H) fun b H1 => match b with
  | true => f lo H1
  | false => g lo H1
theorem ST.ite {c : Cx} {n : Nat} {sc : Scope} {t : Expr} {b1 b2 : List Stmt} {pos : Pos} {q : Tf} {f g : Sf} (hq : TT c n sc t q) (hf : SS c n sc b1 f) (hg : SS c n sc b2 g) : ST c n sc (.If t b1 b2 pos) (sIf q f g) := by
  intro env lo I as H s he L J b H' hr A hA
  obtain ⟨d, H1, e1, hr⟩ := bnd_some hr
  refine wpAny_If ((hq env lo I as H s he L J).use e1 hA fun x s1 I1 as1 T1 J1 R1 => ?_)
  cases R1
  cases d with
  | true => rw [if_pos rfl]; exact (hf env lo I1 as1 H1 s1 he (L.tr T1) J1).use hr hA fun x s2 I2 as2 T2 J2 R2 => ⟨I2, as2, T1.nil.trans T2, J2, R2⟩
  | false => rw [if_neg Bool.false_ne_true]; exact (hg env lo I1 as1 H1 s1 he (L.tr T1) J1).use hr hA fun x s2 I2 as2 T2 J2 R2 => ⟨I2, as2, T1.nil.trans T2, J2, R2⟩
def sNil : Sf := fun lo H => some ((.next, lo), H)
def sCons (f g : Sf) : Sf := fun lo H => bnd (f lo H) fun b H1 => match b with
  | (.next, lo1) => g lo1 H1
  | (fl, lo1) => some ((fl, lo1), H1)
theorem SS.nil {c : Cx} {n : Nat} {sc : Scope} : SS c n sc [] sNil := by
  intro env lo I as H s he L J b H' hr A hA
  cases hr
  exact wpAny_execs_nil ⟨I, as, Tr.refl .., J, .next, L⟩
theorem SS.cons {c : Cx} {n : Nat} {sc : Scope} {st : Stmt} {rest : List Stmt} {f g : Sf} (hf : ST c n sc st f) (hg : SS c n sc rest g) : SS c n sc (st :: rest) (sCons f g) := by
  intro env lo I as H s he L J b H' hr A hA
  obtain ⟨⟨fl, lo1⟩, H1, e1, hr⟩ := bnd_some hr
  refine wpAny_execs_cons ((hf env lo I as H s he L J).use e1 hA fun x s1 I1 as1 T1 J1 R1 => ?_)
  obtain ⟨R1, L1⟩ := R1
  cases R1 with
  | next => exact (hg env lo1 I1 as1 H1 s1 he L1 J1).use hr hA fun x s2 I2 as2 T2 J2 R2 => ⟨I2, as2, T1.trans T2, J2, R2⟩
  | cont => cases hr; exact ⟨I1, as1, T1, J1, .cont, L1⟩
  | brk => cases hr; exact ⟨I1, as1, T1, J1, .brk, L1⟩
  | ret h => cases hr; exact ⟨I1, as1, T1, J1, .ret h, L1⟩

end
end Mine
-- part M7.lean
set_option autoImplicit false
set_option maxRecDepth 100000
set_option linter.unusedVariables false
namespace Mine
open PySem PySem.W PyProof.Rows
noncomputable section

theorem bindL_out {k : Str → Option NameKind} {x : Str} : ∀ {binds : List (Str × Value)} {m : Str → Option Value}, x ∉ binds.map (·.1) → bindL k binds m x = m x
  | [], _, _ => rfl
  | (n, v) :: r, m, h => by
    simp only [List.map_cons, List.mem_cons, not_or] at h
    unfold bindL
    rw [bindL_out h.2]
    split
    · simp [h.1]
    · rfl
theorem bindC_out {k : Str → Option NameKind} {x : Str} : ∀ {binds : List (Str × Value)} {m : Str → Option Value}, x ∉ binds.map (·.1) → bindC k binds m x = m x
  | [], _, _ => rfl
  | (n, v) :: r, m, h => by
    simp only [List.map_cons, List.mem_cons, not_or] at h
    unfold bindC
    rw [bindC_out h.2]
    split
    · rfl
    · simp [h.1]
theorem bindL_in {k : Str → Option NameKind} {x : Str} {v : Value} : ∀ {binds : List (Str × Value)} {m : Str → Option Value}, (binds.map (·.1)).Nodup → (x, v) ∈ binds → k x = some .local → bindL k binds m x = some v
  | [], _, _, h, _ => nomatch h
  | (n, w) :: r, m, nd, h, hk => by
    rw [List.map_cons, List.nodup_cons] at nd
    unfold bindL
    rcases List.mem_cons.mp h with e | h
    · cases e
      rw [bindL_out nd.1, if_pos hk]; simp
    · exact bindL_in nd.2 h hk
theorem bindC_in {k : Str → Option NameKind} {x : Str} {v : Value} : ∀ {binds : List (Str × Value)} {m : Str → Option Value}, (binds.map (·.1)).Nodup → (x, v) ∈ binds → k x ≠ some .local → bindC k binds m x = some v
  | [], _, _, h, _ => nomatch h
  | (n, w) :: r, m, nd, h, hk => by
    rw [List.map_cons, List.nodup_cons] at nd
    unfold bindC
    rcases List.mem_cons.mp h with e | h
    · cases e
      rw [bindC_out nd.1, if_neg hk]; simp
    · exact bindC_in nd.2 h hk
theorem cellsFrom_acc {x : Str} : ∀ {names : List (Str × NameKind)} {n : Nat} {acc : List (Str × Addr)}, (acc.lookup x).isSome = true → ((cellsFrom n names acc).lookup x).isSome = true
  | [], _, _, h => h
  | (y, k) :: r, n, acc, h => by
    unfold cellsFrom
    split
    · refine cellsFrom_acc ?_
      rw [List.lookup_cons]
      split
      · rfl
      · exact h
    · exact cellsFrom_acc h
theorem cellsFrom_in {x : Str} : ∀ {names : List (Str × NameKind)} {n : Nat} {acc : List (Str × Addr)}, (x, NameKind.cell) ∈ names → ((cellsFrom n names acc).lookup x).isSome = true
  | [], _, _, h => nomatch h
  | (y, k) :: r, n, acc, h => by
    unfold cellsFrom
    rcases List.mem_cons.mp h with e | h
    · cases e
      rw [if_pos (by rfl)]
      refine cellsFrom_acc ?_
      rw [List.lookup_cons, beq_self_eq_true]; rfl
    · split
      · exact cellsFrom_in h
      · exact cellsFrom_in h

theorem cellsFrom_mem {p : Str × Addr} : ∀ {names : List (Str × NameKind)} {n : Nat} {acc : List (Str × Addr)}, p ∈ cellsFrom n names acc → p ∈ acc ∨ p.1 ∈ names.map (·.1)
  | [], _, _, h => .inl h
  | (y, k) :: r, n, acc, h => by
    unfold cellsFrom at h
    split at h
    · rcases cellsFrom_mem h with h | h
      · rcases List.mem_cons.mp h with rfl | h
        · exact .inr (by simp)
        · exact .inl h
      · exact .inr (by simp at h ⊢; exact .inr h)
    · rcases cellsFrom_mem h with h | h
      · exact .inl h
      · exact .inr (by simp at h ⊢; exact .inr h)
theorem cellsFrom_nodup : ∀ {names : List (Str × NameKind)} {n : Nat} {acc : List (Str × Addr)}, (names.map (·.1)).Nodup → (acc.map (·.1)).Nodup → (∀ x ∈ acc.map (·.1), x ∉ names.map (·.1)) → ((cellsFrom n names acc).map (·.1)).Nodup
  | [], _, _, _, h, _ => h
  | (y, k) :: r, n, acc, nd, h, d => by
    rw [List.map_cons, List.nodup_cons] at nd
    unfold cellsFrom
    split
    · refine cellsFrom_nodup nd.2 ?_ fun x hx => ?_
      · rw [List.map_cons, List.nodup_cons]
        exact ⟨fun q => d y q (by simp), h⟩
      · rw [List.map_cons] at hx
        rcases List.mem_cons.mp hx with rfl | hx
        · exact nd.1
        · exact fun q => d x hx (by rw [List.map_cons]; exact List.mem_cons_of_mem _ q)
    · exact cellsFrom_nodup nd.2 h fun x hx q => d x hx (by rw [List.map_cons]; exact List.mem_cons_of_mem _ q)
theorem lookup_mem_nodupA : ∀ {l : List (Str × Addr)} {x : Str} {k : Addr}, (l.map (·.1)).Nodup → (x, k) ∈ l → l.lookup x = some k
  | [], _, _, _, h => nomatch h
  | (y, j) :: r, x, k, nd, h => by
    rw [List.map_cons, List.nodup_cons] at nd
    rw [List.lookup_cons]
    rcases List.mem_cons.mp h with e | h
    · cases e; rw [beq_self_eq_true]
    · have : (x == y) = false := by
        rw [beq_eq_false_iff_ne]
        intro q
        exact nd.1 (q ▸ List.mem_map.mpr ⟨(x, k), h, rfl⟩)
      rw [this]; exact lookup_mem_nodupA nd.2 h

/-- a frame's own changes are nothing to its caller -/
theorem Tr.leave {fa fb : List Addr} {I I' : Im} {as as' : As} {s s1 s' : Shared} (x : Tr fb I as s I as s1) (y : Tr (fb ++ fa) I as s1 I' as' s') (h : ∀ a ∈ fa, s.heap.objs.size ≤ a) : Tr fb I as s I' as' s' := by
  refine ⟨y.imm, fun b o e => ?_, y.pre, fun a ha => ?_, fun b o e h1 h2 => ?_, Nat.le_trans x.size y.size⟩
  · rcases y.immN b o e with q | q | q
    · exact .inl q
    · exact .inr (.inl (Nat.le_trans x.size q))
    · rcases List.mem_append.mp q with q | q
      · exact .inr (.inr q)
      · exact .inr (.inl (h b q))
  · rcases y.fresh a ha with q | q
    · exact .inl q
    · exact .inr (Nat.le_trans x.size q)
  · refine y.kept b o (x.kept b o e h1 h2) h1 fun q => ?_
    rcases List.mem_append.mp q with q | q
    · exact h2 q
    · exact absurd (Heap.lt_size e) (Nat.not_lt.mpr (h b q))

/-- what a def of the text is: its scope, its parameters' names (the first of the scope's names), its body -/
structure DefOk (c : Cx) (a : Addr) (sc : Scope) (ps : List Str) (body : List Stmt) (fd : FuncData) : Prop where
  at_ : ∃ o, c.base a = some o ∧ o.data = .func fd
  code : ∀ h, Ext c.base h → h.CodeRec fd.code fd.qualname
  body_ : fd.body = .stmts body
  scope : fd.scope = sc
  kind : sc.kind = .function
  co : sc.isCoroutine = false
  gen : sc.isGenerator = false
  g : fd.globals = mainGlobals
  b : fd.builtins = builtinsNs
  clo : fd.closure = []
  nd : (sc.names.map (·.1)).Nodup
  free : ∀ x ∈ sc.names, x.2 ≠ .free
  ps_ : (sc.names.take ps.length).map (·.1) = ps
  pk : ∀ x ∈ sc.names.take ps.length, x.2 = .local ∨ x.2 = .cell

theorem lookup_mem_nodup : ∀ {l : List (Str × NameKind)} {x : Str} {k : NameKind}, (l.map (·.1)).Nodup → (x, k) ∈ l → l.lookup x = some k
  | [], _, _, _, h => nomatch h
  | (y, j) :: r, x, k, nd, h => by
    rw [List.map_cons, List.nodup_cons] at nd
    rw [List.lookup_cons]
    rcases List.mem_cons.mp h with e | h
    · cases e; rw [beq_self_eq_true]
    · rename_i h2
      have : (x == y) = false := by
        rw [beq_eq_false_iff_ne]
        intro q
        exact nd.1 (q ▸ List.mem_map.mpr ⟨(x, k), h, rfl⟩)
      rw [this]; exact lookup_mem_nodup nd.2 h

def outOf (r : Option ((Fl × List V) × List O)) : Option (V × List O) := match r with
  | some ((.ret v, _), H) => some (v, H)
  | some ((.next, _), H) => some (.none, H)
  | _ => none
def loOf (k : Nat) (vs : List V) : List V := vs ++ List.replicate (k - vs.length) .unb

theorem loOf_get {k : Nat} {vs : List V} {i : Nat} {v : V} (h : (loOf k vs)[i]? = some v) (hv : v ≠ .unb) : vs[i]? = some v := by
  unfold loOf at h
  by_cases hi : i < vs.length
  · rwa [List.getElem?_append_left hi] at h
  · rw [List.getElem?_append_right (Nat.le_of_not_lt hi), List.getElem?_replicate] at h
    split at h
    · cases h; exact absurd rfl hv
    · cases h

/-- the body run in a new frame, its parameters bound -/
theorem run_bodyW {c : Cx} {n : Nat} {a : Addr} {sc : Scope} {ps : List Str} {body : List Stmt} {fd : FuncData} {f : Sf} (D : DefOk c a sc ps body fd)
    (hf : ∀ env lo I as H s, EOk env sc → env.code = fd.code → env.qual = fd.qualname ++ ".<locals>." → LR c env lo I as s → Inv c I as H s → Ho c n (fAddrs env) (execs body env) (fun I as _ b fl => FlR c I as b.1 fl) I as s (f lo H))
    {vs : List V} {xs : List Value} {I : Im} {as : As} {H : List O} {s : Shared} (J : Inv c I as H s) (R : All2 (VR c I as) vs xs) (hlen : vs.length = ps.length) {A : Around} (hA : Rm (n + 1) A) {v : V} {H' : List O}
    (hr : outOf (f (loOf sc.names.length vs) H) = some (v, H')) {Q : Result → Shared → Prop} (hQ : ∀ val s' I' as', Tr [] I as s I' as' s' → Inv c I' as' H' s' → VR c I' as' v val → Q (.ok (.ret val)) s') :
    wpAny (model c.prog c.w) A.in1 (newFunctionEnv fd.scope fd.globals fd.closure (ps.zip xs) (fd.qualname ++ ".<locals>.") (some a) fd.code none fd.builtins)
        (fun env s₂ => s₂.heap.NoLimit ∧ codeAny (model c.prog c.w) A (.func body env) Q s₂) (fun e s' => Q (.error e) s') s := by
  have hxl : xs.length = ps.length := by rw [← R.length]; exact hlen
  have hnames : (ps.zip xs).map (·.1) = ps := List.map_fst_zip (by omega)
  have hpnd : ps.Nodup := by
    rw [← D.ps_, List.map_take]
    exact List.Nodup.sublist (List.take_sublist _ _) D.nd
  have hnd : ((ps.zip xs).map (·.1)).Nodup := by rw [hnames]; exact hpnd
  have mem_param : ∀ x, x ∈ ps → ∃ k, (x, k) ∈ sc.names ∧ (k = .local ∨ k = .cell) := fun x hx => by
    rw [← D.ps_] at hx
    obtain ⟨⟨y, k⟩, hy, rfl⟩ := List.mem_map.mp hx
    exact ⟨k, List.mem_of_mem_take hy, D.pk _ hy⟩
  rw [D.clo, D.scope]
  refine wpAny_newFunctionEnv_cells D.kind (fun x hx => ?_) fun env he s' X => ?_
  · obtain ⟨k, hm, hk⟩ := mem_param x.1 (by rw [← hnames]; exact List.mem_map.mpr ⟨x, hx, rfl⟩)
    rcases hk with rfl | rfl
    · exact .inl (lookup_mem_nodup D.nd hm)
    · exact .inr ⟨lookup_mem_nodup D.nd hm, cellsFrom_in hm⟩
  · have hkeep := X.toInCall.keep
    obtain ⟨h1, tk, hs'⟩ := X.toInCall.same
    subst hs'
    have hz1 : s.heap.objs.size ≤ h1.objs.size := Nat.le_trans X.toInCall.fresh (Nat.le_of_lt X.toInCall.ns.lt)
    have J1 : Inv c I as H { s with heap := h1, toks := tk } := J.grow tk hz1 hkeep
    have T1 : Tr [] I as s I as { s with heap := h1, toks := tk } := Tr.grow [] I as s tk hz1 hkeep
    have hsc : env.scope = sc := by rw [he]; rfl
    have hloc : env.locals = s.heap.objs.size := by rw [he]; rfl
    have hcells : env.cells = cellsFrom (s.heap.objs.size + 1) sc.names [] := by rw [he]; rfl
    have hnone : ∀ b, s.heap.objs.size ≤ b → s.heap.get? b = none := fun b hb => by
      cases e : s.heap.get? b with
      | none => rfl
      | some o => exact absurd (Heap.lt_size e) (Nat.not_lt.mpr hb)
    have hfresh : ∀ b, s.heap.objs.size ≤ b → b ∉ as.flatten ∧ I b = none := fun b hb => by
      refine ⟨fun q => ?_, ?_⟩
      · exact absurd (J.lt b q) (Nat.not_lt.mpr hb)
      · cases e : I b with
        | none => rfl
        | some o => have := J.imm b o e; rw [hnone b hb] at this; cases this
    have hkind : ∀ x k, (x, k) ∈ sc.names → env.kindOf x = some k := fun x k hm => by
      show env.scope.names.lookup x = some k
      rw [hsc]; exact lookup_mem_nodup D.nd hm
    have eok : EOk env sc := ⟨hsc, D.kind, by rw [he]; exact D.g, by rw [he]; exact D.b, D.nd⟩
    have param_get : ∀ i x k w, sc.names[i]? = some (x, k) → vs[i]? = some w → ∃ val, (x, val) ∈ ps.zip xs ∧ VR c I as w val := fun i x k w e1 e2 => by
      obtain ⟨val, hv, hvr⟩ := R.get e2
      refine ⟨val, ?_, hvr⟩
      have hi : i < ps.length := by rw [← hlen]; exact (List.getElem?_eq_some_iff.mp e2).1
      have hp : ps[i]? = some x := by
        rw [← D.ps_, List.getElem?_map, List.getElem?_take, if_pos hi, e1]; rfl
      exact List.mem_of_getElem? (i := i) (by rw [List.getElem?_zip_eq_some]; exact ⟨hp, hv⟩)
    have L1 : LR c env (loOf sc.names.length vs) I as { s with heap := h1, toks := tk } := by
      refine ⟨fun b hb => ?_, ⟨_, X.toInCall.ns, fun i x w e1 e2 e3 => ?_⟩, fun i x k e hk => ?_, ?_⟩
      · rcases List.mem_cons.mp hb with rfl | hb
        · refine ⟨X.toInCall.ns.lt, ?_⟩
          exact hfresh _ (by rw [hloc]; exact Nat.le_refl _)
        · obtain ⟨⟨y, b'⟩, hy, rfl⟩ := List.mem_map.mp hb
          have hab := X.above y b' hy
          refine ⟨?_, hfresh _ (by rw [hloc] at hab; exact Nat.le_of_lt hab)⟩
          have hz : env.cells.lookup y = some b' := lookup_mem_nodupA (by rw [hcells]; exact cellsFrom_nodup D.nd (by simp) (by simp)) hy
          exact (X.cell y b' hz).lt
      · rw [hsc] at e1
        obtain ⟨val, hm, hvr⟩ := param_get i x _ w e1 (loOf_get e2 e3)
        exact ⟨val, bindL_in hnd hm (hkind x _ (List.mem_of_getElem? e1)), hvr⟩
      · rw [hsc] at e
        rcases hk with rfl | rfl
        · have hm := List.mem_of_getElem? e
          obtain ⟨d, hd⟩ := Option.isSome_iff_exists.mp (cellsFrom_in (n := s.heap.objs.size + 1) (acc := []) hm)
          rw [← hcells] at hd
          refine ⟨d, hd, _, X.cell x d hd, fun w e1 e2 => ?_⟩
          obtain ⟨val, hmm, hvr⟩ := param_get i x _ w e (loOf_get e1 e2)
          exact ⟨val, bindC_in hnd hmm (by rw [hkind x _ hm]; decide), hvr⟩
        · exact absurd rfl (D.free _ (List.mem_of_getElem? e))
      · rw [fAddrs, List.nodup_cons]
        refine ⟨fun q => ?_, List.pairwise_map.mpr X.apart⟩
        obtain ⟨⟨y, b⟩, hy, e⟩ := List.mem_map.mp q
        have := X.above y b hy
        rw [show b = env.locals from e] at this
        exact Nat.lt_irrefl _ this
    refine ⟨J1.nolim, codeAny_func ?_⟩
    have hfa : ∀ b ∈ fAddrs env, s.heap.objs.size ≤ b := fun b hb => by
      rcases List.mem_cons.mp hb with rfl | hb
      · rw [hloc]; exact Nat.le_refl _
      · obtain ⟨⟨y, b'⟩, hy, rfl⟩ := List.mem_map.mp hb
        have hab := X.above y b' hy
        rw [hloc] at hab; exact Nat.le_of_lt hab
    unfold outOf at hr
    split at hr
    · rename_i v' lo' Hx hfr
      cases hr
      refine wpAny_mono ((hf env _ I as H _ eok (by rw [he]; rfl) (by rw [he]; rfl) L1 J1).use hfr (hA.deeper env) fun fl s2 I2 as2 T2 J2 R2 => ?_) (fun _ _ q => q) fun _ _ q => q.elim
      cases R2 with
      | ret hv => exact hQ _ _ _ _ (T1.leave T2 hfa) J2 hv
    · rename_i lo' Hx hfr
      cases hr
      refine wpAny_mono ((hf env _ I as H _ eok (by rw [he]; rfl) (by rw [he]; rfl) L1 J1).use hfr (hA.deeper env) fun fl s2 I2 as2 T2 J2 R2 => ?_) (fun _ _ q => q) fun _ _ q => q.elim
      cases R2 with
      | next => exact hQ _ _ _ _ (T1.leave T2 hfa) J2 .none
    · cases hr

theorem run_body {c : Cx} {n : Nat} {a : Addr} {sc : Scope} {ps : List Str} {body : List Stmt} {fd : FuncData} {f : Sf} (D : DefOk c a sc ps body fd) (hf : SS c n sc body f)
    {vs : List V} {xs : List Value} {I : Im} {as : As} {H : List O} {s : Shared} (J : Inv c I as H s) (R : All2 (VR c I as) vs xs) (hlen : vs.length = ps.length) {A : Around} (hA : Rm (n + 1) A) {v : V} {H' : List O}
    (hr : outOf (f (loOf sc.names.length vs) H) = some (v, H')) {Q : Result → Shared → Prop} (hQ : ∀ val s' I' as', Tr [] I as s I' as' s' → Inv c I' as' H' s' → VR c I' as' v val → Q (.ok (.ret val)) s') :
    wpAny (model c.prog c.w) A.in1 (newFunctionEnv fd.scope fd.globals fd.closure (ps.zip xs) (fd.qualname ++ ".<locals>.") (some a) fd.code none fd.builtins)
        (fun env s₂ => s₂.heap.NoLimit ∧ codeAny (model c.prog c.w) A (.func body env) Q s₂) (fun e s' => Q (.error e) s') s :=
  run_bodyW D (fun env lo I as H s he _ _ L J b H' hr A hA => (hf env lo I as H s he L J).use hr hA fun fl s' I' as' T J R => ⟨I', as', T, J, R.1⟩) J R hlen hA hr hQ

def fnOf (k m : Nat) (f : Sf) : Fp := fun vs H => gd (Nat.beq vs.length k) (outOf (f (loOf m vs) H))

theorem FnS.of {c : Cx} {n : Nat} {a : Addr} {sc : Scope} {ps : List Str} {body : List Stmt} {fd : FuncData} {f : Sf} (D : DefOk c a sc ps body fd) (hb : ∀ xs : List Value, xs.length = ps.length → bindArgs fd ⟨xs, []⟩ = pure (ps.zip xs)) (hf : SS c n sc body f) :
    FnS c (n + 1) a (fnOf ps.length sc.names.length f) where
  fn := let ⟨o, h1, h2⟩ := D.at_; ⟨o, fd, h1, h2⟩
  run := by
    intro vs xs I as H s J R v H' hr A hA
    obtain ⟨hlen, hr⟩ := gd_some hr
    have hlen := Nat.eq_of_beq_eq_true hlen
    obtain ⟨o, h1, h2⟩ := D.at_
    have hE : Ext c.base s.heap := fun b o e => J.imm b o (J.base b o e)
    refine wpAny_call (codeAny_call_function hA.room (hE _ _ h1) h2 (by rw [D.scope]; exact D.co) (by rw [D.scope]; exact D.gen) D.body_ (D.code _ hE) ?_)
    rw [hb xs (by rw [← R.length]; exact hlen)]
    exact wpAny_pure (run_body D hf J R hlen hA hr fun val s' I' as' T' J' R' => ⟨I', as', T', J', R'⟩)

end
end Mine
-- part M8.lean
set_option autoImplicit false
set_option maxRecDepth 100000
set_option linter.unusedVariables false
namespace Mine
open PySem PySem.W PyProof.Rows
noncomputable section

theorem noNote {M : Model} {A : Around} {α : Type} {t : Sem α} {Q : α → Shared → Prop} {s : Shared} {E : Value → Shared → Prop} (h : wpAny M A t Q (fun _ _ => False) s) : wpAny M A t Q E s := wpAny_mono h (fun _ _ q => q) fun _ _ f => f.elim

/-! while -/
def whl (t : Tf) (b : Sf) (n : Nat) : Sf := Nat.rec (fun _ _ => none) (fun _ ih lo H => bnd (t lo H) fun d H1 => match d with
    | false => some ((.next, lo), H1)
    | true => bnd (b lo H1) fun r H2 => match r with
      | (.next, lo2) => ih lo2 H2
      | (.cont, lo2) => ih lo2 H2
      | (.brk, lo2) => some ((.next, lo2), H2)
      | (.ret v, lo2) => some ((.ret v, lo2), H2)) n
abbrev WInv (c : Cx) (env : Env) (q : Tf) (f : Sf) (r : Fl × List V) (H' : List O) (I : Im) (as : As) (s : Shared) : Nat → Shared → Prop := fun k s' => ∃ lo1 I1 as1 H1, Tr (fAddrs env) I as s I1 as1 s' ∧ Inv c I1 as1 H1 s' ∧ LR c env lo1 I1 as1 s' ∧ whl q f k lo1 H1 = some (r, H')
theorem ST.whl {c : Cx} {n : Nat} {sc : Scope} {t : Expr} {b : List Stmt} {pos : Pos} {q : Tf} {f : Sf} (fuel : Nat) (hq : TT c n sc t q) (hf : SS c n sc b f) : ST c n sc (.While t b [] pos) (whl q f fuel) := by
  intro env lo I as H s he L J r H' hr A hA
  refine wpAny_While ?_
  refine codeAny_whileLoop (WInv c env q f r H' I as s) ?_ fuel ⟨lo, I, as, H, Tr.refl .., J, L, hr⟩
  rintro k s1 ⟨lo1, I1, as1, H1, T1, J1, L1, hk⟩
  cases k with
  | zero => cases hk
  | succ k =>
    obtain ⟨d, H2, e1, hk⟩ := bnd_some hk
    refine noNote ((hq env lo1 I1 as1 H1 s1 he L1 J1).use e1 hA fun x s2 I2 as2 T2 J2 R2 => ?_)
    cases R2
    cases d with
    | false =>
      cases hk
      rw [if_neg Bool.false_ne_true]
      exact wpAny_execs_nil ⟨I2, as2, T1.trans T2.nil, J2, .next, L1.tr T2⟩
    | true =>
      rw [if_pos rfl]
      obtain ⟨⟨fl, lo2⟩, H3, e2, hk⟩ := bnd_some hk
      refine noNote ((hf env lo1 I2 as2 H2 s2 he (L1.tr T2) J2).use e2 hA fun x s3 I3 as3 T3 J3 R3 => ?_)
      obtain ⟨R3, L3⟩ := R3
      have T := T1.trans (T2.nil.trans T3)
      cases R3 with
      | next => exact ⟨k, Nat.lt_succ_self _, lo2, I3, as3, H3, T, J3, L3, hk⟩
      | cont => exact ⟨k, Nat.lt_succ_self _, lo2, I3, as3, H3, T, J3, L3, hk⟩
      | brk => cases hk; exact ⟨I3, as3, T, J3, .next, L3⟩
      | ret h => cases hk; exact ⟨I3, as3, T, J3, .ret h, L3⟩

end
end Mine
-- part M9.lean
set_option autoImplicit false
set_option maxRecDepth 100000
set_option linter.unusedVariables false
namespace Mine
open PySem PySem.W PyProof.Rows
noncomputable section

/-! iterators -/
inductive It where
  | list (i k : Nat)
  | seq (vs : List V)
  | keys (i k n : Nat)
def It.next : It → List O → Option (Option V × It)
  | .list i k, H => ob (asList H i) fun xs => some (xs[k]?, .list i (k + 1))
  | .seq vs, _ => match vs with
    | [] => some (.none, .seq [])
    | v :: vs => some (some v, .seq vs)
  | .keys i k n, H => ob (asDict H i) fun xs => gd (Nat.beq xs.length n) (some (Option.map (fun p => V.str p.1) (xs[k]?), .keys i (k + 1) n))

/-- an iterator object at a, own to the loop; fa: the frame's addresses; own: what a turn of it changes -/
inductive ItR (c : Cx) (I : Im) (as : As) (h : Heap) (fa : List Addr) : List Addr → It → Addr → Prop
  | list {i k : Nat} {a l : Addr} {fp : List Addr} (hl : as[i]? = some (l :: fp)) (e : h.IsListIter a l k) (ho : a ∉ as.flatten) (hi : I a = none) (hf : a ∉ fa) : ItR c I as h fa [a] (.list i k) a
  | seq {vs : List V} {a : Addr} {fp wr : List Addr} {n k : Nat} {P : Nat → Value → Prop} {St : Nat → Heap → Prop} (W : ∀ A : Around, A.handled = none → Walks c.prog c.w A a fp wr n P St) (st : St k h) (hn : n = k + vs.length)
      (hP : ∀ j v, P (k + j) v → j < vs.length → ∃ x, vs[j]? = some x ∧ VR c I as x v) (ho : ∀ b ∈ fp, b < h.objs.size ∧ b ∉ as.flatten ∧ b ∉ fa) (hw : ∀ b ∈ wr, I b = none) : ItR c I as h fa wr (.seq vs) a
  | keys {i k n : Nat} {a d : Addr} {fp : List Addr} (hl : as[i]? = some (d :: fp)) (e : h.IsKeyIter a d k n n) (ho : a ∉ as.flatten) (hi : I a = none) (hf : a ∉ fa) : ItR c I as h fa [a] (.keys i k n) a

theorem ItR.tr {c : Cx} {fa own : List Addr} {I I' : Im} {as as' : As} {s s' : Shared} {it : It} {a : Addr} (R : ItR c I as s.heap fa own it a) (T : Tr fa I as s I' as' s') : ItR c I' as' s'.heap fa own it a := by
  have hx : ∀ b, b < s.heap.objs.size → b ∉ as.flatten → b ∉ as'.flatten := fun b h1 h2 q => by
    rcases T.fresh b q with q | q
    · exact h2 q
    · exact absurd h1 (Nat.not_lt.mpr q)
  have hI : ∀ b, b < s.heap.objs.size → b ∉ fa → I b = none → I' b = none := fun b h1 hnf h2 => by
    cases e : I' b with
    | none => rfl
    | some o => rcases T.immN b o e with q | q | q
                · rw [h2] at q; cases q
                · exact absurd h1 (Nat.not_lt.mpr q)
                · exact absurd q hnf
  cases R with
  | @list i k a l fp hl e ho hi hf =>
    obtain ⟨ex, rfl⟩ := T.pre
    have hlt : a < s.heap.objs.size := let ⟨o, q, _⟩ := e; Heap.lt_size q
    exact .list (getElem?_append_some hl) (e.at fun o q => T.kept _ o q ho hf) (hx _ hlt ho) (hI _ hlt hf hi) hf
  | seq W st hn hP ho hw =>
    refine .seq W ((W callerA rfl).frame _ _ _ st fun b hb o e => T.kept b o e (ho b hb).2.1 (ho b hb).2.2) hn (fun j v p q => ?_) (fun b hb => ⟨Nat.lt_of_lt_of_le (ho b hb).1 T.size, hx b (ho b hb).1 (ho b hb).2.1, (ho b hb).2.2⟩) fun b hb => hI b (ho b ((W callerA rfl).sub b hb)).1 (ho b ((W callerA rfl).sub b hb)).2.2 (hw b hb)
    obtain ⟨x, h1, h2⟩ := hP j v p q
    exact ⟨x, h1, h2.tr T⟩
  | @keys i k n a d fp hl e ho hi hf =>
    obtain ⟨ex, rfl⟩ := T.pre
    obtain ⟨o, q, z⟩ := e
    have hlt : a < s.heap.objs.size := Heap.lt_size q
    exact .keys (getElem?_append_some hl) ⟨o, T.kept _ o q ho hf, z⟩ (hx _ hlt ho) (hI _ hlt hf hi) hf
theorem ItR.off {c : Cx} {fa own : List Addr} {I : Im} {as : As} {h : Heap} {it : It} {a : Addr} (R : ItR c I as h fa own it a) : ∀ b ∈ own, b ∉ fa := by
  cases R with
  | list hl e ho hi hf => intro b hb; simp at hb; subst hb; exact hf
  | keys hl e ho hi hf => intro b hb; simp at hb; subst hb; exact hf
  | seq W st hn hP ho hw => intro b hb; exact (ho b ((W callerA rfl).sub b hb)).2.2

/-- a change at own addresses that lie outside -/
theorem Inv.own {c : Cx} {I : Im} {as : As} {H : List O} {s : Shared} (J : Inv c I as H s) {own : List Addr} {h' : Heap} (k : Nat) (ha : ∀ a ∈ own, a ∉ as.flatten ∧ I a = none) (hz : s.heap.objs.size ≤ h'.objs.size) (hk : ∀ b o, b ∉ own → s.heap.get? b = some o → h'.get? b = some o) : Inv c I as H { s with heap := h', toks := k } := by
  refine ⟨fun b o e => hk b o (fun q => by rw [(ha b q).2] at e; cases e) (J.imm b o e), J.base, J.len, fun i o fp e1 e2 => ?_, J.nodup, J.out, fun b h => Nat.lt_of_lt_of_le (J.lt b h) hz, J.gens, J.os⟩
  have := (J.objs i o fp e1 e2).mono (I' := I) (ex := []) (h' := h') (fun _ _ e => e) fun b hb ob e => hk b ob (fun q => (ha b q).1 (List.mem_flatten.mpr ⟨fp, List.mem_of_getElem? e2, hb⟩)) e
  simpa using this
theorem Tr.own {own : List Addr} (I : Im) (as : As) (s : Shared) {h' : Heap} (k : Nat) (hz : s.heap.objs.size ≤ h'.objs.size) (hk : ∀ b o, b ∉ own → s.heap.get? b = some o → h'.get? b = some o) : Tr own I as s I as { s with heap := h', toks := k } :=
  ⟨fun _ _ e => e, fun _ _ e => .inl e, ⟨[], by simp⟩, fun _ h => .inl h, fun b o e _ hb => hk b o hb e, hz⟩

def NextR (c : Cx) (I : Im) (as : As) : Option V → Option Value → Prop
  | .none, .none => True
  | some v, some x => VR c I as v x
  | _, _ => False

theorem It.sound {c : Cx} {fa own : List Addr} {I : Im} {as : As} {H : List O} {s : Shared} {it it' : It} {a : Addr} {ov : Option V} (R : ItR c I as s.heap fa own it a) (J : Inv c I as H s) (hn : it.next H = some (ov, it')) {A : Around} (hA : A.handled = none) {Q : Option Value → Shared → Prop}
    (h : ∀ r s', NextR c I as ov r → Tr own I as s I as s' → Inv c I as H s' → (ov.isSome = true → ItR c I as s'.heap fa own it' a) → Q r s') : wpAny (model c.prog c.w) A (pyNext (.ref a)) Q (fun _ _ => False) s := by
  refine wpAny_sized ?_
  cases R with
  | @list i k a l fp hl e ho hi hf =>
    obtain ⟨xs, e1, hn⟩ := ob_some hn
    cases hn
    obtain ⟨items, nn, rfl, o1, r1, hl1⟩ := or_list (J.obj hl (asList_some e1))
    have hla : l ≠ a := fun q => ho (by rw [← q]; exact List.mem_flatten.mpr ⟨_, List.mem_of_getElem? hl, by simp⟩)
    have hoff : ∀ b ∈ [a], b ∉ as.flatten ∧ I b = none := fun b hb => by simp at hb; subst hb; exact ⟨ho, hi⟩
    cases e2 : xs[k]? with
    | none =>
      have e3 : items.toArray[k]? = none := by
        have hz := r1.length
        rw [List.getElem?_eq_none_iff] at e2
        simp; omega
      refine wpAny_pyNext_list_end hA e (isList_of o1) e3 fun h' he' hz => ?_
      have hk : ∀ b o, b ∉ [a] → s.heap.get? b = some o → h'.get? b = some o := fun b o hb q => he' b o (fun z => hb (by simp [z])) q
      rw [e2] at h
      exact h _ _ trivial (Tr.own I as s s.toks hz hk) (J.own s.toks hoff hz hk) fun q => by cases q
    | some v =>
      obtain ⟨val, hv, hvr⟩ := r1.get e2
      refine wpAny_pyNext_list_item e (isList_of o1) (x := val) (by simpa using hv) fun h' hit' hs' hz => ?_
      have hk : ∀ b o, b ∉ [a] → s.heap.get? b = some o → h'.get? b = some o := fun b o hb q => (hs'.2 b (fun z => hb (by simp [z]))).trans q
      rw [e2] at h
      exact h _ _ hvr (Tr.own I as s s.toks hz hk) (J.own s.toks hoff hz hk) fun q => .list hl hit' ho hi hf
  | @seq vs a fp wr n k P St W st hnn hP ho hw =>
    have W' := W A hA
    have hoff : ∀ b ∈ own, b ∉ as.flatten ∧ I b = none := fun b hb => ⟨(ho b (W'.sub b hb)).2.1, hw b hb⟩
    cases vs with
    | nil =>
      cases hn
      have : n = k := by simpa using hnn
      subst this
      refine W'.done s _ _ st fun h' tk hk hz => ?_
      exact h _ _ trivial (Tr.own I as s tk hz hk) (J.own tk hoff hz hk) fun q => by cases q
    | cons v vs =>
      cases hn
      refine W'.item k s _ _ (by rw [hnn]; simp) st fun val h' tk hp st' hk hz => ?_
      obtain ⟨x, h1, h2⟩ := hP 0 val hp (by simp)
      cases h1
      refine h _ _ h2 (Tr.own I as s tk hz hk) (J.own tk hoff hz hk) fun _ => .seq W st' (by rw [hnn]; simp; omega) (fun j w p q => ?_) (fun b hb => ⟨Nat.lt_of_lt_of_le (ho b hb).1 hz, (ho b hb).2⟩) hw
      obtain ⟨y, q1, q2⟩ := hP (j + 1) w (by rw [← Nat.add_assoc, Nat.add_right_comm]; exact p) (by simp; exact q)
      exact ⟨y, by simpa using q1, q2⟩
  | @keys i k n a d fp hl e ho hi hf =>
    obtain ⟨xs, e1, hn⟩ := ob_some hn
    obtain ⟨e0, hn⟩ := gd_some hn
    cases hn
    have e0 := Nat.eq_of_beq_eq_true e0
    subst e0
    have hoff : ∀ b ∈ [a], b ∉ as.flatten ∧ I b = none := fun b hb => by simp at hb; subst hb; exact ⟨ho, hi⟩
    obtain ⟨kvs, rfl, dm, r1, hl1, hs1⟩ := or_dict (J.obj hl (asDict_some e1))
    have hzl := r1.length
    rw [hzl] at e dm
    cases e2 : xs[k]? with
    | none =>
      have e3 : kvs[k]? = none := by rw [List.getElem?_eq_none_iff] at e2 ⊢; omega
      refine wpAny_pyNext_dict_end hA e dm e3 fun h' he' hz => ?_
      have hk : ∀ b o, b ∉ [a] → s.heap.get? b = some o → h'.get? b = some o := fun b o hb q => he' b o (fun z => hb (by simp [z])) q
      rw [e2] at h
      exact h _ _ trivial (Tr.own I as s s.toks hz hk) (J.own s.toks hoff hz hk) fun q => by cases q
    | some p =>
      obtain ⟨q, hv, q1, q2, q3⟩ := r1.get e2
      refine wpAny_pyNext_dict_item (k := q.1) (v := q.2) e dm hv fun key h' hkey hit' hs' hz => ?_
      have hk : ∀ b o, b ∉ [a] → s.heap.get? b = some o → h'.get? b = some o := fun b o hb z => (hs'.2 b (fun y => hb (by simp [y]))).trans z
      rw [e2] at h
      obtain ⟨t, rfl⟩ := Value.isStrOf_shape hkey
      refine h _ _ (by rw [q1]; exact .str t q2) (Tr.own I as s s.toks hz hk) (J.own s.toks hoff hz hk) fun _ => .keys hl ?_ ho hi hf
      rw [hzl]
      exact hit'

abbrev If := List V → List O → Option (It × List O)
/-- an iterable's pure side -/
def IS (c : Cx) (n : Nat) (sc : Scope) (e : Expr) (g : If) : Prop :=
  ∀ env lo I as H s, EOk env sc → LR c env lo I as s → Inv c I as H s → ∀ it H', g lo H = some (it, H') → ∀ A, Rm n A → ∀ fa : List Addr, (∀ b ∈ fa, b < s.heap.objs.size) →
    wpAny (model c.prog c.w) A (eval e env) (fun x s1 => wpAny (model c.prog c.w) A (pyIter x) (fun itv s2 => ∃ a own I' as', itv = .ref a ∧ Tr [] I as s I' as' s2 ∧ Inv c I' as' H' s2 ∧ ItR c I' as' s2.heap fa own it a ∧ ∀ b ∈ own, s.heap.objs.size ≤ b) (fun _ _ => False) s1) (fun _ _ => False) s

def itOf (v : V) (H : List O) : Option (It × List O) := match v with
  | .ref i => ob (asList H i) fun _ => some (.list i 0, H)
  | .str l => some (.seq (l.map fun k => .str [k]), H)
  | _ => .none
def iVal (f : Ef) : If := fun lo H => bnd (f lo H) itOf

theorem fresh_off {c : Cx} {I : Im} {as : As} {H : List O} {s : Shared} (J : Inv c I as H s) {b : Addr} (hb : s.heap.objs.size ≤ b) : b ∉ as.flatten ∧ I b = none :=
  ⟨fun q => absurd (J.lt b q) (Nat.not_lt.mpr hb), by
    cases e : I b with
    | none => rfl
    | some o => exact absurd (Heap.lt_size (J.imm b o e)) (Nat.not_lt.mpr hb)⟩

theorem IS.val {c : Cx} {n : Nat} {sc : Scope} {e : Expr} {f : Ef} (hf : ET c n sc e f) : IS c n sc e (iVal f) := by
  intro env lo I as H s he L J it H' hr A hA fa hfa
  obtain ⟨v, H1, e1, hr⟩ := bnd_some hr
  refine (hf env lo I as H s he L J).use e1 hA fun x s1 I1 as1 T1 J1 R1 => ?_
  have hfr := fresh_off J1 (Nat.le_refl s1.heap.objs.size)
  have hnf : s1.heap.objs.size ∉ fa := fun q => absurd (Nat.lt_of_lt_of_le (hfa _ q) T1.size) (Nat.lt_irrefl _)
  cases R1 with
  | @ref i a fp h =>
    obtain ⟨xs, e2, hr⟩ := ob_some hr
    cases hr
    obtain ⟨items, nn, rfl, o1, r1, hl1⟩ := or_list (J1.obj h (asList_some e2))
    refine wpAny_pyIter_list (isList_of o1) ?_
    have hz : s1.heap.objs.size ≤ (s1.heap.push { cls := .type "list_iterator", data := .fields #[.ref a, .int 0 0] }).objs.size := by rw [Heap.size_push]; exact Nat.le_succ _
    have hk : ∀ b o, s1.heap.get? b = some o → (s1.heap.push { cls := .type "list_iterator", data := .fields #[.ref a, .int 0 0] }).get? b = some o := fun b o e => Heap.get?_push_of_some _ e
    refine ⟨s1.heap.objs.size, [s1.heap.objs.size], I1, as1, rfl, T1.trans (Tr.grow [] I1 as1 s1 s1.toks hz hk), J1.grow s1.toks hz hk, .list h ⟨_, Heap.get?_push_size _ rfl, rfl, rfl⟩ hfr.1 hfr.2 hnf, fun b hb => ?_⟩
    simp at hb; subst hb; exact T1.size
  | @str l t h =>
    cases hr
    refine wpAny_pyIter_str fun o St W st => ?_
    have hz : s1.heap.objs.size ≤ (s1.heap.push o).objs.size := by rw [Heap.size_push]; exact Nat.le_succ _
    have hk : ∀ b o', s1.heap.get? b = some o' → (s1.heap.push o).get? b = some o' := fun b o' e => Heap.get?_push_of_some _ e
    refine ⟨s1.heap.objs.size, [s1.heap.objs.size], I1, as1, rfl, T1.trans (Tr.grow [] I1 as1 s1 s1.toks hz hk), J1.grow s1.toks hz hk, .seq W st ?_ (fun j v p q => ?_) (fun b hb => ?_) (fun b hb => ?_), fun b hb => ?_⟩
    · simp
    · obtain ⟨ch, u, h1, rfl⟩ := p
      have h1 : l[j]? = some ch := by simpa using h1
      exact ⟨.str [ch], by rw [List.getElem?_map, h1]; rfl, .str (l := [ch]) u (by show 1 ≤ 1000000; decide)⟩
    · simp at hb; subst hb; exact ⟨by rw [Heap.size_push]; exact Nat.lt_succ_self _, hfr.1, hnf⟩
    · simp at hb; subst hb; exact hfr.2
    · simp at hb; subst hb; exact T1.size
  | _ => cases hr

/-! for -/
def forL (i : Nat) (b : Sf) (n : Nat) : It → Sf := Nat.rec (fun _ _ _ => .none) (fun _ ih it lo H => ob (it.next H) fun p => match p.1 with
    | .none => some ((.next, lo), H)
    | some v => setL lo i v fun l => bnd (b l H) fun r H2 => match r with
      | (.next, lo2) => ih p.2 lo2 H2
      | (.cont, lo2) => ih p.2 lo2 H2
      | (.brk, lo2) => some ((.next, lo2), H2)
      | (.ret w, lo2) => some ((.ret w, lo2), H2)) n
def sFor (i : Nat) (g : If) (b : Sf) (fuel : Nat) : Sf := fun lo H => bnd (g lo H) fun it H1 => forL i b fuel it lo H1

abbrev FInv (c : Cx) (env : Env) (i : Nat) (f : Sf) (r : Fl × List V) (H' : List O) (own : List Addr) (a : Addr) (I : Im) (as : As) (s : Shared) : Nat → Shared → Prop := fun k s' => ∃ lo1 I1 as1 H1 it, Tr (fAddrs env ++ own) I as s I1 as1 s' ∧ Inv c I1 as1 H1 s' ∧ LR c env lo1 I1 as1 s' ∧ ItR c I1 as1 s'.heap (fAddrs env) own it a ∧ forL i f k it lo1 H1 = some (r, H')
theorem ST.for_ {c : Cx} {n : Nat} {sc : Scope} {x : Str} {p pos : Pos} {e : Expr} {b : List Stmt} {i : Nat} {g : If} {f : Sf} (fuel : Nat) (hs : SN c sc x i) (hg : IS c n sc e g) (hf : SS c n sc b f)
    (hfs : ∀ env x, foldedSetIterable e env x = pure x) : ST c n sc (.For (.Name x p) e b [] pos) (sFor i g f fuel) := by
  intro env lo I as H s he L J r H' hr A hA
  obtain ⟨it, H1, e1, hr⟩ := bnd_some hr
  refine wpAny_For (wpAny_mono (hg env lo I as H s he L J it H1 e1 A hA (fAddrs env) fun b hb => (L.own b hb).1) (fun xv s1 h1 => wpAny_mono h1 (fun itv s2 h2 => ?_) fun _ _ f => f) fun _ _ f => f) (hfs env)
  obtain ⟨a, own, I2, as2, rfl, T2, J2, R2, hown⟩ := h2
  have key : ∀ s' I' as', Tr (fAddrs env ++ own) I2 as2 s2 I' as' s' → Tr (fAddrs env) I as s I' as' s' := fun s' I' as' T => by
    have T0 : Tr (fAddrs env ++ own) I as s I' as' s' := (T2.nil (fa := fAddrs env ++ own)).trans T
    exact (Tr.refl (fAddrs env) I as s).leave T0 hown
  refine codeAny_forLoop (FInv c env i f r H' own a I2 as2 s2) ?_ fuel ⟨lo, I2, as2, H1, it, Tr.refl .., J2, L.tr T2, R2, hr⟩ (by intro _; rfl)
  rintro k s3 ⟨lo3, I3, as3, H3, it3, T3, J3, L3, R3, hk⟩
  cases k with
  | zero => cases hk
  | succ k =>
    obtain ⟨⟨ov, it4⟩, e2, hk⟩ := ob_some hk
    refine noNote (It.sound R3 J3 e2 hA.handled fun r' s4 hN T4 J4 R4 => ?_)
    have L4 : LR c env lo3 I3 as3 s4 := L3.trD T4 fun b hb q => R3.off b q hb
    have T4' : Tr (fAddrs env ++ own) I3 as3 s3 I3 as3 s4 := T4.weak fun b hb => List.mem_append_right _ hb
    cases ov with
    | none =>
      cases r' with
      | some => exact hN.elim
      | none =>
        cases hk
        exact wpAny_execs_nil ⟨I3, as3, key _ _ _ (T3.trans T4'), J4, .next, L4⟩
    | some v =>
      cases r' with
      | none => exact hN.elim
      | some val =>
        refine wpAny_assign_Name (hs env lo3 I3 as3 H3 s4 v val he L4 J4 hN A _ _ fun s5 T5 J5 L5 => ?_)
        have hk := (setL_eq _ _ _ _).symm.trans hk
        obtain ⟨⟨fl, lo6⟩, H6, e3, hk⟩ := bnd_some hk
        have R5 := (R4 rfl).tr T5
        refine noNote ((hf env _ I3 as3 H3 s5 he L5 J5).use e3 hA fun x6 s6 I6 as6 T6 J6 R6 => ?_)
        obtain ⟨R6, L6⟩ := R6
        have T : Tr (fAddrs env ++ own) I2 as2 s2 I6 as6 s6 := T3.trans (T4'.trans ((T5.trans T6).weak fun b hb => List.mem_append_left _ hb))
        cases R6 with
        | next => exact ⟨k, Nat.lt_succ_self _, lo6, I6, as6, H6, it4, T, J6, L6, R5.tr T6, hk⟩
        | cont => exact ⟨k, Nat.lt_succ_self _, lo6, I6, as6, H6, it4, T, J6, L6, R5.tr T6, hk⟩
        | brk => cases hk; exact ⟨I6, as6, key _ _ _ T, J6, .next, L6⟩
        | ret h => cases hk; exact ⟨I6, as6, key _ _ _ T, J6, .ret h, L6⟩

end
end Mine
-- part M10.lean
set_option autoImplicit false
set_option maxRecDepth 100000
set_option linter.unusedVariables false
namespace Mine
open PySem PySem.W PyProof.Rows
noncomputable section

/-! an object changed -/
theorem flat_inj {as : As} (nd : as.flatten.Nodup) : ∀ {i j : Nat} {f g : List Addr} {b : Addr}, as[i]? = some f → as[j]? = some g → b ∈ f → b ∈ g → i = j := by
  induction as with
  | nil => intro i j f g b e; simp at e
  | cons x as ih =>
    rw [List.flatten_cons, List.nodup_append] at nd
    intro i j f g b e1 e2 h1 h2
    have out : ∀ {k : Nat} {g : List Addr}, as[k]? = some g → b ∈ g → b ∈ as.flatten := fun e h => List.mem_flatten.mpr ⟨_, List.mem_of_getElem? e, h⟩
    cases i with
    | zero =>
      simp at e1; subst e1
      cases j with
      | zero => rfl
      | succ j => simp at e2; exact absurd rfl (nd.2.2 b h1 b (out e2 h2))
    | succ i =>
      simp at e1
      cases j with
      | zero => simp at e2; subst e2; exact absurd rfl (nd.2.2 b h2 b (out e1 h1))
      | succ j => simp at e2; rw [ih nd.2.1 e1 e2 h1 h2]

theorem Inv.set {c : Cx} {I : Im} {as : As} {H : List O} {s : Shared} (J : Inv c I as H s) {i : Nat} {fp : List Addr} {b : Addr} {o' : O} {h' : Heap} (k : Nat) (ha : as[i]? = some fp) (hb : b ∈ fp) (hs : Heap.SameBut b s.heap h') (hr : OR c I as h' o' fp) :
    Inv c I as (H.set i o') { s with heap := h', toks := k } := by
  have hbf : b ∈ as.flatten := List.mem_flatten.mpr ⟨_, List.mem_of_getElem? ha, hb⟩
  have hk : ∀ x o, x ≠ b → s.heap.get? x = some o → h'.get? x = some o := fun x o hx e => (hs.2 x hx).trans e
  refine ⟨fun x o e => hk x o (fun q => by rw [q, J.out b hbf] at e; cases e) (J.imm x o e), J.base, by rw [List.length_set]; exact J.len, fun j o fp' e1 e2 => ?_, J.nodup, J.out, fun a h => by show a < h'.objs.size; rw [hs.1]; exact J.lt a h, J.gens, J.os⟩
  rw [List.getElem?_set] at e1
  by_cases hij : i = j
  · subst hij
    rw [ha] at e2; cases e2
    rw [if_pos rfl] at e1
    split at e1
    · cases e1; exact hr
    · cases e1
  · rw [if_neg hij] at e1
    have := (J.objs j o fp' e1 e2).mono (I' := I) (ex := []) (h' := h') (fun _ _ e => e) fun a hafp ob e => hk a ob (fun q => hij (flat_inj J.nodup ha e2 hb (q ▸ hafp))) e
    simpa using this
theorem Tr.set {fa : List Addr} (I : Im) (as : As) (s : Shared) {b : Addr} {h' : Heap} (k : Nat) (hb : b ∈ as.flatten) (hs : Heap.SameBut b s.heap h') : Tr fa I as s I as { s with heap := h', toks := k } :=
  ⟨fun _ _ e => e, fun _ _ e => .inl e, ⟨[], by simp⟩, fun _ h => .inl h, fun x o e hx _ => (hs.2 x (fun q => hx (q ▸ hb))).trans e, Nat.le_of_eq hs.1.symm⟩
theorem mem_flat {as : As} {i : Nat} {a : Addr} {fp : List Addr} (h : as[i]? = some (a :: fp)) : a ∈ as.flatten := List.mem_flatten.mpr ⟨_, List.mem_of_getElem? h, by simp⟩

/-! xs[i] = v -/
def setI (a b v : V) (H : List O) : Option (List O) := ob (isR a) fun r => ob (isI b) fun j => ob (natOf j) fun k => ob (asList H r) fun xs => gd (Nat.blt k xs.length) (some (H.set r (.list (xs.set k v))))
theorem setItem_exact {c : Cx} {A : Around} {s : Shared} {E : Value → Shared → Prop} {l : Addr} {items : List Value} {n k : Nat} {kk : Int} {t : Tok} {v : Value} {Q : Unit → Shared → Prop} (hkk : kk = Int.ofNat k) (hl : s.heap.get? l = some { cls := .type "list", data := .seq items.toArray n }) (hk : k < items.length) (hb : items.length ≤ big)
    (hQ : Q () { s with heap := s.heap.update l (Obj.mapSeq (·.setIfInBounds k v)) }) : wpAny (model c.prog c.w) A (setItem (.ref l) (.int kk t) v) Q E s := by
  have hT : s.TypeIs (.ref l) "list" := ⟨_, hl, rfl⟩
  have hb' : items.length ≤ 1000000 := hb
  have hx : items.toArray[k]? = some items[k] := by simp [hk]
  have hfit : Builtin.List.listFitsIndex kk = true := fitsIndex_of (by rw [hkk]; show (0 : Int) ≤ (k : Int); omega) (by rw [hkk]; show (k : Int) < 2 ^ 63; omega)
  clear hb' hb
  unfold setItem
  try with_reducible refine wpAny_holding ?_
  first | refine wpAny_bind (wpAny_pure ?_) | skip
  refine wpAny_bind (wpAny_sequenceKey hT (by decide) ?_)
  refine wpAny_bind (wpAny_callSpecial?_slot (name := Str.ofString "__setitem__") hT slot_list_setitem (wpAny_call_entry slot_list_setitem hT entry_list_setitem ?_ (args_list_setitem _ _ _)))
  show wpAny _ _ (Builtin.List.listSubscript? (.int kk t) >>= _) _ _ s
  refine wpAny_bind (wpAny_listSubscript_int hfit ?_)
  clear hfit
  subst hkk
  show wpAny _ _ ((seqItemAt l k >>= fun r => pure (r.map (k, ·))) >>= _) _ _ s
  refine wpAny_bind (wpAny_bind (wpAny_seqItemAt hl rfl (wpAny_pure ?_)))
  rw [hx]
  show wpAny _ _ (setSeqItemAt l k v >>= _) _ _ s
  refine wpAny_bind (wpAny_setSeqItemAt hl rfl ?_)
  first
    | exact wpAny_bind (wpAny_pure (wpAny_pure ⟨.none, rfl, wpAny_pure hQ⟩))
    | exact wpAny_pure ⟨.none, rfl, wpAny_pure hQ⟩

theorem setI_some {a b v : V} {H H' : List O} (h : setI a b v H = some H') : ∃ r k xs, a = .ref r ∧ b = .int (.ofNat k) ∧ asList H r = some xs ∧ k < xs.length ∧ H' = H.set r (.list (xs.set k v)) := by
  obtain ⟨r, h1, h⟩ := ob_some h
  obtain ⟨j, h2, h⟩ := ob_some h
  obtain ⟨k, h3, h⟩ := ob_some h
  obtain ⟨xs, q1, h⟩ := ob_some h
  obtain ⟨q2, h⟩ := gd_some h
  cases h
  exact ⟨r, k, xs, isR_some h1, by rw [isI_some h2, natOf_some h3], q1, Nat.lt_of_succ_le (Nat.le_of_ble_eq_true q2), rfl⟩
def sSetI (f g h : Ef) : Sf := fun lo H => bnd (f lo H) fun v H1 => bnd (g lo H1) fun a H2 => bnd (h lo H2) fun b H3 => ob (setI a b v H3) fun H4 => some ((.next, lo), H4)
theorem ST.setI {c : Cx} {n : Nat} {sc : Scope} {o i e : Expr} {p pos : Pos} {f g h : Ef} (hf : ET c n sc e f) (hg : ET c n sc o g) (hh : ET c n sc i h) (hw : ∀ env, swapsWith e (some (.Subscript o i p)) pos.line env = pure false) :
    ST c n sc (.Assign [.Subscript o i p] e pos) (sSetI f g h) := by
  intro env lo I as H s he L J r H' hr A hA
  obtain ⟨v, H1, e1, hr⟩ := bnd_some hr
  obtain ⟨a, H2, e2, hr⟩ := bnd_some hr
  obtain ⟨b, H3, e3, hr⟩ := bnd_some hr
  obtain ⟨H4, e4, hr⟩ := ob_some hr
  cases hr
  refine wpAny_Assign_Subscript ((hf env lo I as H s he L J).use e1 hA fun x s1 I1 as1 T1 J1 R1 => (hg env lo I1 as1 H1 s1 he (L.tr T1) J1).use e2 hA fun y s2 I2 as2 T2 J2 R2 => (hh env lo I2 as2 H2 s2 he ((L.tr T1).tr T2) J2).use e3 hA fun z s3 I3 as3 T3 J3 R3 => ?_) (hw env)
  replace R1 := (R1.tr T2).tr T3
  replace R2 := R2.tr T3
  have L3 := ((L.tr T1).tr T2).tr T3
  have T := T1.trans (T2.trans T3)
  obtain ⟨r, k, xs, rfl, rfl, q1, q2, rfl⟩ := setI_some e4
  obtain ⟨aa, fp, rfl, ha⟩ := vr_ref R2
  obtain ⟨t, rfl⟩ := vr_int R3
  obtain ⟨items, nn, rfl, o1, r1, hl1⟩ := or_list (J3.obj ha (asList_some q1))
  have hz := r1.length
  have hk : k < items.length := by rw [← hz]; exact q2
  refine setItem_exact rfl o1 hk (by rw [← hz]; exact hl1) ?_
  have hs : Heap.SameBut aa s3.heap (s3.heap.update aa (Obj.mapSeq (·.setIfInBounds k x))) := Heap.SameBut.update ..
  have T4 := Tr.set (fa := []) I3 as3 s3 s3.toks (mem_flat ha) hs
  refine ⟨I3, as3, (T.trans T4).nil, J3.set s3.toks ha (by simp) hs (.list (items := items.set k x) (n := nn) ?_ (r1.set R1 k) (by rw [List.length_set]; exact hl1)), .next, L3.tr T4⟩
  rw [Heap.get?_update_self _ o1 (by rfl)]
  simp [Obj.mapSeq]

/-! list methods -/
def isLst : V → List O → Bool
  | .ref i, H => (asList H i).isSome
  | _, _ => false
theorem MS.lstGet {c : Cx} {name : Str} {id : String} (slot : Slot "list" name id) (hty : typeOf (.builtin id) = pure (.type "method_descriptor")) :
    ∀ v x I as H s, Inv c I as H s → VR c I as v x → isLst v H = true → ∀ (A : Around) (pl : Sem Bool) (Q : Value × List Value → Shared → Prop) (E : Value → Shared → Prop), Q (.builtin id, [x]) s → wpAny (model c.prog c.w) A (getMethod x name pl) Q E s := by
  intro v x I as H s J R hok A pl Q E h
  cases R with
  | @ref i a fp ha =>
    obtain ⟨xs, hx⟩ := Option.isSome_iff_exists.mp hok
    cases J.obj ha (asList_some hx) with
    | list o1 r1 hl1 => exact getMethod_builtin (T := "list") ⟨_, o1, rfl⟩ F.plainAttrs_list slot hty (fun b e => by cases e; exact ⟨_, o1, rfl⟩) h
  | _ => cases hok

def mAppend (v : V) : Fp := fun vs H => ob (isR v) fun i => ob (one vs) fun x => ob (asList H i) fun xs => gd (Nat.blt xs.length big) (some (.none, H.set i (.list (xs ++ [x]))))
theorem MS.append (c : Cx) (n : Nat) : MS c n "append" isLst "list.append" mAppend where
  get := MS.lstGet F.slot_list_append F.type_list_append
  run := by
    intro v x vs xs I as H s J R Rs w H' hr A hA
    obtain ⟨i, h1, hr⟩ := ob_some hr
    obtain ⟨q, h2, hr⟩ := ob_some hr
    rw [isR_some h1] at R
    rw [one_some h2] at Rs
    · obtain ⟨a, fp, rfl, ha⟩ := vr_ref R
      obtain ⟨z, rfl, R1⟩ := all2_1 Rs
      obtain ⟨us, q1, hr⟩ := ob_some hr
      obtain ⟨q2, hr⟩ := gd_some hr
      cases hr
      have q2 : us.length < big := Nat.lt_of_succ_le (Nat.le_of_ble_eq_true q2)
      obtain ⟨items, nn, rfl, o1, r1, hl1⟩ := or_list (J.obj ha (asList_some q1))
      have hz := r1.length
      refine call_meets F.slot_list_append ⟨_, o1, rfl⟩ F.entry_list_append (F.args_list_append_2 _ _) (list_append a items.toArray nn z (by rw [List.size_toArray, ← hz]; exact Nat.le_trans hl1 big_le)) ⟨o1, ?_⟩
      have hs : Heap.SameBut a s.heap (s.heap.update a (Obj.mapSeq fun xs => xs.push z)) := Heap.SameBut.update ..
      refine ⟨I, as, Tr.set I as s s.toks (mem_flat ha) hs, J.set s.toks ha (by simp) hs (.list (items := items ++ [z]) (n := nn + 1) ?_ (r1.append (.cons R1 .nil)) (by simp; exact q2)), .none⟩
      rw [Heap.get?_update_self _ o1 (by rfl)]
      simp [Obj.mapSeq]
/-! a statement that is a call -/
def sExpr (f : Ef) : Sf := fun lo H => bnd (f lo H) fun v H1 => match v with
  | .none => some ((.next, lo), H1)
  | _ => none
theorem ST.expr {c : Cx} {n : Nat} {sc : Scope} {e : Expr} {pos : Pos} {f : Ef} (hf : ET c n sc e f) (hi : ∀ env : Env, env.scope.kind = .function → interactive env = false) (hw : ∀ env, swapsWith e .none pos.line env = pure false) : ST c n sc (.Expr e pos) (sExpr f) := by
  intro env lo I as H s he L J r H' hr A hA
  obtain ⟨v, H1, e1, hr⟩ := bnd_some hr
  cases v <;> cases hr
  refine wpAny_Expr ((hf env lo I as H s he L J).use e1 hA fun x s1 I1 as1 T1 J1 R1 => ?_) (hi env (by rw [he.scope]; exact he.kind)) (hw env)
  cases R1
  exact ⟨I1, as1, T1.nil, J1, .next, L.tr T1⟩

end
end Mine
-- part M11.lean
set_option autoImplicit false
set_option maxRecDepth 100000
set_option linter.unusedVariables false
namespace Mine
open PySem PySem.W PyProof.Rows
noncomputable section

/-! len, min, max, abs -/
def pLen : Fp := fun vs H => match vs with
  | [.str l] => some (.int (Int.ofNat l.length), H)
  | [.ref i] => match asList H i with
    | some xs => some (.int (Int.ofNat xs.length), H)
    | none => ob (asTup H i) fun xs => some (.int (Int.ofNat xs.length), H)
  | _ => none
theorem BS.len (c : Cx) (n : Nat) : BS c n (.builtin "len") pLen := by
  intro vs xs I as H s J Rs v H' hr A hA
  unfold pLen at hr
  split at hr
  · rename_i l
    obtain ⟨y, rfl, R1⟩ := all2_1 Rs
    obtain ⟨t, rfl, h⟩ := vr_str R1
    cases hr
    have hb : l.length ≤ 1000000 := h
    have := len_str (prog := c.prog) (w := c.w) (A := A) (E := fun _ _ => False) (s := s) (x := ⟨l.toArray⟩) (t := t) (Q := fun a s' => ∃ I' as', Tr [] I as s I' as' s' ∧ Inv c I' as' H s' ∧ VR c I' as' (.int (Int.ofNat l.length)) a) (by show ¬ ((l.toArray.size : Int) ≥ 2 ^ 63); simp only [List.size_toArray]; omega) ⟨I, as, Tr.toks .., J.toks _, ?_⟩
    · exact this
    · show VR c I as _ (.int (l.toArray.size : Int) _)
      rw [List.size_toArray]; exact .int _ _
  · rename_i i
    obtain ⟨y, rfl, R1⟩ := all2_1 Rs
    obtain ⟨a, fp, rfl, ha⟩ := vr_ref R1
    split at hr
    · rename_i xs e1
      cases hr
      obtain ⟨items, nn, rfl, o1, r1, hl1⟩ := or_list (J.obj ha (asList_some e1))
      have hz := r1.length
      have hb : xs.length ≤ 1000000 := hl1
      refine len_list (isList_of o1) (by simp only [List.size_toArray]; omega) ⟨I, as, Tr.toks .., J.toks _, ?_⟩
      rw [List.size_toArray, ← hz]; exact .int _ _
    · obtain ⟨xs, e2, hr⟩ := ob_some hr
      cases hr
      obtain ⟨items, nn, rfl, o1, r1, hl1⟩ := or_tup (J.obj ha (asTup_some e2))
      have hz := r1.length
      have hb : xs.length ≤ 1000000 := hl1
      refine PyProof.Rows.len_tuple (isTup_of o1) (by simp only [List.size_toArray]; omega) ⟨I, as, Tr.toks .., J.toks _, ?_⟩
      rw [List.size_toArray, ← hz]; exact .int _ _
  · cases hr
def pMin2 : Fp := fun vs H => ob (two' vs) fun p => ob (isI p.1) fun a => ob (isI p.2) fun b => match intLt b a with
  | true => some (.int b, H)
  | false => some (.int a, H)
theorem BS.min2 (c : Cx) (n : Nat) : BS c n (.builtin "min") pMin2 := by
  intro vs xs I as H s J R v H' hr A hA
  obtain ⟨p, h0, hr⟩ := ob_some hr
  obtain ⟨i, h1, hr⟩ := ob_some hr
  obtain ⟨j, h2, hr⟩ := ob_some hr
  rw [two'_some h0, isI_some h1, isI_some h2] at R
  obtain ⟨xa, xb, rfl, R1, R2⟩ := all2_2 R
  obtain ⟨t, rfl⟩ := vr_int R1
  obtain ⟨u, rfl⟩ := vr_int R2
  refine wpAny_sized (min_two_ints hA.handled fun h' tk hk hz => ?_)
  change (match intLt j i with | true => some (V.int j, H) | false => some (V.int i, H)) = some (v, H') at hr
  rw [intLt_eq] at hr
  refine ⟨I, as, Tr.grow [] I as s tk hz hk, ?_⟩
  by_cases hji : j < i
  · rw [decide_eq_true hji] at hr; cases hr
    rw [if_pos hji]; exact ⟨J.grow tk hz hk, .int _ _⟩
  · rw [decide_eq_false hji] at hr; cases hr
    rw [if_neg hji]; exact ⟨J.grow tk hz hk, .int _ _⟩
/-! in-place operators -/
def pIadd : Bp := orP (onII fun i j => some (.int (i + j))) (onSS glue)
theorem PB.iadd (c : Cx) (n : Nat) : PB c n (inplaceOp .Add) pIadd :=
  .orP (.onII fun i j v t u A s Q hf h => by cases hf; exact PyProof.Rows.iadd_int (h _ _ fun _ _ => .int _ _)) (.onSS fun l l' v t u A s Q hf h => by
    obtain ⟨e, hf⟩ := gd_some hf
    cases hf
    have hb := Nat.le_of_ble_eq_true e
    exact PyProof.Rows.iadd_str (fun t' tk => h _ _ fun _ _ => by rw [strAppend]; exact .str _ hb) (glue_fits hb))
theorem PB.isub (c : Cx) (n : Nat) : PB c n (inplaceOp .Sub) pSub := .onII fun i j v t u A s Q hf h => by cases hf; exact PyProof.Rows.isub_int (h _ _ fun _ _ => .int _ _)
/-! -e -/
def eNeg (f : Ef) : Ef := fun lo H => bnd (f lo H) fun v H1 => match v with
  | .int i => some (.int (-i), H1)
  | _ => none
theorem ET.neg {c : Cx} {n : Nat} {sc : Scope} {e : Expr} {pos : Pos} {f : Ef} (hf : ET c n sc e f) : ET c n sc (.UnaryOp .USub e pos) (eNeg f) := by
  intro env lo I as H s he L J v H' hr A hA
  obtain ⟨a, H1, e1, hr⟩ := bnd_some hr
  refine UnaryOp_ ((hf env lo I as H s he L J).use e1 hA fun x s1 I1 as1 T1 J1 R1 => ?_)
  cases R1 with
  | int i t => cases hr; exact PyProof.Rows.neg_int ⟨I1, as1, T1.trans (Tr.toks ..), J1.toks _, .int _ _⟩
  | _ => cases hr

/-! lower -/
def mLower (v : V) : Fp := fun vs H => match v, vs with
  | .str x, [] => gd (Nat.ble (Txt.lower ⟨x.toArray⟩).cps.toList.length big) (some (.str (Txt.lower ⟨x.toArray⟩).cps.toList, H))
  | _, _ => none
theorem MS.lower (c : Cx) (n : Nat) : MS c n "lower" isStr "str.lower" mLower where
  get := MS.strGet F.slot_str_lower F.type_str_lower
  run := by
    intro v x vs xs I as H s J R Rs w H' hr A hA
    unfold mLower at hr
    split at hr
    · rename_i l
      obtain ⟨t, rfl, h⟩ := vr_str R
      have e := all2_0 Rs
      subst e
      obtain ⟨e, hr⟩ := gd_some hr
      cases hr
      have hb := Nat.le_of_ble_eq_true e
      refine SC.lower ?_ ⟨I, as, Tr.toks .., J.toks _, ?_⟩
      · unfold Builtin.Str.tooLong
        rw [decide_eq_false_iff_not]
        refine Nat.not_lt.mpr (Nat.le_trans ?_ big_le)
        simpa [Str.length] using hb
      · have : (Txt.lower ⟨l.toArray⟩) = ⟨(Txt.lower ⟨l.toArray⟩).cps.toList.toArray⟩ := by cases Txt.lower ⟨l.toArray⟩; simp
        exact this ▸ .str _ hb
    · cases hr
/-! range -/
def iseq (a : Int) (st : Int) : Nat → List V
  | 0 => []
  | k + 1 => .int a :: iseq (a + st) st k
theorem iseq_get (st : Int) : ∀ (k : Nat) (a : Int) (j : Nat), j < k → (iseq a st k)[j]? = some (.int (a + j * st))
  | 0, _, _, h => nomatch h
  | k + 1, a, 0, _ => by simp [iseq]
  | k + 1, a, j + 1, h => by
    show (iseq (a + st) st k)[j]? = _
    rw [iseq_get st k (a + st) j (Nat.lt_of_succ_lt_succ h)]
    congr 2
    push_cast
    rw [Int.add_mul]; omega
theorem iseq_len (st : Int) : ∀ (k : Nat) (a : Int), (iseq a st k).length = k
  | 0, _ => rfl
  | k + 1, a => by show (iseq (a + st) st k).length + 1 = _; rw [iseq_len]
def rng1 (a b : Int) : List V := match intLt a b with
  | true => iseq a 1 (b - a).toNat
  | false => []
def iRange (g : Af) : If := fun lo H => bnd (g lo H) fun vs H1 => Option.casesOn (one vs)
  (ob (two' vs) fun p => ob (isI p.1) fun a => ob (isI p.2) fun b => gd (small a && small b) (some (.seq (rng1 a b), H1)))
  (fun v => ob (isI v) fun b => gd (small b) (some (.seq (rng1 0 b), H1)))

theorem small_bounds {a : Int} (h : small a = true) : -(2 ^ 62) ≤ a ∧ a < 2 ^ 62 := by have := small_lt h; omega

theorem iter_range {c : Cx} {I : Im} {as : As} {H : List O} {s : Shared} (J : Inv c I as H s) {a b : Int} {t u w : Tok} {r : Addr} (hr : IsRange s.heap r a b 1 t u w) (ha : small a = true) (hb : small b = true) {A : Around} {fa : List Addr} (hfa : ∀ b ∈ fa, b < s.heap.objs.size) {Q : Value → Shared → Prop}
    (h : ∀ x own s', Tr [] I as s I as s' → Inv c I as H s' → ItR c I as s'.heap fa own (.seq (rng1 a b)) x → (∀ b ∈ own, s.heap.objs.size ≤ b) → Q (.ref x) s') : wpAny (model c.prog c.w) A (pyIter (.ref r)) Q (fun _ _ => False) s := by
  obtain ⟨a1, a2⟩ := small_bounds ha
  obtain ⟨b1, b2⟩ := small_bounds hb
  refine wpAny_pyIter_range hr (small_one a1 a2 b1 b2) ?_
  have hfr := fresh_off J (Nat.le_refl s.heap.objs.size)
  have hnf : s.heap.objs.size ∉ fa := fun q => absurd (hfa _ q) (Nat.lt_irrefl _)
  have hz : s.heap.objs.size ≤ (s.heap.push { cls := .type "range_iterator", data := .fields #[rawInt a, rawInt (Builtin.Range.rangeSize a b 1), rawInt 1] }).objs.size := by rw [Heap.size_push]; exact Nat.le_succ _
  have hk : ∀ x o', s.heap.get? x = some o' → (s.heap.push { cls := .type "range_iterator", data := .fields #[rawInt a, rawInt (Builtin.Range.rangeSize a b 1), rawInt 1] }).get? x = some o' := fun x o' e => Heap.get?_push_of_some _ e
  have hlen : ((rng1 a b).length : Int) = Builtin.Range.rangeSize a b 1 := by
    rw [rangeSize_one]
    unfold rng1
    rw [intLt_eq]
    by_cases q : a < b
    · rw [decide_eq_true q, if_pos q]
      show ((iseq a 1 (b - a).toNat).length : Int) = _
      rw [iseq_len]; omega
    · rw [decide_eq_false q, if_neg q]; rfl
  refine h s.heap.objs.size [s.heap.objs.size] _ (Tr.grow [] I as s s.toks hz hk) (J.grow s.toks hz hk) (.seq (fun A' hA' => Walks.range hA' _ a 1 (rng1 a b).length) (k := 0) ?_ (by simp) (fun j v p q => ?_) (fun b hb => ?_) (fun b hb => ?_)) fun b hb => ?_
  · show IsRangeIter _ _ (a + ((0 : Nat) : Int) * 1) (((rng1 a b).length : Int) - ((0 : Nat) : Int)) 1
    rw [hlen]
    simp only [Int.natCast_zero, Int.zero_mul, Int.add_zero, Int.sub_zero]
    exact Heap.get?_push_size _ rfl
  · obtain ⟨tk, rfl⟩ := p
    refine ⟨.int (a + (j : Int) * 1), ?_, ?_⟩
    · unfold rng1 at q ⊢
      split
      · rename_i e
        rw [e] at q
        exact iseq_get 1 _ a j (by simpa [iseq_len] using q)
      · rename_i e
        rw [e] at q; simp at q
    · have : (((0 + j : Nat) : Nat) : Int) = (j : Int) := by simp
      rw [this]; exact .int _ _
  · simp at hb; subst hb; exact ⟨by rw [Heap.size_push]; exact Nat.lt_succ_self _, hfr.1, hnf⟩
  · simp at hb; subst hb; exact hfr.2
  · simp at hb; subst hb; exact Nat.le_refl _

theorem IS.range {c : Cx} {n : Nat} {sc : Scope} {x : Str} {p pos : Pos} {es : List Expr} {g : Af} (hg : AT c n sc es g)
    (hl : sc.names.lookup x = some .globalImplicit) (hd : (x == ("__debug__" : Str)) = false) (hv : c.mg x = none) (hb : c.mb x = some (.type "range")) (hn : (es.all plainArg) = true) :
    IS c n sc (.Call (.Name x p) es [] pos) (iRange g) := by
  intro env lo I as H s he L J it H' hr A hA fa hfa
  obtain ⟨vs, H1, e1, hr⟩ := bnd_some hr
  refine Call_ (load_builtin he J hl hd hv hb (PyProof.Rows.callWith_type (noStar hn) (evalArgs_any (noStar hn) ((hg pos env lo I as H s he L J).use e1 hA fun xs s1 I1 as1 T1 J1 R1 => ?_)))) (by rfl)
  have hfa1 : ∀ b ∈ fa, b < s1.heap.objs.size := fun b hb => Nat.lt_of_lt_of_le (hfa b hb) T1.size
  cases h0 : one vs with
  | some bv =>
    rw [h0] at hr
    obtain ⟨b, h1, hr⟩ := ob_some hr
    rw [one_some h0, isI_some h1] at R1
    obtain ⟨xb, rfl, Rb⟩ := all2_1 R1
    obtain ⟨t, rfl⟩ := vr_int Rb
    obtain ⟨q1, hr⟩ := gd_some hr
    cases hr
    refine call_range_1 ?_
    have hz : s1.heap.objs.size ≤ (s1.heap.push { cls := .type "range", data := .fields #[.int 0 s1.toks, .int b t, .int 1 (s1.toks + 1)] }).objs.size := by rw [Heap.size_push]; exact Nat.le_succ _
    have hk : ∀ x o', s1.heap.get? x = some o' → (s1.heap.push { cls := .type "range", data := .fields #[.int 0 s1.toks, .int b t, .int 1 (s1.toks + 1)] }).get? x = some o' := fun x o' e => Heap.get?_push_of_some _ e
    have T2 := Tr.grow [] I1 as1 s1 (s1.toks + 1 + 1) hz hk
    refine iter_range (J1.grow (s1.toks + 1 + 1) hz hk) (IsRange.new ..) rfl q1 (fun b hb => Nat.lt_of_lt_of_le (hfa1 b hb) hz) fun x own s' T' J' R' ho => ?_
    exact ⟨x, own, I1, as1, rfl, T1.trans (T2.trans T'), J', R', fun b hb => Nat.le_trans (Nat.le_trans T1.size hz) (ho b hb)⟩
  | none =>
    rw [h0] at hr
    obtain ⟨p, h1, hr⟩ := ob_some hr
    obtain ⟨a, h2, hr⟩ := ob_some hr
    obtain ⟨b, h3, hr⟩ := ob_some hr
    rw [two'_some h1, isI_some h2, isI_some h3] at R1
    obtain ⟨xa, xb, rfl, Ra, Rb⟩ := all2_2 R1
    obtain ⟨t, rfl⟩ := vr_int Ra
    obtain ⟨u, rfl⟩ := vr_int Rb
    obtain ⟨q1, hr⟩ := gd_some hr
    cases hr
    rw [Bool.and_eq_true] at q1
    refine call_range_2 ?_
    have hz : s1.heap.objs.size ≤ (s1.heap.push { cls := .type "range", data := .fields #[.int a t, .int b u, .int 1 s1.toks] }).objs.size := by rw [Heap.size_push]; exact Nat.le_succ _
    have hk : ∀ x o', s1.heap.get? x = some o' → (s1.heap.push { cls := .type "range", data := .fields #[.int a t, .int b u, .int 1 s1.toks] }).get? x = some o' := fun x o' e => Heap.get?_push_of_some _ e
    have T2 := Tr.grow [] I1 as1 s1 (s1.toks + 1) hz hk
    refine iter_range (J1.grow (s1.toks + 1) hz hk) (IsRange.new ..) q1.1 q1.2 (fun b hb => Nat.lt_of_lt_of_le (hfa1 b hb) hz) fun x own s' T' J' R' ho => ?_
    exact ⟨x, own, I1, as1, rfl, T1.trans (T2.trans T'), J', R', fun b hb => Nat.le_trans (Nat.le_trans T1.size hz) (ho b hb)⟩

end
end Mine
-- part M12.lean
set_option autoImplicit false
set_option maxRecDepth 100000
set_option linter.unusedVariables false
namespace Mine
open PySem PySem.W PyProof.Rows
noncomputable section

/-! list(range(a, b, c)) -/
def eListR (g : Af) : Ef := fun lo H => bnd (g lo H) fun vs H1 => ob (three' vs) fun p => ob (isI p.1) fun a => ob (isI p.2.1) fun b => ob (isI p.2.2) fun c => gd (Builtin.Range.small a b c && small c && !isZ c) (ob (natOf (Builtin.Range.rangeSize a b c)) fun k => gd (Nat.ble k big) (some (.ref H1.length, H1 ++ [.list (iseq a c k)])))
theorem all2_items {c : Cx} {I : Im} {as : As} {st : Int} : ∀ {k : Nat} {a : Int} {items : List Value}, items.length = k → (∀ (j : Nat) (v : Value), items[j]? = some v → ∃ t, v = Value.int (a + j * st) t) → All2 (VR c I as) (iseq a st k) items
  | 0, a, items, h, _ => by
    have : items = [] := List.eq_nil_of_length_eq_zero h
    subst this; exact .nil
  | k + 1, a, items, h, hp => by
    cases items with
    | nil => cases h
    | cons x xs =>
      obtain ⟨t, rfl⟩ := hp 0 x rfl
      refine .cons ?_ (all2_items (by simpa using h) fun j v e => ?_)
      · have : a + ((0 : Nat) : Int) * st = a := by simp
        rw [this]; exact .int _ _
      · obtain ⟨t, rfl⟩ := hp (j + 1) v (by simpa using e)
        refine ⟨t, ?_⟩
        congr 1
        push_cast
        rw [Int.add_mul]; omega

theorem ET.listRange {c : Cx} {n : Nat} {sc : Scope} {x y : Str} {p p' pos pos' : Pos} {es : List Expr} {g : Af} (hg : AT c n sc es g)
    (hl : sc.names.lookup x = some .globalImplicit) (hd : (x == ("__debug__" : Str)) = false) (hv : c.mg x = none) (hb : c.mb x = some (.type "list"))
    (hl' : sc.names.lookup y = some .globalImplicit) (hd' : (y == ("__debug__" : Str)) = false) (hv' : c.mg y = none) (hb' : c.mb y = some (.type "range")) (hn : (es.all plainArg) = true) :
    ET c n sc (.Call (.Name x p) [.Call (.Name y p') es [] pos'] [] pos) (eListR g) := by
  intro env lo I as H s he L J v H' hr A hA
  obtain ⟨vs, H1, e1, hr⟩ := bnd_some hr
  refine Call_ (load_builtin he J hl hd hv hb (PyProof.Rows.callWith_type (by rfl) (evalArgs_any (by rfl) (args_cons ?_ (by rfl))))) (by rfl)
  refine Call_ (load_builtin he J hl' hd' hv' hb' (PyProof.Rows.callWith_type (noStar hn) (evalArgs_any (noStar hn) ((hg pos' env lo I as H s he L J).use e1 hA fun xs s1 I1 as1 T1 J1 R1 => ?_)))) (by rfl)
  obtain ⟨p, h0, hr⟩ := ob_some hr
  obtain ⟨a, h1, hr⟩ := ob_some hr
  obtain ⟨b, h2, hr⟩ := ob_some hr
  obtain ⟨k, h3, hr⟩ := ob_some hr
  rw [three'_some h0, isI_some h1, isI_some h2, isI_some h3] at R1
  obtain ⟨xa, xb, xc, rfl, Ra, Rb, Rc⟩ := all2_3 R1
  obtain ⟨t, rfl⟩ := vr_int Ra
  obtain ⟨u, rfl⟩ := vr_int Rb
  obtain ⟨w, rfl⟩ := vr_int Rc
  obtain ⟨q1, hr⟩ := gd_some hr
  rw [Bool.and_eq_true, Bool.and_eq_true] at q1
  have hk0 : k ≠ 0 := isZ_false (by simpa using q1.2)
  obtain ⟨m, q2, hr⟩ := ob_some hr
  have q2 := natOf_some q2
  obtain ⟨q3, hr⟩ := gd_some hr
  cases hr
  have q3 := Nat.le_of_ble_eq_true q3
  have q3' : m ≤ 1000000 := q3
  refine call_range_3 hk0 ?_ (.inl (PyProof.noPylong_small (Nat.lt_trans (small_lt q1.1.2) (by decide))))
  have hz : s1.heap.objs.size ≤ (s1.heap.push { cls := .type "range", data := .fields #[.int a t, .int b u, .int k w] }).objs.size := by rw [Heap.size_push]; exact Nat.le_succ _
  have hk : ∀ x o', s1.heap.get? x = some o' → (s1.heap.push { cls := .type "range", data := .fields #[.int a t, .int b u, .int k w] }).get? x = some o' := fun x o' e => Heap.get?_push_of_some _ e
  have T2 := Tr.grow [] I1 as1 s1 s1.toks hz hk
  have J2 := J1.grow s1.toks hz hk
  generalize hs2 : ({ s1 with heap := s1.heap.push { cls := .type "range", data := .fields #[.int a t, .int b u, .int k w] }, toks := s1.toks } : Shared) = s2 at T2 J2
  have hR : IsRange s2.heap s1.heap.objs.size a b k t u w := by rw [← hs2]; exact IsRange.new ..
  refine args_nil ?_
  refine wpAny_sized (call_list_range hA.handled hR q1.1.1 q2 (Nat.le_trans q3' (by decide)) fun h' tk acc' c' hk2 hob hit hz2 => ?_)
  have hfr := fresh_off J2 (Nat.le_refl s2.heap.objs.size)
  refine ⟨I1, as1 ++ [[s2.heap.objs.size]], (T1.trans T2).trans ?_, ?_, J2.newRef _⟩
  · refine ⟨fun _ _ e => e, fun _ _ e => .inl e, ⟨_, rfl⟩, fun z hzz => ?_, fun z o e _ _ => hk2 z o e, hz2⟩
    rw [List.flatten_append, List.mem_append] at hzz
    rcases hzz with hzz | hzz
    · exact .inl hzz
    · simp at hzz; subst hzz; exact .inr (Nat.le_refl _)
  · refine ⟨fun z o e => hk2 z o (J2.imm z o e), J2.base, by simp [J2.len], fun i o' fp e1 e2 => ?_, ?_, fun z hzz => ?_, fun z hzz => ?_, J2.gens, J2.os⟩
    · by_cases hi : i < H1.length
      · rw [List.getElem?_append_left hi] at e1
        rw [List.getElem?_append_left (by rw [J2.len]; exact hi)] at e2
        exact (J2.objs i o' fp e1 e2).mono (fun _ _ e => e) fun z _ ob e => hk2 z ob e
      · have hi' : H1.length ≤ i := Nat.le_of_not_lt hi
        rw [List.getElem?_append_right hi'] at e1
        rw [List.getElem?_append_right (by rw [J2.len]; exact hi'), J2.len] at e2
        cases hdd : i - H1.length with
        | succ j => rw [hdd] at e1; simp at e1
        | zero =>
          rw [hdd] at e1 e2; cases e1; cases e2
          refine .list (items := acc'.toList) (n := c') (by simpa using hob) ?_ (by rw [iseq_len]; exact q3)
          exact all2_items (by simpa using hit.1) fun j v e => hit.2 j v (by simpa using e)
    · rw [List.flatten_append, List.nodup_append]
      refine ⟨J2.nodup, by simp, fun z hzz y hy => ?_⟩
      simp at hy; subst hy
      exact Nat.ne_of_lt (J2.lt z hzz)
    · rw [List.flatten_append, List.mem_append] at hzz
      rcases hzz with hzz | hzz
      · exact J2.out z hzz
      · simp at hzz; subst hzz; exact hfr.2
    · rw [List.flatten_append, List.mem_append] at hzz
      rcases hzz with hzz | hzz
      · exact Nat.lt_of_lt_of_le (J2.lt z hzz) hz2
      · simp at hzz; subst hzz; exact Heap.lt_size hob

/-! x = y = e -/
def sAsg2 (i j : Nat) (f : Ef) : Sf := fun lo H => bnd (f lo H) fun v H1 => setL lo i v fun l => setL l j v fun l => some ((.next, l), H1)
theorem ST.asg2 {c : Cx} {n : Nat} {sc : Scope} {x y : Str} {p q pos : Pos} {e : Expr} {i j : Nat} {f : Ef} (hs : SN c sc x i) (hs' : SN c sc y j) (hf : ET c n sc e f) (hw : ∀ env, swappedStores [.Name x p, .Name y q] e env = pure none) : ST c n sc (.Assign [.Name x p, .Name y q] e pos) (sAsg2 i j f) := by
  intro env lo I as H s he L J b H' hr A hA
  obtain ⟨v, H1, e1, hr⟩ := bnd_some hr
  rw [setL_eq, setL_eq] at hr
  cases hr
  refine wpAny_Assign_two ((hf env lo I as H s he L J).use e1 hA fun x s1 I1 as1 T1 J1 R1 => wpAny_assign_Name (hs env lo I1 as1 H' s1 v x he (L.tr T1) J1 R1 A _ _ fun s2 T2 J2 L2 => wpAny_assign_Name (hs' env _ I1 as1 H' s2 v x he L2 J2 R1 A _ _ fun s3 T3 J3 L3 => ?_))) (by rfl) (hw env)
  exact ⟨I1, as1, T1.nil.trans (T2.trans T3), J3, .next, L3⟩

/-! x, y = (e1, e2), the stores exchanged -/
def sSwap (i j : Nat) (f g : Ef) : Sf := fun lo H => bnd (f lo H) fun v H1 => bnd (g lo H1) fun w H2 => setL lo j w fun l => setL l i v fun l => some ((.next, l), H2)
theorem ST.swap {c : Cx} {n : Nat} {sc : Scope} {x y : Str} {p1 p2 tp vp pos : Pos} {k k' : Nat} {e1 e2 : Expr} {i j : Nat} {f g : Ef} (hs : SN c sc x i) (hs' : SN c sc y j) (hf : ET c n sc e1 f) (hg : ET c n sc e2 g)
    (hst : ∀ env, starEach [e1, e2] env = [(false, eval e1 env), (false, eval e2 env)])
    (hw : ∀ env, env.scope = sc → swappedStores [.Tuple [.Name x p1, .Name y p2] k tp] (.Tuple [e1, e2] k' vp) env = pure (some [x, y])) : ST c n sc (.Assign [.Tuple [.Name x p1, .Name y p2] k tp] (.Tuple [e1, e2] k' vp) pos) (sSwap i j f g) := by
  intro env lo I as H s he L J b H' hr A hA
  obtain ⟨v, H1, q1, hr⟩ := bnd_some hr
  obtain ⟨w, H2, q2, hr⟩ := bnd_some hr
  rw [setL_eq, setL_eq] at hr
  cases hr
  refine Assign_Tuple_swapped (names := [x, y]) (Tuple_ ?_) (by rfl) (hw env he.scope)
  rw [hst env]
  refine Calls.spliced_cons ((hf env lo I as H s he L J).use q1 hA fun a s1 I1 as1 T1 J1 R1 => Calls.spliced_cons ((hg env lo I1 as1 H1 s1 he (L.tr T1) J1).use q2 hA fun b s2 I2 as2 T2 J2 R2 => Calls.spliced_nil ?_))
  have T := T1.trans T2
  have Ra := R1.tr T2
  have L2 := (L.tr T1).tr T2
  refine wpAny_newObj_type ?_ (by show 2 ≤ sizeLine; decide)
  have hz : s2.heap.objs.size ≤ (s2.heap.push { cls := .type "tuple", data := .seq [a, b].toArray }).objs.size := by rw [Heap.size_push]; exact Nat.le_succ _
  have hk : ∀ x o', s2.heap.get? x = some o' → (s2.heap.push { cls := .type "tuple", data := .seq [a, b].toArray }).get? x = some o' := fun x o' e => Heap.get?_push_of_some _ e
  refine wpAny_sized ?_
  refine unpackItems_tuple (items := #[a, b]) hA.handled ⟨_, Heap.get?_push_size _ rfl, rfl, 0, rfl⟩ fun h' he' hz' => ?_
  have hk' : ∀ x o', s2.heap.get? x = some o' → h'.get? x = some o' := fun x o' e => he' x o' (by rw [Heap.size_push]; exact Nat.ne_of_lt (Nat.lt_succ_of_lt (Heap.lt_size e))) (hk x o' e)
  have hz2 : s2.heap.objs.size ≤ h'.objs.size := Nat.le_trans hz hz'
  have T3 := Tr.grow [] I2 as2 s2 s2.toks hz2 hk'
  have J3 := J2.grow s2.toks hz2 hk'
  show wpAny (model c.prog c.w) A (do holding [a] (bindName env y b); (do holding [] (bindName env x a); pure ())) _ _ _
  refine wpAny_bind (wpAny_holding (wpAny_bindName (hs' env lo I2 as2 H' _ w b he (L2.tr T3) J3 (R2.tr T3) A _ _ fun s4 T4 J4 L4 => ?_)))
  refine wpAny_bind (wpAny_holding (wpAny_bindName (hs env _ I2 as2 H' s4 v a he L4 J4 ((Ra.tr T3).tr T4) A _ _ fun s5 T5 J5 L5 => ?_)))
  exact wpAny_pure ⟨I2, as2, (T.trans T3).nil.trans (T4.trans T5), J5, .next, L5⟩

end
end Mine
-- part M13.lean
set_option autoImplicit false
set_option maxRecDepth 100000
set_option linter.unusedVariables false
namespace Mine
open PySem PySem.W PyProof.Rows
noncomputable section

/-- what a scope must show once -/
structure ScOk (sc : Scope) : Prop where
  kind : sc.kind = .function
  nd : (sc.names.map (·.1)).Nodup
  dbg : (sc.names.all fun x => !(x.1 == ("__debug__" : Str))) = true
  cld : (sc.names.all fun x => !(x.1 == ("__classdict__" : Str))) = true
theorem ScOk.lk {sc : Scope} (K : ScOk sc) {i : Nat} {x : Str} {k : NameKind} (h : sc.names[i]? = some (x, k)) : sc.names.lookup x = some k := lookup_mem_nodup K.nd (List.mem_of_getElem? h)
theorem ScOk.db {sc : Scope} (K : ScOk sc) {i : Nat} {x : Str} {k : NameKind} (h : sc.names[i]? = some (x, k)) : (x == ("__debug__" : Str)) = false := by
  have := List.all_eq_true.mp K.dbg _ (List.mem_of_getElem? h)
  simpa using this
theorem ScOk.cd {sc : Scope} (K : ScOk sc) {i : Nat} {x : Str} {k : NameKind} (h : sc.names[i]? = some (x, k)) : (x == ("__classdict__" : Str)) = false := by
  have := List.all_eq_true.mp K.cld _ (List.mem_of_getElem? h)
  simpa using this

section
variable {c : Cx} {n : Nat} {sc : Scope} {x : Str} {p pos : Pos}
theorem ET.nm (K : ScOk sc) (i : Nat) (h : sc.names[i]? = some (x, .local)) : ET c n sc (.Name x pos) (eName i) := ET.name i h (K.lk h) (K.db h)
theorem ET.cl (K : ScOk sc) (i : Nat) (h : sc.names[i]? = some (x, .cell)) : ET c n sc (.Name x pos) (eName i) := ET.cell i h (K.lk h) (K.db h)
theorem ET.fr (K : ScOk sc) (i : Nat) (h : sc.names[i]? = some (x, .free)) : ET c n sc (.Name x pos) (eName i) := ET.free i h (K.lk h) (K.db h) (K.cd h)
theorem ET.gi (K : ScOk sc) (j : Nat) (h : sc.names[j]? = some (x, .globalImplicit)) (k : Int) {t : Tok} (hv : c.mg x = some (.int k t)) : ET c n sc (.Name x pos) (eV (.int k)) := ET.gint k t (K.lk h) (K.db h) hv
theorem SN.nm (K : ScOk sc) (i : Nat) (h : sc.names[i]? = some (x, .local)) : SN c sc x i := SN.loc i h (K.lk h)
theorem SN.cl (K : ScOk sc) (i : Nat) (h : sc.names[i]? = some (x, .cell)) : SN c sc x i := SN.cell i h (K.lk h)
theorem LN.nm (K : ScOk sc) (i : Nat) (h : sc.names[i]? = some (x, .local)) : LN c sc x i := LN.loc i h (K.lk h)
theorem LN.cl (K : ScOk sc) (i : Nat) (h : sc.names[i]? = some (x, .cell)) : LN c sc x i := LN.cell i h (K.lk h)
variable {es : List Expr} {g : Af}
theorem ET.cf (K : ScOk sc) (j : Nat) (h : sc.names[j]? = some (x, .globalImplicit)) {a : Addr} {F : Fp} (hF : FnS c n a F) (hv : c.mg x = some (.ref a)) (hg : AT c n sc es g) (hn : (es.all plainArg) = true) :
    ET c n sc (.Call (.Name x p) es [] pos) (eCall F g) := ET.call hF hg (K.lk h) (K.db h) hv hn
theorem ET.cb (K : ScOk sc) (j : Nat) (h : sc.names[j]? = some (x, .globalImplicit)) {id : String} {P : Fp} (hP : BS c n (.builtin id) P) (hv : c.mg x = none ∧ c.mb x = some (.builtin id)) (hg : AT c n sc es g) (hn : (es.all plainArg) = true) :
    ET c n sc (.Call (.Name x p) es [] pos) (eCall P g) := ET.callB hP hg (K.lk h) (K.db h) hv.1 hv.2 hn
theorem ET.ct (K : ScOk sc) (j : Nat) (h : sc.names[j]? = some (x, .globalImplicit)) {id : String} {P : Fp} (hP : BS c n (.type id) P) (hv : c.mg x = none ∧ c.mb x = some (.type id)) (hg : AT c n sc es g) (hn : (es.all plainArg) = true) :
    ET c n sc (.Call (.Name x p) es [] pos) (eCall P g) := ET.callT hP hg (K.lk h) (K.db h) hv.1 hv.2 hn
theorem IS.rg (K : ScOk sc) (j : Nat) (h : sc.names[j]? = some (x, .globalImplicit)) (hv : c.mg x = none ∧ c.mb x = some (.type "range")) (hg : AT c n sc es g) (hn : (es.all plainArg) = true) :
    IS c n sc (.Call (.Name x p) es [] pos) (iRange g) := IS.range hg (K.lk h) (K.db h) hv.1 hv.2 hn
theorem ET.lr (K : ScOk sc) (i j : Nat) {y : Str} {p' pos' : Pos} (h : sc.names[i]? = some (x, .globalImplicit)) (h' : sc.names[j]? = some (y, .globalImplicit)) (hv : c.mg x = none ∧ c.mb x = some (.type "list")) (hv' : c.mg y = none ∧ c.mb y = some (.type "range")) (hg : AT c n sc es g) (hn : (es.all plainArg) = true) :
    ET c n sc (.Call (.Name x p) [.Call (.Name y p') es [] pos'] [] pos) (eListR g) := ET.listRange hg (K.lk h) (K.db h) hv.1 hv.2 (K.lk h') (K.db h') hv'.1 hv'.2 hn
end

theorem inter_off {sc : Scope} (h : sc.kind = .function) : ∀ env : Env, env.scope.kind = .function → interactive env = false := by
  intro env he
  unfold interactive
  rw [he]; rfl

/-- a new object in a heap that has grown -/
theorem Inv.allocG {c : Cx} {I : Im} {as : As} {H : List O} {s : Shared} (J : Inv c I as H s) {a : Addr} {h' : Heap} {o : O} (k : Nat) (ha : s.heap.objs.size ≤ a) (hlt : a < h'.objs.size) (hz : s.heap.objs.size ≤ h'.objs.size) (hk : ∀ b o, s.heap.get? b = some o → h'.get? b = some o) (hr : OR c I (as ++ [[a]]) h' o [a]) :
    Inv c I (as ++ [[a]]) (H ++ [o]) { s with heap := h', toks := k } := by
  have hfr := fresh_off J ha
  refine ⟨fun z o e => hk z o (J.imm z o e), J.base, by simp [J.len], fun i o' fp e1 e2 => ?_, ?_, fun z hzz => ?_, fun z hzz => ?_, J.gens, J.os⟩
  · by_cases hi : i < H.length
    · rw [List.getElem?_append_left hi] at e1
      rw [List.getElem?_append_left (by rw [J.len]; exact hi)] at e2
      exact (J.objs i o' fp e1 e2).mono (fun _ _ e => e) fun z _ ob e => hk z ob e
    · have hi' : H.length ≤ i := Nat.le_of_not_lt hi
      rw [List.getElem?_append_right hi'] at e1
      rw [List.getElem?_append_right (by rw [J.len]; exact hi'), J.len] at e2
      cases hdd : i - H.length with
      | succ j => rw [hdd] at e1; simp at e1
      | zero => rw [hdd] at e1 e2; cases e1; cases e2; exact hr
  · rw [List.flatten_append, List.nodup_append]
    refine ⟨J.nodup, by simp, fun z hzz y hy => ?_⟩
    simp at hy; subst hy
    exact Nat.ne_of_lt (Nat.lt_of_lt_of_le (J.lt z hzz) ha)
  · rw [List.flatten_append, List.mem_append] at hzz
    rcases hzz with hzz | hzz
    · exact J.out z hzz
    · simp at hzz; subst hzz; exact hfr.2
  · rw [List.flatten_append, List.mem_append] at hzz
    rcases hzz with hzz | hzz
    · exact Nat.lt_of_lt_of_le (J.lt z hzz) hz
    · simp at hzz; subst hzz; exact hlt
theorem Tr.allocG (fa : List Addr) (I : Im) (as : As) (s : Shared) {a : Addr} {h' : Heap} (k : Nat) (ha : s.heap.objs.size ≤ a) (hz : s.heap.objs.size ≤ h'.objs.size) (hk : ∀ b o, s.heap.get? b = some o → h'.get? b = some o) : Tr fa I as s I (as ++ [[a]]) { s with heap := h', toks := k } := by
  refine ⟨fun _ _ e => e, fun _ _ e => .inl e, ⟨_, rfl⟩, fun z hzz => ?_, fun z o e _ _ => hk z o e, hz⟩
  rw [List.flatten_append, List.mem_append] at hzz
  rcases hzz with hzz | hzz
  · exact .inl hzz
  · simp at hzz; subst hzz; exact .inr ha

/-- pieces of the text -/
def defBody : Stmt → List Stmt
  | .FunctionDef _ _ b .. => b
  | _ => []
def defScope : Stmt → Scope
  | .FunctionDef _ _ _ _ _ _ sc .. => sc
  | _ => default
def clsBody : Stmt → List Stmt
  | .ClassDef _ _ _ b .. => b
  | _ => []
def nthStmt (l : List Stmt) (k : Nat) : Stmt := l.getD k (.Pass default)

end
end Mine
-- part M14.lean
set_option autoImplicit false
set_option maxRecDepth 100000
set_option linter.unusedVariables false
namespace Mine
open PySem PySem.W PyProof.Rows
noncomputable section

theorem ItR.self {c : Cx} {fa own : List Addr} {I : Im} {as : As} {s : Shared} {it : It} {a : Addr} (R : ItR c I as s.heap fa own it a) {A : Around} (hA : A.handled = none) {Q : Value → Shared → Prop} {E : Value → Shared → Prop} (h : Q (.ref a) s) : wpAny (model c.prog c.w) A (pyIter (.ref a)) Q E s := by
  cases R with
  | list hl e ho hi hf => exact wpAny_pyIter_listiter e h
  | keys hl e ho hi hf => exact wpAny_pyIter_keyiter e h
  | seq W st hn hP ho hw => exact (W A hA).self _ s Q E st h

theorem ItR.fa {c : Cx} {fa fa' own : List Addr} {I : Im} {as : As} {h : Heap} {it : It} {a : Addr} (R : ItR c I as h fa own it a) (hf : ∀ z ∈ fa', z ∈ fa ∨ h.objs.size ≤ z) : ItR c I as h fa' own it a := by
  cases R with
  | list hl e ho hi hf' =>
    refine .list hl e ho hi fun q => ?_
    rcases hf _ q with q | q
    · exact hf' q
    · obtain ⟨o, q', _⟩ := e; exact absurd (Heap.lt_size q') (Nat.not_lt.mpr q)
  | keys hl e ho hi hf' =>
    refine .keys hl e ho hi fun q => ?_
    rcases hf _ q with q | q
    · exact hf' q
    · obtain ⟨o, q', _⟩ := e; exact absurd (Heap.lt_size q') (Nat.not_lt.mpr q)
  | seq W st hn hP ho hw =>
    refine .seq W st hn hP (fun z hz => ⟨(ho z hz).1, (ho z hz).2.1, fun q => ?_⟩) hw
    rcases hf _ q with q | q
    · exact (ho z hz).2.2 q
    · exact absurd (ho z hz).1 (Nat.not_lt.mpr q)

/-! comprehensions -/
abbrev Cf := Nat → List V → List O → Option (List V × List O)
def cEmit (f : Ef) : Cf := fun acc lo H => bnd (f lo H) fun v H1 => ob (asList H1 acc) fun xs => gd (Nat.blt xs.length big) (some (lo, H1.set acc (.list (xs ++ [v]))))
def cIf (t : Tf) (b : Cf) : Cf := fun acc lo H => bnd (t lo H) fun d H1 => match d with
  | true => b acc lo H1
  | false => some (lo, H1)
def cLoop (i : Nat) (b : Cf) (n : Nat) : It → Cf := Nat.rec (fun _ _ _ _ => none) (fun _ ih it acc lo H => ob (it.next H) fun p => match p.1 with
    | none => some (lo, H)
    | some v => setL lo i v fun l => ob (b acc l H) fun r => ih p.2 acc r.1 r.2) n
def cFor (i : Nat) (g : If) (b : Cf) (fuel : Nat) : Cf := fun acc lo H => bnd (g lo H) fun it H1 => cLoop i b fuel it acc lo H1

def testsOf (ifs : List Expr) (env : Env) : Sem Bool := forIn ifs true fun c r => if r = true then do let ok ← isTrue c env (eval c env); pure (ForInStep.yield ok) else pure (ForInStep.yield r)
/-- one turn of a comprehension's clause -/
theorem loop_gen {c : Cx} {A : Around} {s : Shared} {elt : Expr} {gens : List Comprehension} {scope : Scope} {pos : Pos} {d : Nat} {target iter : Expr} {ifs : List Expr} {it acc : Value} {env : Env} {R : Result → Shared → Prop} (hg : gens[d]? = some ⟨target, iter, ifs, 0⟩) (I : Nat → Shared → Prop)
    (turn : ∀ n s, I n s → wpAny (model c.prog c.w) A (pyNext it) (fun r s₁ => match r with
      | none => R (.ok .next) s₁
      | some v => wpAny (model c.prog c.w) A (assign target env v) (fun _ s₂ => wpAny (model c.prog c.w) A (testsOf ifs env) (fun ok s₃ =>
          if ok = true then (match gens[d + 1]? with
            | some g' => g'.is_async = 0 ∧ (∀ x, foldedSetIterable g'.iter env x = pure x) ∧ wpAny (model c.prog c.w) A (eval g'.iter env) (fun x s₄ => wpAny (model c.prog c.w) A (pyIter x) (fun itv s₅ =>
                codeAny (model c.prog c.w) A (.compStart (.ListComp elt gens scope pos) (d + 1) itv acc env) (fun r s₆ => match r with | .ok _ => ∃ m, m < n ∧ I m s₆ | .error _ => False) s₅) (fun _ _ => False) s₄) (fun _ _ => False) s₃
            | none => wpAny (model c.prog c.w) A (eval elt env) (fun x s₄ => wpAny (model c.prog c.w) A (call (.builtin "list.append") [acc, x]) (fun _ s₅ => ∃ m, m < n ∧ I m s₅) (fun _ _ => False) s₄) (fun _ _ => False) s₃)
          else ∃ m, m < n ∧ I m s₃) (fun _ _ => False) s₂) (fun _ _ => False) s₁) (fun _ _ => False) s)
    (n : Nat) (h : I n s) (ht : ∀ v, letOwnedTupleGo target it v = pure ()) :
    codeAny (model c.prog c.w) A (.compLoop (.ListComp elt gens scope pos) d it acc env) R s := by
  refine codeAny_loop rfl I (fun n s hI => ?_) n h
  show wpAny _ A ((compTurn (.ListComp elt gens scope pos) d it acc env).onRaise (fun x => do noteFrame x env; theTreesLotGoes x)) _ _ s
  refine wpAny_noted ?_
  unfold compTurn
  simp only [hg]
  refine wpAny_bind (wpAny_standAt ?_)
  rw [if_neg (by decide)]
  refine wpAny_bind (noNote (wpAny_mono (turn n s hI) (fun r s₁ h₁ => ?_) fun _ _ f => f))
  cases r with
  | none => exact noNote (wpAny_pure h₁)
  | some v =>
    refine wpAny_bind (wpAny_of_eq (ht v) ?_)
    refine wpAny_bind (noNote (wpAny_mono h₁ (fun _ s₂ h₂ => wpAny_bind (noNote (wpAny_mono h₂ (fun ok s₃ h₃ => ?_) fun _ _ f => f))) fun _ _ f => f))
    cases ok with
    | false =>
      rw [if_neg Bool.false_ne_true] at h₃
      exact noNote (wpAny_pure ⟨rfl, h₃⟩)
    | true =>
      rw [if_pos rfl] at h₃
      refine noNote ?_
      show wpAny _ A (match gens[d + 1]? with | some g' => _ | none => _) _ _ s₃
      cases q : gens[d + 1]? with
      | none =>
        rw [q] at h₃
        refine wpAny_bind (wpAny_bind (wpAny_mono h₃ (fun x s₄ h₄ => wpAny_bind (wpAny_mono h₄ (fun _ s₅ h₅ => wpAny_pure (wpAny_pure ⟨rfl, h₅⟩)) fun _ _ f => f)) fun _ _ f => f))
      | some g' =>
        rw [q] at h₃
        obtain ⟨ha, hs, h₃⟩ := h₃
        refine wpAny_bind (wpAny_mono h₃ (fun x s₄ h₄ => wpAny_bind (wpAny_standAt ?_)) fun _ _ f => f)
        rw [ha, if_neg (by decide)]
        refine wpAny_bind (wpAny_of_eq (hs x) (wpAny_bind (wpAny_holding ?_)))
        rw [if_neg (by decide)]
        refine wpAny_mono h₄ (fun itv s₅ h₅ => wpAny_bind (wpAny_runOwn ?_)) fun _ _ f => f
        refine codeAny_mono h₅ fun r s₆ h₆ => ?_
        cases r with
        | ok f => exact wpAny_pure ⟨rfl, h₆⟩
        | error e => exact h₆.elim

theorem start_gen {c : Cx} {A : Around} {s : Shared} {elt : Expr} {gens : List Comprehension} {scope : Scope} {pos : Pos} {d : Nat} {target iter : Expr} {ifs : List Expr} {it acc : Value} {env : Env} {R : Result → Shared → Prop} (hg : gens[d]? = some ⟨target, iter, ifs, 0⟩)
    (h0 : codeAny (model c.prog c.w) A (.compLoop (.ListComp elt gens scope pos) d it acc env) R s)
    (h : wpAny (model c.prog c.w) A (pyIter it) (fun it' s' => codeAny (model c.prog c.w) A (.compLoop (.ListComp elt gens scope pos) d it' acc env) R s') (fun _ _ => False) s) :
    codeAny (model c.prog c.w) A (.compStart (.ListComp elt gens scope pos) d it acc env) R s := by
  refine codeAny_of_tree ?_
  show wpAny _ _ ((compStart (.ListComp elt gens scope pos) d it acc env).onRaise (fun x => do noteFrame x env; standAt theWindowsPlace)) _ _ s
  refine wpAny_notedAt ?_
  unfold compStart
  rw [show clausesOf (.ListComp elt gens scope pos) = gens from rfl]
  simp only [hg]
  show wpAny _ _ (ask >>= _) _ _ s
  refine wpAny_bind (wpAny_askSetting (wpAny_ite ?_))
  split
  · exact noNote (wpAny_pure ⟨rfl, h0⟩)
  · exact noNote (wpAny_bind (wpAny_rule (wpAny_bind (wpAny_standAt (wpAny_bind (wpAny_mono h (fun it' s' h' => wpAny_pure ⟨rfl, h'⟩) fun _ _ f => f))))))

/-- what stands behind a clause's tests -/
def InnerP (c : Cx) (A : Around) (elt : Expr) (gens : List Comprehension) (scope : Scope) (pos : Pos) (d : Nat) (acc : Value) (env : Env) (Q : Shared → Prop) (s : Shared) : Prop :=
  match gens[d + 1]? with
  | some g' => g'.is_async = 0 ∧ (∀ x, foldedSetIterable g'.iter env x = pure x) ∧ wpAny (model c.prog c.w) A (eval g'.iter env) (fun x s₄ => wpAny (model c.prog c.w) A (pyIter x) (fun itv s₅ =>
      codeAny (model c.prog c.w) A (.compStart (.ListComp elt gens scope pos) (d + 1) itv acc env) (fun r s₆ => match r with | .ok _ => Q s₆ | .error _ => False) s₅) (fun _ _ => False) s₄) (fun _ _ => False) s
  | none => wpAny (model c.prog c.w) A (eval elt env) (fun x s₄ => wpAny (model c.prog c.w) A (call (.builtin "list.append") [acc, x]) (fun _ s₅ => Q s₅) (fun _ _ => False) s₄) (fun _ _ => False) s

def CI (c : Cx) (n : Nat) (sc : Scope) (elt : Expr) (gens : List Comprehension) (scope : Scope) (pos : Pos) (d : Nat) (b : Cf) : Prop :=
  ∀ env lo I as H s acc a, EOk env sc → LR c env lo I as s → Inv c I as H s → as[acc]? = some [a] → ∀ lo' H', b acc lo H = some (lo', H') → ∀ A, Rm n A → ∀ Q : Shared → Prop,
    (∀ s' I' as', Tr [env.locals] I as s I' as' s' → Inv c I' as' H' s' → LR c env lo' I' as' s' → Q s') → InnerP c A elt gens scope pos d (.ref a) env Q s
def CT (c : Cx) (n : Nat) (sc : Scope) (elt : Expr) (gens : List Comprehension) (scope : Scope) (pos : Pos) (d : Nat) (ifs : List Expr) (b : Cf) : Prop :=
  ∀ env lo I as H s acc a, EOk env sc → LR c env lo I as s → Inv c I as H s → as[acc]? = some [a] → ∀ lo' H', b acc lo H = some (lo', H') → ∀ A, Rm n A → ∀ Q : Shared → Prop,
    (∀ s' I' as', Tr [env.locals] I as s I' as' s' → Inv c I' as' H' s' → LR c env lo' I' as' s' → Q s') → wpAny (model c.prog c.w) A (testsOf ifs env) (fun ok s₃ => if ok = true then InnerP c A elt gens scope pos d (.ref a) env Q s₃ else Q s₃) (fun _ _ => False) s

section
variable {c : Cx} {n : Nat} {sc : Scope} {elt : Expr} {gens : List Comprehension} {scope : Scope} {pos : Pos} {d : Nat}
theorem CT.no {b : Cf} (h : CI c n sc elt gens scope pos d b) : CT c n sc elt gens scope pos d [] b := by
  intro env lo I as H s acc a he L J ha lo' H' hr A hA Q hQ
  show wpAny _ _ (forIn [] true _) _ _ _
  rw [List.forIn_nil]
  exact wpAny_pure (by rw [if_pos rfl]; exact h env lo I as H s acc a he L J ha lo' H' hr A hA Q hQ)
theorem CT.one {b : Cf} {t : Expr} {q : Tf} (ht : TT c n sc t q) (h : CI c n sc elt gens scope pos d b) : CT c n sc elt gens scope pos d [t] (cIf q b) := by
  intro env lo I as H s acc a he L J ha lo' H' hr A hA Q hQ
  obtain ⟨e, H1, e1, hr⟩ := bnd_some hr
  show wpAny _ _ (forIn [t] true _) _ _ _
  rw [List.forIn_cons]
  refine wpAny_bind ?_
  rw [if_pos rfl]
  refine wpAny_bind ((ht env lo I as H s he L J).use e1 hA fun x s1 I1 as1 T1 J1 R1 => wpAny_pure ?_)
  cases R1
  show wpAny _ _ (forIn [] e _) _ _ s1
  rw [List.forIn_nil]
  refine wpAny_pure ?_
  obtain ⟨ex, hex⟩ := T1.pre
  have ha1 : as1[acc]? = some [a] := by rw [hex]; exact getElem?_append_some ha
  cases e with
  | true =>
    rw [if_pos rfl]
    exact h env lo I1 as1 H1 s1 acc a he (L.tr T1) J1 ha1 lo' H' hr A hA Q fun s' I' as' T' J' L' => hQ s' I' as' (T1.nil.trans T') J' L'
  | false =>
    rw [if_neg Bool.false_ne_true]
    cases hr
    exact hQ s1 I1 as1 T1.nil J1 (L.tr T1)

theorem append_call {c : Cx} {A : Around} {I : Im} {as : As} {H : List O} {s : Shared} {i : Nat} {a : Addr} {fp : List Addr} {us : List V} {v : V} {x : Value} {E : Value → Shared → Prop} {Q : Value → Shared → Prop} (J : Inv c I as H s) (ha : as[i]? = some (a :: fp)) (hu : asList H i = some us) (hb : us.length < big) (R : VR c I as v x)
    (h : ∀ s', Tr [] I as s I as s' → Inv c I as (H.set i (.list (us ++ [v]))) s' → Q .none s') : wpAny (model c.prog c.w) A (call (.builtin "list.append") [.ref a, x]) Q E s := by
  obtain ⟨items, nn, rfl, o1, r1, hl1⟩ := or_list (J.obj ha (asList_some hu))
  have hz := r1.length
  refine call_meets F.slot_list_append ⟨_, o1, rfl⟩ F.entry_list_append (F.args_list_append_2 _ _) (list_append a items.toArray nn x (by rw [List.size_toArray, ← hz]; exact Nat.le_trans hl1 big_le)) ⟨o1, ?_⟩
  have hs : Heap.SameBut a s.heap (s.heap.update a (Obj.mapSeq fun xs => xs.push x)) := Heap.SameBut.update ..
  refine h _ (Tr.set I as s s.toks (mem_flat ha) hs) (J.set s.toks ha (by simp) hs (.list (items := items ++ [x]) (n := nn + 1) ?_ (r1.append (.cons R .nil)) (by simp; exact hb)))
  rw [Heap.get?_update_self _ o1 (by rfl)]
  simp [Obj.mapSeq]

theorem CI.emit {f : Ef} (hn : gens[d + 1]? = none) (hf : ET c n sc elt f) : CI c n sc elt gens scope pos d (cEmit f) := by
  intro env lo I as H s acc a he L J ha lo' H' hr A hA Q hQ
  obtain ⟨v, H1, e1, hr⟩ := bnd_some hr
  obtain ⟨xs, e2, hr⟩ := ob_some hr
  obtain ⟨e3, hr⟩ := gd_some hr
  cases hr
  unfold InnerP
  rw [hn]
  refine (hf env lo I as H s he L J).use e1 hA fun x s1 I1 as1 T1 J1 R1 => ?_
  obtain ⟨ex, hex⟩ := T1.pre
  have ha1 : as1[acc]? = some [a] := by rw [hex]; exact getElem?_append_some ha
  exact append_call J1 ha1 e2 (Nat.lt_of_succ_le (Nat.le_of_ble_eq_true e3)) R1 fun s2 T2 J2 => hQ s2 I1 as1 (T1.trans T2).nil J2 ((L.tr T1).tr T2)

abbrev CInv (c : Cx) (env : Env) (i acc : Nat) (a ia : Addr) (b : Cf) (lo' : List V) (H' : List O) (own : List Addr) (I : Im) (as : As) (s : Shared) : Nat → Shared → Prop := fun k s' => ∃ lo1 I1 as1 H1 it1, Tr ([env.locals] ++ own) I as s I1 as1 s' ∧ Inv c I1 as1 H1 s' ∧ LR c env lo1 I1 as1 s' ∧ ItR c I1 as1 s'.heap (fAddrs env) own it1 ia ∧ as1[acc]? = some [a] ∧ cLoop i b k it1 acc lo1 H1 = some (lo', H')
/-- a clause's whole loop -/
theorem loop_run {x : Str} {px : Pos} {iter : Expr} {ifs : List Expr} {b : Cf} {i : Nat} (hg : gens[d]? = some ⟨.Name x px, iter, ifs, 0⟩) (hi : sc.names[i]? = some (x, .local)) (K : ScOk sc) (hb : CT c n sc elt gens scope pos d ifs b) (fuel : Nat)
    {env : Env} {lo : List V} {I : Im} {as : As} {H : List O} {s : Shared} {acc : Nat} {a : Addr} (he : EOk env sc) (L : LR c env lo I as s) (J : Inv c I as H s) (ha : as[acc]? = some [a]) {it : It} {ia : Addr} {own : List Addr} (R : ItR c I as s.heap (fAddrs env) own it ia)
    {lo' : List V} {H' : List O} (hr : cLoop i b fuel it acc lo H = some (lo', H')) {A : Around} (hA : Rm n A) {Q : Result → Shared → Prop} (hQ : ∀ s' I' as', Tr ([env.locals] ++ own) I as s I' as' s' → Inv c I' as' H' s' → LR c env lo' I' as' s' → Q (.ok .next) s') :
    codeAny (model c.prog c.w) A (.compLoop (.ListComp elt gens scope pos) d (.ref ia) (.ref a) env) Q s := by
  refine loop_gen hg (CInv c env i acc a ia b lo' H' own I as s) ?_ fuel ⟨lo, I, as, H, it, Tr.refl .., J, L, R, ha, hr⟩ (by intro _; rfl)
  rintro k s1 ⟨lo1, I1, as1, H1, it1, T1, J1, L1, R1, ha1, hk⟩
  cases k with
  | zero => cases hk
  | succ k =>
    obtain ⟨⟨ov, it2⟩, e2, hk⟩ := ob_some hk
    refine It.sound R1 J1 e2 hA.handled fun r' s2 hN T2 J2 R2 => ?_
    have L2 : LR c env lo1 I1 as1 s2 := L1.trD T2 fun z hz q => R1.off z q hz
    have T2' : Tr ([env.locals] ++ own) I1 as1 s1 I1 as1 s2 := T2.weak fun z hz => List.mem_append_right _ hz
    cases ov with
    | none => cases r' with
      | some => exact hN.elim
      | none => cases hk; exact hQ s2 I1 as1 (T1.trans T2') J2 L2
    | some v => cases r' with
      | none => exact hN.elim
      | some val =>
        refine wpAny_assign_Name (store_loc he L2 J2 hi (K.lk hi) hN fun s3 T3 J3 L3 => ?_)
        have hk := (setL_eq _ _ _ _).symm.trans hk
        obtain ⟨⟨lo4, H4⟩, e3, hk⟩ := ob_some hk
        have R3 := (R2 rfl).tr (T3.weak (fa' := fAddrs env) fun z hz => by simp at hz; simp [fAddrs, hz])
        refine hb env _ I1 as1 H1 s3 acc a he L3 J3 ha1 lo4 H4 e3 A hA (fun s' => ∃ m, m < k + 1 ∧ CInv c env i acc a ia b lo' H' own I as s m s') fun s4 I4 as4 T4 J4 L4 => ?_
        obtain ⟨ex, hex⟩ := T4.pre
        refine ⟨k, Nat.lt_succ_self _, lo4, I4, as4, H4, it2, T1.trans (T2'.trans ((T3.trans T4).weak fun z hz => List.mem_append_left _ hz)), J4, L4, R3.tr (T4.weak (fa' := fAddrs env) fun z hz => by simp at hz; simp [fAddrs, hz]), by rw [hex]; exact getElem?_append_some ha1, hk⟩

theorem CI.next {x : Str} {px : Pos} {iter : Expr} {ifs : List Expr} {b : Cf} {i : Nat} {g : If} (fuel : Nat) (K : ScOk sc) (hg : gens[d + 1]? = some ⟨.Name x px, iter, ifs, 0⟩) (hi : sc.names[i]? = some (x, .local)) (hit : IS c n sc iter g) (hfs : ∀ env x, foldedSetIterable iter env x = pure x) (hb : CT c n sc elt gens scope pos (d + 1) ifs b) :
    CI c n sc elt gens scope pos d (cFor i g b fuel) := by
  intro env lo I as H s acc a he L J ha lo' H' hr A hA Q hQ
  obtain ⟨it, H1, e1, hr⟩ := bnd_some hr
  unfold InnerP
  rw [hg]
  refine ⟨rfl, hfs env, wpAny_mono (hit env lo I as H s he L J it H1 e1 A hA (fAddrs env) fun z hz => (L.own z hz).1) (fun xv s1 h1 => wpAny_mono h1 (fun itv s2 h2 => ?_) fun _ _ f => f) fun _ _ f => f⟩
  obtain ⟨ia, own, I2, as2, rfl, T2, J2, R2, hown⟩ := h2
  obtain ⟨ex, hex⟩ := T2.pre
  have ha2 : as2[acc]? = some [a] := by rw [hex]; exact getElem?_append_some ha
  have run : codeAny (model c.prog c.w) A (.compLoop (.ListComp elt gens scope pos) (d + 1) (.ref ia) (.ref a) env) (fun r s₆ => match r with | .ok _ => Q s₆ | .error _ => False) s2 :=
    loop_run hg hi K hb fuel he (L.tr T2) J2 ha2 R2 hr hA fun s' I' as' T' J' L' => hQ s' I' as' ((Tr.refl [env.locals] I as s).leave ((T2.nil (fa := [env.locals] ++ own)).trans T') hown) J' L'
  exact start_gen hg run (R2.self hA.handled run)
end

def clOf (env : Env) : List (Str × NameKind) → List (Str × Addr) → List (Str × Addr)
  | [], acc => acc
  | (x, k) :: r, acc => if k == NameKind.free then clOf env r ((x, (env.cells.lookup x).getD 0) :: acc) else clOf env r acc
theorem clOf_ok {env : Env} : ∀ (names : List (Str × NameKind)) (acc : List (Str × Addr)) (f : Str × NameKind → List (Str × Addr) → Sem (ForInStep (List (Str × Addr)))),
    (∀ x k r, f (x, k) r = if (k == NameKind.free) = true then (do let a ← cellOf env x; pure (ForInStep.yield ((x, a) :: r))) else pure (ForInStep.yield r)) →
    (∀ x, (x, NameKind.free) ∈ names → ∃ a, env.cells.lookup x = some a) → (forIn names acc f : Sem (List (Str × Addr))) = pure (clOf env names acc)
  | [], acc, f, _, _ => by rw [List.forIn_nil]; rfl
  | (x, k) :: r, acc, f, hf, h => by
    rw [List.forIn_cons, hf]
    have hr : ∀ y, (y, NameKind.free) ∈ r → ∃ a, env.cells.lookup y = some a := fun y hy => h y (List.mem_cons_of_mem _ hy)
    unfold clOf
    cases hk : k == NameKind.free with
    | false =>
      rw [if_neg Bool.false_ne_true, if_neg Bool.false_ne_true]
      exact clOf_ok r acc f hf hr
    | true =>
      have hk' : k = .free := by simpa using hk
      obtain ⟨a, ha⟩ := h x (by rw [hk']; exact List.mem_cons_self)
      rw [if_pos rfl, if_pos rfl]
      have : cellOf env x = pure a := by unfold cellOf; rw [ha]
      rw [this, ha]
      exact clOf_ok r ((x, a) :: acc) f hf hr
theorem closureFor_eq {env : Env} {scope : Scope} (h : ∀ x, (x, NameKind.free) ∈ scope.names → ∃ a, env.cells.lookup x = some a) : closureFor scope env = pure (clOf env scope.names []) := by
  unfold closureFor
  show (forIn scope.names [] _ >>= fun cs => pure cs) = _
  rw [clOf_ok scope.names [] _ (fun x k r => by cases k <;> rfl) h]
  rfl
theorem clOf_mem {env : Env} {p : Str × Addr} : ∀ {names : List (Str × NameKind)} {acc : List (Str × Addr)}, p ∈ clOf env names acc → p ∈ acc ∨ ((p.1, NameKind.free) ∈ names ∧ p.2 = (env.cells.lookup p.1).getD 0)
  | [], _, h => .inl h
  | (x, k) :: r, acc, h => by
    unfold clOf at h
    split at h
    · rename_i hk
      have hk' : k = .free := by simpa using hk
      subst hk'
      rcases clOf_mem h with h | h
      · rcases List.mem_cons.mp h with rfl | h
        · exact .inr ⟨List.mem_cons_self, rfl⟩
        · exact .inl h
      · exact .inr ⟨List.mem_cons_of_mem _ h.1, h.2⟩
    · rcases clOf_mem h with h | h
      · exact .inl h
      · exact .inr ⟨List.mem_cons_of_mem _ h.1, h.2⟩
theorem clOf_has {env : Env} {x : Str} : ∀ {names : List (Str × NameKind)} {acc : List (Str × Addr)}, ((x, NameKind.free) ∈ names ∨ x ∈ acc.map (·.1)) → x ∈ (clOf env names acc).map (·.1)
  | [], _, h => h.elim (fun q => nomatch q) id
  | (y, k) :: r, acc, h => by
    unfold clOf
    split
    · refine clOf_has ?_
      rcases h with h | h
      · rcases List.mem_cons.mp h with e | h
        · cases e; exact .inr (by simp)
        · exact .inl h
      · exact .inr (by simp at h ⊢; exact .inr h)
    · refine clOf_has ?_
      rename_i hk
      rcases h with h | h
      · rcases List.mem_cons.mp h with e | h
        · cases e; exact absurd rfl hk
        · exact .inl h
      · exact .inr h
theorem clOf_nodup {env : Env} : ∀ {names : List (Str × NameKind)} {acc : List (Str × Addr)}, (names.map (·.1)).Nodup → (acc.map (·.1)).Nodup → (∀ x ∈ acc.map (·.1), x ∉ names.map (·.1)) → ((clOf env names acc).map (·.1)).Nodup
  | [], _, _, h, _ => h
  | (y, k) :: r, acc, nd, h, d => by
    rw [List.map_cons, List.nodup_cons] at nd
    unfold clOf
    split
    · refine clOf_nodup nd.2 ?_ fun x hx => ?_
      · rw [List.map_cons, List.nodup_cons]
        exact ⟨fun q => d y q (by simp), h⟩
      · rw [List.map_cons] at hx
        rcases List.mem_cons.mp hx with rfl | hx
        · exact nd.1
        · exact fun q => d x hx (by rw [List.map_cons]; exact List.mem_cons_of_mem _ q)
    · exact clOf_nodup nd.2 h fun x hx q => d x hx (by rw [List.map_cons]; exact List.mem_cons_of_mem _ q)

/-- a comprehension's own names out of the frame around it -/
def cInit (mp : List (Option Nat)) (lo : List V) : List V := mp.map fun o => match o with
  | some j => nth .unb lo j
  | none => .unb
def eComp (mp : List (Option Nat)) (i : Nat) (g : If) (b : Cf) (fuel : Nat) : Ef := fun lo H => bnd (g lo H) fun it H1 => ob (cLoop i b fuel it H1.length (cInit mp lo) (H1 ++ [.list []])) fun r => some (.ref H1.length, r.2)

structure CompOk (sc scope sc' : Scope) (mp : List (Option Nat)) : Prop where
  kind : scope.kind = .function
  nd : (scope.names.map (·.1)).Nodup
  nocell : ∀ x ∈ scope.names, x.2 ≠ .cell
  free : ∀ x ∈ scope.names, x.2 = .free → (x.1, NameKind.cell) ∈ sc.names
  rel : ∀ env : Env, env.scope = sc → relabel scope env = sc'
  ok : ScOk sc'
  names : ∀ x ∈ sc'.names, x.2 ≠ .free ∧ (x.2 = .cell → (x.1, NameKind.free) ∈ scope.names)
  len : mp.length = sc'.names.length
  at_ : ∀ (i j : Nat) (x : Str) (k : NameKind), mp[i]? = some (some j) → sc'.names[i]? = some (x, k) → k = .cell ∧ sc.names[j]? = some (x, .cell)

theorem cInit_get {mp : List (Option Nat)} {lo : List V} {i : Nat} {v : V} (h : (cInit mp lo)[i]? = some v) (hv : v ≠ .unb) : ∃ j, mp[i]? = some (some j) ∧ lo[j]? = some v := by
  unfold cInit at h
  rw [List.getElem?_map] at h
  cases e : mp[i]? with
  | none => rw [e] at h; cases h
  | some o =>
    rw [e] at h
    cases o with
    | none => cases h; exact absurd rfl hv
    | some j =>
      refine ⟨j, rfl, ?_⟩
      have h : nth .unb lo j = v := Option.some.inj h
      rw [nth_eq, List.getD_eq_getElem?_getD] at h
      cases e2 : lo[j]? with
      | none => rw [e2] at h; exact absurd h.symm hv
      | some w => rw [e2] at h; exact congrArg some h

/-- the comprehension run; u: what is done with its list -/
theorem run_comp {c : Cx} {n : Nat} {sc scope sc' : Scope} {mp : List (Option Nat)} {elt iter : Expr} {x : Str} {px pos ipos : Pos} {ifs : List Expr} {gs : List Comprehension} {g : If} {b : Cf} {i : Nat} (fuel : Nat) (X : CompOk sc scope sc' mp) (hit : IS c n sc iter g) (hfs : ∀ env x, foldedSetIterable iter env x = pure x)
    (hi : sc'.names[i]? = some (x, .local)) (hb : CT c n sc' elt (⟨.Name x px, iter, ifs, 0⟩ :: gs) scope pos 0 ifs b)
    {env : Env} {lo : List V} {I : Im} {as : As} {H : List O} {s : Shared} (he : EOk env sc) (L : LR c env lo I as s) (J : Inv c I as H s) {v : V} {H' : List O} (hr : eComp mp i g b fuel lo H = some (v, H')) {A : Around} (hA : Rm n A) {use : Option (Value → Sem Unit)} {Q : Value → Shared → Prop}
    (hQ : ∀ val C s' I' as', Tr [] I as s I' as' s' → Inv c I' as' H' s' → VR c I' as' v val → s.heap.objs.size ≤ C → C ∉ as'.flatten → I' C = none → C < s'.heap.objs.size → (∃ m, s'.heap.Ns C m) → compPost (model c.prog c.w) A (fun _ _ => False) use Q val C (.ok .next) s') :
    wpAny (model c.prog c.w) A (comprehension (.ListComp elt (⟨.Name x px, iter, ifs, 0⟩ :: gs) scope pos) scope env ipos (newList []) false (eval iter env) use) Q (fun _ _ => False) s := by
  obtain ⟨it, H1, e1, hr⟩ := bnd_some hr
  obtain ⟨⟨lo2, H2⟩, e2, hr⟩ := ob_some hr
  cases hr
  have hcells : ∀ y, (y, NameKind.free) ∈ scope.names → ∃ a, env.cells.lookup y = some a := fun y hy => by
    have hm := X.free _ hy rfl
    obtain ⟨j, hj⟩ := List.getElem?_of_mem hm
    obtain ⟨a, ha, _⟩ := L.cel j y .cell (by rw [he.scope]; exact hj) (.inl rfl)
    exact ⟨a, ha⟩
  have hclmem : ∀ p ∈ clOf env scope.names [], env.cells.lookup p.1 = some p.2 ∧ (p.1, NameKind.free) ∈ scope.names := fun p hp => by
    rcases clOf_mem hp with h | ⟨h1, h2⟩
    · cases h
    · obtain ⟨a, ha⟩ := hcells p.1 h1
      rw [ha] at h2
      exact ⟨by rw [h2]; exact ha, h1⟩
  refine wpAny_comprehension_free (cl := clOf env scope.names []) rfl (hfs env) (closureFor_eq hcells) X.kind (fun y hy hl => lookup_mem_nodup X.nd (by rw [← hl]; exact hy)) ?_
  refine wpAny_mono (hit env lo I as H s he L J it H1 e1 A hA (fAddrs env) fun z hz => (L.own z hz).1) (fun xv s1 h1 => wpAny_mono h1 (fun itv s2 h2 => ?_) fun _ _ f => f) fun _ _ f => f
  obtain ⟨ia, own, I2, as2, rfl, T2, J2, R2, hown⟩ := h2
  refine wpAny_newObj_type ?_ (by show 0 ≤ sizeLine; exact Nat.zero_le _)
  have J3 := J2.alloc { cls := .type "list", data := .seq ([] : List Value).toArray } (.list []) s2.toks rfl (.list (items := []) (n := 0) (Heap.get?_push_size _ rfl) .nil (Nat.zero_le _))
  have T3 := Tr.alloc [] I2 as2 s2 { cls := .type "list", data := .seq ([] : List Value).toArray } s2.toks
  have R3 := R2.tr (T3.nil (fa := fAddrs env))
  generalize hs3 : ({ s2 with heap := s2.heap.push { cls := .type "list", data := .seq ([] : List Value).toArray }, toks := s2.toks } : Shared) = s3 at J3 T3 R3
  have L3 := (L.tr T2).tr T3
  have ha3 : (as2 ++ [[s2.heap.objs.size]])[H1.length]? = some [s2.heap.objs.size] := by rw [← J2.len]; simp
  generalize hA0 : s2.heap.objs.size = a0 at ha3 J3 T3 R3 L3
  refine wpAny_newFunctionEnv X.nocell (fun y hy => nomatch hy) (fun h4 hns4 hsb4 => ?_) X.kind
  have hz4 : s3.heap.objs.size ≤ h4.objs.size := by rw [hsb4.1, Heap.size_push]; exact Nat.le_succ _
  have hk4 : ∀ z o, s3.heap.get? z = some o → h4.get? z = some o := fun z o e => (hsb4.2 z (Nat.ne_of_lt (Heap.lt_size e))).trans (Heap.get?_push_of_some _ e)
  have J4 := J3.grow (s3.toks + ([] : List (Str × Value)).length) hz4 hk4
  have T4 := Tr.grow [] I2 (as2 ++ [[a0]]) s3 (s3.toks + ([] : List (Str × Value)).length) hz4 hk4
  have R4 := R3.tr (T4.nil (fa := fAddrs env))
  have L4 := L3.tr T4
  generalize hs4 : ({ s3 with heap := h4, toks := s3.toks + ([] : List (Str × Value)).length } : Shared) = s4 at J4 T4 R4 L4 ⊢
  have hC := fresh_off J3 (Nat.le_refl s3.heap.objs.size)
  have hCns : s4.heap.Ns s3.heap.objs.size (fun y => ([] : List (Str × Value)).reverse.lookup y) := by rw [← hs4]; exact hns4
  have hClt : s3.heap.objs.size < s4.heap.objs.size := hCns.lt
  have hownlt : ∀ z ∈ own, z < s3.heap.objs.size := fun z hz => by
    cases R3 with
    | list hl e ho hi' hf => simp at hz; subst hz; obtain ⟨o, q, _⟩ := e; exact Heap.lt_size q
    | keys hl e ho hi' hf => simp at hz; subst hz; obtain ⟨o, q, _⟩ := e; exact Heap.lt_size q
    | seq W st hn hP ho hw => exact (ho z ((W callerA rfl).sub z hz)).1
  -- the comprehension's own frame
  have hrel := X.rel env he.scope
  show codeAny _ _ (.compStart _ 0 (.ref ia) _ (compEnvC scope (clOf env scope.names []) s3.heap.objs.size env)) _ _
  have hsc : (compEnvC scope (clOf env scope.names []) s3.heap.objs.size env).scope = sc' := hrel
  have he5 : EOk (compEnvC scope (clOf env scope.names []) s3.heap.objs.size env) sc' := ⟨hsc, X.ok.kind, he.g, he.b, X.ok.nd⟩
  have hcl_lt : ∀ p ∈ clOf env scope.names [], p.2 ∈ fAddrs env := fun p hp => mem_snd_of_lookup (hclmem p hp).1
  have hne : ∀ z ∈ fAddrs env, z ≠ s3.heap.objs.size := fun z hz => Nat.ne_of_lt (L3.own z hz).1
  have hclnd : ((clOf env scope.names []).map (·.1)).Nodup := clOf_nodup X.nd (by simp) (by simp)
  have L5 : LR c (compEnvC scope (clOf env scope.names []) s3.heap.objs.size env) (cInit mp lo) I2 (as2 ++ [[a0]]) s4 := by
    refine ⟨fun z hz => ?_, ⟨_, hCns, fun k y w e1' e2' e3' => ?_⟩, fun k y kk e hk => ?_, ?_⟩
    · rcases List.mem_cons.mp hz with rfl | hz
      · exact ⟨hClt, hC.1, hC.2⟩
      · obtain ⟨p, hp, rfl⟩ := List.mem_map.mp hz
        exact L4.own _ (hcl_lt p hp)
    · rw [hsc] at e1'
      obtain ⟨j, hj, hw⟩ := cInit_get e2' e3'
      have := (X.at_ k j y _ hj e1').1
      cases this
    · rw [hsc] at e
      have hm := X.names _ (List.mem_of_getElem? e)
      rcases hk with rfl | rfl
      · have hfr := hm.2 rfl
        have hmem := clOf_has (env := env) (acc := []) (.inl hfr)
        obtain ⟨p, hp, hpx⟩ := List.mem_map.mp hmem
        obtain ⟨p1, p2⟩ := hclmem p hp
        have hpx : p.1 = y := hpx
        rw [hpx] at p1
        have hlk : (clOf env scope.names []).lookup y = some p.2 := lookup_mem_nodupA hclnd (by rw [← hpx]; exact hp)
        have hcell := X.free _ hfr rfl
        obtain ⟨j, hj⟩ := List.getElem?_of_mem hcell
        obtain ⟨a', ha', cv, hc', hv'⟩ := L4.cel j y .cell (by rw [he.scope]; exact hj) (.inl rfl)
        rw [p1] at ha'; cases ha'
        refine ⟨p.2, hlk, cv, hc', fun w e1' e2' => ?_⟩
        obtain ⟨j', hj', hw'⟩ := cInit_get e1' e2'
        have := (X.at_ k j' y _ hj' e).2
        have : j' = j := names_inj he.nd this hj
        subst this
        exact hv' w hw' e2'
      · exact absurd rfl hm.1
    · rw [fAddrs, List.nodup_cons]
      refine ⟨fun q => ?_, ?_⟩
      · obtain ⟨p, hp, e⟩ := List.mem_map.mp q
        exact hne _ (hcl_lt p hp) e
      · have hpw := List.pairwise_map.mp hclnd
        refine List.pairwise_map.mpr (hpw.imp_of_mem fun {p q} hp hq hpq e => hpq ?_)
        have hnd := L.nd
        rw [fAddrs, List.nodup_cons] at hnd
        exact name_of_addr (cs := env.cells) (List.pairwise_map.mp hnd.2) (mem_of_lookup (hclmem p hp).1) (by rw [e]; exact mem_of_lookup (hclmem q hq).1)
  have R5 : ItR c I2 (as2 ++ [[a0]]) s4.heap (fAddrs (compEnvC scope (clOf env scope.names []) s3.heap.objs.size env)) own it ia := by
    have R3' : ItR c I2 (as2 ++ [[a0]]) s3.heap (fAddrs (compEnvC scope (clOf env scope.names []) s3.heap.objs.size env)) own it ia := R3.fa fun z hz => by
      rcases List.mem_cons.mp hz with rfl | hz
      · exact .inr (Nat.le_refl _)
      · obtain ⟨p, hp, rfl⟩ := List.mem_map.mp hz
        exact .inl (hcl_lt p hp)
    exact R3'.tr T4.nil
  have hT4 : Tr [] I as s I2 (as2 ++ [[a0]]) s4 := T2.trans (T3.trans T4)
  have hCge : s.heap.objs.size ≤ s3.heap.objs.size := (T2.trans T3).size
  have run : codeAny (model c.prog c.w) A (.compLoop (.ListComp elt (⟨.Name x px, iter, ifs, 0⟩ :: gs) scope pos) 0 (.ref ia) (.ref a0) (compEnvC scope (clOf env scope.names []) s3.heap.objs.size env)) (compPost (model c.prog c.w) A (fun _ _ => False) use Q (.ref a0) s3.heap.objs.size) s4 := by
    refine loop_run (gens := ⟨.Name x px, iter, ifs, 0⟩ :: gs) (d := 0) rfl hi X.ok hb fuel he5 L5 J4 ha3 R5 e2 hA fun s6 I6 as6 T6 J6 L6 => ?_
    have hoff : ∀ z ∈ [s3.heap.objs.size] ++ own, s.heap.objs.size ≤ z := fun z hz => by
      rcases List.mem_append.mp hz with hz | hz
      · simp at hz; subst hz; exact hCge
      · exact hown z hz
    have T : Tr [] I as s I6 as6 s6 := by
      have T0 : Tr ([] ++ ([s3.heap.objs.size] ++ own)) I as s I6 as6 s6 := (hT4.nil (fa := [s3.heap.objs.size] ++ own)).trans T6
      exact (Tr.refl [] I as s).leave T0 hoff
    obtain ⟨ex, hex⟩ := T6.pre
    have hV : VR c I6 as6 (.ref H1.length) (.ref a0) := .ref (fp := []) (by rw [hex]; exact getElem?_append_some ha3)
    have hown6 := L6.own s3.heap.objs.size (by simp [fAddrs, compEnvC])
    exact hQ _ s3.heap.objs.size s6 I6 as6 T J6 hV hCge hown6.2.1 hown6.2.2 hown6.1 (let ⟨m, hm, _⟩ := L6.loc; ⟨m, hm⟩)
  exact start_gen (d := 0) rfl run (R5.self hA.handled run)

theorem ET.comp {c : Cx} {n : Nat} {sc scope sc' : Scope} {mp : List (Option Nat)} {elt iter : Expr} {x : Str} {px pos : Pos} {ifs : List Expr} {gs : List Comprehension} {g : If} {b : Cf} {i : Nat} (fuel : Nat) (X : CompOk sc scope sc' mp) (hit : IS c n sc iter g) (hfs : ∀ env x, foldedSetIterable iter env x = pure x)
    (hi : sc'.names[i]? = some (x, .local)) (hb : CT c n sc' elt (⟨.Name x px, iter, ifs, 0⟩ :: gs) scope pos 0 ifs b) : ET c n sc (.ListComp elt (⟨.Name x px, iter, ifs, 0⟩ :: gs) scope pos) (eComp mp i g b fuel) := by
  intro env lo I as H s he L J v H' hr A hA
  rw [eval_ListComp]
  refine run_comp fuel X hit hfs hi hb he L J hr hA (use := none) fun val C s' I' as' T' J' R' hC h1 h2 h3 hm => ?_
  obtain ⟨m, hm⟩ := hm
  refine ⟨m, hm, fun h'' hs => ?_⟩
  have T2 : Tr [C] I' as' s' I' as' { s' with heap := h'', toks := s'.toks } := Tr.frame I' as' s' s'.toks (by simp) hs
  refine ⟨I', as', ?_, J'.frame s'.toks h1 h2 hs, R'⟩
  have T0 : Tr ([] ++ [C]) I as s I' as' { s' with heap := h'', toks := s'.toks } := (T'.nil (fa := [C])).trans T2
  exact (Tr.refl [] I as s).leave T0 (by intro z hz; simp at hz; subst hz; exact hC)

theorem ST.asgC {c : Cx} {n : Nat} {sc scope sc' : Scope} {mp : List (Option Nat)} {elt iter : Expr} {x y : Str} {px py pos spos : Pos} {ifs : List Expr} {gs : List Comprehension} {g : If} {b : Cf} {i j : Nat} (fuel : Nat) (X : CompOk sc scope sc' mp) (hs : SN c sc y j) (hit : IS c n sc iter g) (hfs : ∀ env x, foldedSetIterable iter env x = pure x)
    (hi : sc'.names[i]? = some (x, .local)) (hb : CT c n sc' elt (⟨.Name x px, iter, ifs, 0⟩ :: gs) scope pos 0 ifs b)
    (hsw : ∀ env : Env, env.scope = sc → swapsWith (.ListComp elt (⟨.Name x px, iter, ifs, 0⟩ :: gs) scope pos) (some (.Name y py)) spos.line env = pure true) : ST c n sc (.Assign [.Name y py] (.ListComp elt (⟨.Name x px, iter, ifs, 0⟩ :: gs) scope pos) spos) (sAsg j (eComp mp i g b fuel)) := by
  intro env lo I as H s he L J r H' hr A hA
  obtain ⟨v, H1, e1, hr⟩ := bnd_some hr
  rw [setL_eq] at hr
  cases hr
  rw [exec_Assign_Name_used _ _ _ _ (hsw env he.scope)]
  refine wpAny_bind (wpAny_standAt (wpAny_bind ?_))
  show wpAny _ A (do let _ ← comprehension (.ListComp elt (⟨.Name x px, iter, ifs, 0⟩ :: gs) scope pos) scope env _ (newList []) false (eval iter env) (some (assign (.Name y py) env))) _ _ s
  refine wpAny_bind (wpAny_mono (run_comp fuel X hit hfs hi hb he L J e1 hA (use := some (assign (.Name y py) env)) (Q := fun _ s' => ∃ I' as', Tr (fAddrs env) I as s I' as' s' ∧ Inv c I' as' H' s' ∧ SRel c env I' as' s' (Fl.next, lo.set j v) Flow.next) fun val C s' I' as' T' J' R' hC h1 h2 h3 hm => ?_) (fun _ s' hq => wpAny_pure (wpAny_pure hq)) fun _ _ f => f)
  show wpAny _ A (assign (.Name y py) env val) _ _ s'
  refine wpAny_assign_Name (hs env lo I' as' H' s' v val he (L.tr T') J' R' A _ _ fun s2 T2 J2 L2 => ?_)
  have hCf : C ∉ fAddrs env := fun q => absurd (L.own C q).1 (Nat.not_lt.mpr hC)
  obtain ⟨m, o, es, ep, ho, hrest⟩ := hm
  have hm2 : s2.heap.Ns C m := ⟨o, es, ep, T2.kept C o ho h1 hCf, hrest⟩
  refine ⟨m, hm2, fun h'' hs'' => ?_⟩
  have T3 : Tr [C] I' as' s2 I' as' { s2 with heap := h'', toks := s2.toks } := Tr.frame I' as' s2 s2.toks (by simp) hs''
  refine ⟨I', as', ?_, J2.frame s2.toks h1 h2 hs'', .next, L2.trD T3 fun z hz q => ?_⟩
  · have T0 : Tr (fAddrs env ++ [C]) I as s I' as' { s2 with heap := h'', toks := s2.toks } := (T'.nil (fa := fAddrs env ++ [C])).trans ((T2.weak fun z hz => List.mem_append_left _ hz).trans (T3.weak fun z hz => List.mem_append_right _ hz))
    exact (Tr.refl (fAddrs env) I as s).leave T0 (by intro z hz; simp at hz; subst hz; exact hC)
  · simp at q; subst q; exact hCf hz

end
end Mine
-- part M15.lean
set_option autoImplicit false
set_option maxRecDepth 100000
set_option linter.unusedVariables false
namespace Mine
open PySem PySem.W PyProof.Rows
noncomputable section

/-! list display -/
def eListD (g : Af) : Ef := fun lo H => bnd (g lo H) fun vs H1 => gd (Nat.ble vs.length big) (some (.ref H1.length, H1 ++ [.list vs]))
theorem ET.listD {c : Cx} {n : Nat} {sc : Scope} {es : List Expr} {pos : Pos} {g : Af} (hg : AT c n sc es g) : ET c n sc (.List es pos) (eListD g) := by
  intro env lo I as H s he L J v H' hr A hA
  obtain ⟨vs, H1, e1, hr⟩ := bnd_some hr
  obtain ⟨e2, hr⟩ := gd_some hr
  cases hr
  have hb := Nat.le_of_ble_eq_true e2
  refine wpAny_List ((hg pos env lo I as H s he L J).use e1 hA fun xs s1 I1 as1 T1 J1 R1 => ⟨?_, I1, _, T1.trans (Tr.alloc _ _ _ _ _ s1.toks), J1.alloc _ _ s1.toks rfl (.list (items := xs) (n := 0) ?_ (R1.imp fun _ _ q => q.mono fun _ _ e => e) hb), J1.newRef _⟩)
  · rw [← R1.length]; exact Nat.le_trans hb big_le
  · rw [Heap.get?_push_size _ rfl]

/-! text methods -/
theorem MS.count (c : Cx) (n : Nat) : MS c n "count" isStr "str.count" mCount where
  get := MS.strGet F.slot_str_count F.type_str_count
  run := mSS_run fun i j v t u A s Q hf h => by cases hf; exact SC.count (h _ _ fun _ _ => .int _ _)
def strsOf (xs : List V) : Option (List (List Nat)) := List.rec (some []) (fun v _ ih => ob (isS v) fun l => ob ih fun t => some (l :: t)) xs
theorem strsOf_some {c : Cx} {I : Im} {as : As} {xs : List V} {items : List Value} (R : All2 (VR c I as) xs items) : ∀ {ts : List (List Nat)}, strsOf xs = some ts → ∃ l : List (Str × Tok), items = strValues l ∧ l.map (·.1) = ts.map fun x => ⟨x.toArray⟩ := by
  induction R with
  | nil => intro ts h; cases h; exact ⟨[], rfl, rfl⟩
  | cons R _ ih =>
    intro ts h
    obtain ⟨l, e0, h⟩ := ob_some h
    obtain ⟨ts', e1, h⟩ := ob_some h
    cases h
    rw [isS_some e0] at R
    obtain ⟨t, rfl, _⟩ := vr_str R
    obtain ⟨r, h1, h2⟩ := ih e1
    exact ⟨(⟨l.toArray⟩, t) :: r, by rw [h1]; rfl, by rw [List.map_cons, List.map_cons, h2]⟩

theorem str_eta (x : Str) : (⟨x.cps.toList.toArray⟩ : Str) = x := by cases x; simp

def mJoin (v : V) : Fp := fun vs H => ob (isS v) fun x => ob (one vs) fun a => ob (isR a) fun i => ob (asList H i) fun xs => ob (strsOf xs) fun ts => gd (JoinOk ⟨x.toArray⟩ (ts.map fun y => ⟨y.toArray⟩)) (gd (Nat.ble (Txt.join ⟨x.toArray⟩ (ts.map fun y => ⟨y.toArray⟩)).cps.toList.length big) (some (.str (Txt.join ⟨x.toArray⟩ (ts.map fun y => ⟨y.toArray⟩)).cps.toList, H)))
theorem MS.join (c : Cx) (n : Nat) : MS c n "join" isStr "str.join" mJoin where
  get := MS.strGet F.slot_str_join F.type_str_join
  run := by
    intro v x vs xs I as H s J R Rs w H' hr A hA
    obtain ⟨l, h1, hr⟩ := ob_some hr
    obtain ⟨b, h2, hr⟩ := ob_some hr
    obtain ⟨i, h3, hr⟩ := ob_some hr
    rw [isS_some h1] at R
    rw [one_some h2, isR_some h3] at Rs
    · obtain ⟨t, rfl, h⟩ := vr_str R
      obtain ⟨y, rfl, R1⟩ := all2_1 Rs
      obtain ⟨a, fp, rfl, ha⟩ := vr_ref R1
      obtain ⟨us, q1, hr⟩ := ob_some hr
      obtain ⟨ts, q2, hr⟩ := ob_some hr
      obtain ⟨q3, hr⟩ := gd_some hr
      obtain ⟨q4, hr⟩ := gd_some hr
      cases hr
      obtain ⟨items, nn, rfl, o1, r1, hl1⟩ := or_list (J.obj ha (asList_some q1))
      obtain ⟨r, h1, h2⟩ := strsOf_some r1 q2
      subst h1
      refine SC.join (l := r) (isList_of o1) h2 q3 fun t' k => ⟨I, as, Tr.toks .., J.toks _, ?_⟩
      have := VR.str (c := c) (I := I) (as := as) t' (Nat.le_of_ble_eq_true q4)
      rwa [str_eta] at this
theorem split_exact {prog : Program} {w : World} {A : Around} {E : Value → Shared → Prop} {s : Shared} {x y : Str} {t u : Tok} {Q : Value → Shared → Prop} (hy : (y.length == 0) = false) (hn : (Txt.split x y).length ≤ sizeLine) (hsz : x.length ≤ sizeLine)
    (hq : ∀ (l : List (Str × Tok)) k, l.map (·.1) = Txt.split x y → Q (.ref s.heap.objs.size) { s with heap := s.heap.push { cls := .type "list", data := .seq (strValues l).toArray }, toks := k }) :
    wpAny (model prog w) A (call (.builtin "str.split") [.str x t, .str y u]) Q E s := by
  cases h1 : (decide (x.length < y.length) || decide (Builtin.Str.strKind x < Builtin.Str.strKind y))
  · cases hf : (Builtin.Str.occurrences x y 0 x.length (x.length + 1)).isEmpty
    · have e : Txt.split x y = Builtin.Str.partsBetween x (Builtin.Str.occurrences x y 0 x.length (x.length + 1)) y.length := (if_neg (ne_true_of_eq_false h1)).trans (if_neg (ne_true_of_eq_false hf))
      refine call_meets F.slot_str_split (typeIs_str _ _ _) F.entry_str_split (F.args_str_split_2 _ _) (meets_str_split_sep x y t u h1 hy hf hsz (by rw [← e]; exact hn)) ?_
      show wants Q E _ { s with toks := _, heap := s.heap.push { cls := .type "list", data := .seq (strsFrom s.toks (Builtin.Str.partsBetween x (Builtin.Str.occurrences x y 0 x.length (x.length + 1)) y.length)).toArray } }
      rw [strsFrom_eq]
      exact hq (numbered s.toks _) _ ((numbered_texts _ _).trans e.symm)
    · exact call_meets F.slot_str_split (typeIs_str _ _ _) F.entry_str_split (F.args_str_split_2 _ _) (meets_str_split_not_found x y t u h1 hy hf)
        (hq [(x, t)] s.toks ((if_neg (ne_true_of_eq_false h1)).trans (if_pos hf)).symm)
  · exact call_meets F.slot_str_split (typeIs_str _ _ _) F.entry_str_split (F.args_str_split_2 _ _) (meets_str_split_cannot_occur x y t u h1)
      (hq [(x, t)] s.toks (if_pos h1).symm)

def toV (x : Str) : V := .str x.cps.toList
theorem strs_VR {c : Cx} {I : Im} {as : As} : ∀ {ts : List Str} (l : List (Str × Tok)), l.map (·.1) = ts → (ts.all fun x => Nat.ble x.cps.toList.length big) = true → All2 (VR c I as) (ts.map toV) (strValues l)
  | _, [], rfl, _ => .nil
  | _, (x, t) :: l, rfl, h => by
    rw [List.map_cons, List.all_cons, Bool.and_eq_true] at h
    refine .cons ?_ (strs_VR l rfl h.2)
    have := VR.str (c := c) (I := I) (as := as) t (Nat.le_of_ble_eq_true h.1)
    rwa [str_eta] at this

def mSplit (v : V) : Fp := fun vs H => ob (isS v) fun x => ob (one vs) fun a => ob (isS a) fun y => gd (isCons y) (gd (Nat.ble (Txt.split ⟨x.toArray⟩ ⟨y.toArray⟩).length big) (gd ((Txt.split ⟨x.toArray⟩ ⟨y.toArray⟩).all fun x => Nat.ble x.cps.toList.length big) (some (.ref H.length, H ++ [.list ((Txt.split ⟨x.toArray⟩ ⟨y.toArray⟩).map toV)]))))
theorem MS.split (c : Cx) (n : Nat) : MS c n "split" isStr "str.split" mSplit where
  get := MS.strGet F.slot_str_split F.type_str_split
  run := by
    intro v x vs xs I as H s J R Rs w H' hr A hA
    obtain ⟨l, h1, hr⟩ := ob_some hr
    obtain ⟨b, h2, hr⟩ := ob_some hr
    obtain ⟨l', h3, hr⟩ := ob_some hr
    rw [isS_some h1] at R
    rw [one_some h2, isS_some h3] at Rs
    · obtain ⟨t, rfl, h⟩ := vr_str R
      obtain ⟨y, rfl, R1⟩ := all2_1 Rs
      obtain ⟨t', rfl, h'⟩ := vr_str R1
      obtain ⟨q1, hr⟩ := gd_some hr
      obtain ⟨q2, hr⟩ := gd_some hr
      obtain ⟨q3, hr⟩ := gd_some hr
      cases hr
      have q2 := Nat.le_of_ble_eq_true q2
      have hy : ((⟨l'.toArray⟩ : Str).length == 0) = false := by
        cases l' with
        | nil => cases q1
        | cons a l' => rfl
      refine split_exact hy (Nat.le_trans q2 big_le) (by show l.toArray.size ≤ sizeLine; rw [List.size_toArray]; exact Nat.le_trans h big_le) fun r k hr => ?_
      refine ⟨I, _, Tr.alloc _ _ _ _ _ k, J.alloc _ _ k rfl (.list (items := strValues r) (n := 0) ?_ ((strs_VR r hr q3).imp fun _ _ q => q.mono fun _ _ e => e) (by rw [List.length_map]; exact q2)), J.newRef _⟩
      rw [Heap.get?_push_size _ rfl]
/-! pop -/
theorem All2.eraseIdx {α β : Type} {R : α → β → Prop} {l : List α} {m : List β} (h : All2 R l m) (k : Nat) : All2 R (l.eraseIdx k) (m.eraseIdx k) := by
  induction h generalizing k with
  | nil => simp; exact .nil
  | cons h t ih => cases k with
    | zero => exact t
    | succ k => exact .cons h (ih k)
def popAt (i k : Nat) (xs : List V) (H : List O) : Option (V × List O) := ob (xs[k]?) fun v => some (v, H.set i (.list (xs.eraseIdx k)))
def mPop (v : V) : Fp := fun vs H => ob (isR v) fun i => ob (asList H i) fun xs => match isNil vs with
  | true => popAt i (xs.length - 1) xs H
  | false => ob (one vs) fun a => ob (isI a) fun k => ob (natOf k) fun z => gd (Nat.beq z 0) (popAt i 0 xs H)
theorem pop_done {c : Cx} {I : Im} {as : As} {H : List O} {s : Shared} {i k : Nat} {a : Addr} {fp : List Addr} {items : List Value} {nn : Nat} {xs : List V} (J : Inv c I as H s) (ha : as[i]? = some (a :: fp)) (hfp : fp = []) (o1 : s.heap.get? a = some { cls := .type "list", data := .seq items.toArray nn }) (r1 : All2 (VR c I as) xs items) (hl : xs.length ≤ big) (hk : k < items.length) :
    ∃ I' as', Tr [] I as s I' as' { s with heap := s.heap.update a (Obj.mapSeq fun xs => xs.eraseIdxIfInBounds k) } ∧ I' = I ∧ as' = as ∧ Inv c I as (H.set i (.list (xs.eraseIdx k))) { s with heap := s.heap.update a (Obj.mapSeq fun xs => xs.eraseIdxIfInBounds k) } := by
  subst hfp
  have hs : Heap.SameBut a s.heap (s.heap.update a (Obj.mapSeq fun xs => xs.eraseIdxIfInBounds k)) := Heap.SameBut.update ..
  refine ⟨I, as, Tr.set I as s s.toks (mem_flat ha) hs, rfl, rfl, J.set s.toks ha (by simp) hs (.list (items := items.eraseIdx k) (n := nn + 1) ?_ (r1.eraseIdx k) (Nat.le_trans (List.length_eraseIdx_le ..) hl))⟩
  rw [Heap.get?_update_self _ o1 (by rfl)]
  simp [Obj.mapSeq]
  rw [List.length_eraseIdx, if_pos hk]; omega
theorem seqIdx0 {items : List Value} (h : 0 < items.length) : seqIndex? (Int.ofNat 0) items.toArray.size = some 0 := by
  unfold seqIndex?
  simp
  intro q; rw [q] at h; cases h
theorem MS.pop (c : Cx) (n : Nat) : MS c n "pop" isLst "list.pop" mPop where
  get := MS.lstGet F.slot_list_pop F.type_list_pop
  run := by
    intro v x vs xs I as H s J R Rs w H' hr A hA
    obtain ⟨i, h1, hr⟩ := ob_some hr
    obtain ⟨us, q1, hr⟩ := ob_some hr
    rw [isR_some h1] at R
    obtain ⟨a, fp, rfl, ha⟩ := vr_ref R
    cases hn : isNil vs with
    | true =>
      rw [hn] at hr
      rw [isNil_ok hn] at Rs
      have e := all2_0 Rs
      subst e
      obtain ⟨v, q2, hr⟩ := ob_some hr
      cases hr
      obtain ⟨items, nn, rfl, o1, r1, hl1⟩ := or_list (J.obj ha (asList_some q1))
      have hz := r1.length
      obtain ⟨y, hy, hyr⟩ := r1.get q2
      have hk := (List.getElem?_eq_some_iff.mp hy).1
      refine call_meets F.slot_list_pop ⟨_, o1, rfl⟩ F.entry_list_pop (F.args_list_pop_1 _) (MeetsSeq.list_pop_last a items.toArray nn y (by rw [List.size_toArray, ← hz]; simpa using hy) (by rw [List.size_toArray, ← hz]; exact Nat.le_trans hl1 big_le)) ⟨o1, ?_⟩
      rw [List.size_toArray, ← hz]
      obtain ⟨I', as', T, rfl, rfl, J'⟩ := pop_done J ha rfl o1 r1 hl1 hk
      exact ⟨I', as', T, J', hyr⟩
    | false =>
      rw [hn] at hr
      obtain ⟨b, h2, hr⟩ := ob_some hr
      obtain ⟨k, h3, hr⟩ := ob_some hr
      obtain ⟨z, h4, hr⟩ := ob_some hr
      obtain ⟨h5, hr⟩ := gd_some hr
      rw [one_some h2, isI_some h3, natOf_some h4, Nat.eq_of_beq_eq_true h5] at Rs
      obtain ⟨y, rfl, R1⟩ := all2_1 Rs
      obtain ⟨t, rfl⟩ := vr_int R1
      obtain ⟨v, q2, hr⟩ := ob_some hr
      cases hr
      obtain ⟨items, nn, rfl, o1, r1, hl1⟩ := or_list (J.obj ha (asList_some q1))
      have hz := r1.length
      obtain ⟨y, hy, hyr⟩ := r1.get q2
      have hk := (List.getElem?_eq_some_iff.mp hy).1
      refine call_meets F.slot_list_pop ⟨_, o1, rfl⟩ F.entry_list_pop (F.args_list_pop_2 _ _) (MeetsSeq.list_pop_at a items.toArray nn (Int.ofNat 0) t 0 y (by decide) (seqIdx0 hk) (by simpa using hy) (by rw [List.size_toArray, ← hz]; exact Nat.le_trans hl1 big_le)) ⟨o1, ?_⟩
      obtain ⟨I', as', T, rfl, rfl, J'⟩ := pop_done J ha rfl o1 r1 hl1 hk
      exact ⟨I', as', T, J', hyr⟩
/-! list(text), str(digit), int(digit) -/
def pList : Fp := fun vs H => ob (one vs) fun a => ob (isS a) fun l => some (.ref H.length, H ++ [.list (l.map fun k => V.str [k])])
theorem signs_VR {c : Cx} {I : Im} {as : As} : ∀ (l : List Nat) (acc : List Value), acc.length = l.length → (∀ (j : Nat) (v : Value), acc[j]? = some v → ∃ ch u, l[j]? = some ch ∧ v = .str ⟨#[ch]⟩ u) → All2 (VR c I as) (l.map fun k => V.str [k]) acc
  | [], [], _, _ => .nil
  | [], _ :: _, h, _ => by simp at h
  | _ :: _, [], h, _ => by simp at h
  | k :: l, v :: acc, h, hv => by
    refine .cons ?_ (signs_VR l acc (by simpa using h) fun j w e => hv (j + 1) w (by simpa using e))
    obtain ⟨ch, u, h1, rfl⟩ := hv 0 v rfl
    cases h1
    exact .str (l := [k]) u (by show 1 ≤ 1000000; decide)
theorem BS.list (c : Cx) (n : Nat) : BS c n (.type "list") pList := by
  intro vs xs I as H s J Rs v H' hr A hA
  obtain ⟨b, h1, hr⟩ := ob_some hr
  obtain ⟨l, h2, hr⟩ := ob_some hr
  rw [one_some h1, isS_some h2] at Rs
  · obtain ⟨y, rfl, R1⟩ := all2_1 Rs
    obtain ⟨t, rfl, h⟩ := vr_str R1
    cases hr
    refine wpAny_sized (call_list_str hA.handled _ t (fun h' tk acc' c' hk hS hacc hz => ?_) (by show l.toArray.size ≤ sizeLine; rw [List.size_toArray]; exact Nat.le_trans h big_le))
    have hR : All2 (VR c I as) (l.map fun k => V.str [k]) acc'.toList := signs_VR l acc'.toList (by have := hacc.1; simpa using this) fun j w e => by
      obtain ⟨ch, u, h1, h2⟩ := hacc.2 j w (by simpa using e)
      exact ⟨ch, u, by simpa using h1, h2⟩
    refine ⟨I, _, Tr.allocG _ _ _ _ tk (Nat.le_refl _) hz hk, J.allocG tk (Nat.le_refl _) (Heap.lt_size hS) hz hk (.list (items := acc'.toList) (n := c') (by simpa using hS) (hR.imp fun _ _ q => q.mono fun _ _ e => e) (by rw [List.length_map]; exact h)), J.newRef _⟩
end
end Mine
-- part M16.lean
set_option autoImplicit false
set_option maxRecDepth 100000
set_option linter.unusedVariables false
namespace Mine
open PySem PySem.W PyProof.Rows
noncomputable section

abbrev mk (x : List Nat) : Str := ⟨x.toArray⟩
theorem strsAre_of {c : Cx} {I : Im} {as : As} {xs : List V} {items : List Value} (R : All2 (VR c I as) xs items) : ∀ {ts : List (List Nat)}, strsOf xs = some ts → StrsAre items (ts.map mk) := by
  induction R with
  | nil => intro ts h; cases h; exact .nil
  | cons R _ ih =>
    intro ts h
    obtain ⟨l, e0, h⟩ := ob_some h
    obtain ⟨ts', e1, h⟩ := ob_some h
    cases h
    rw [isS_some e0] at R
    obtain ⟨t, rfl, _⟩ := vr_str R
    exact .cons _ _ (ih e1)
def intsOf (xs : List V) : Option (List Int) := List.rec (some []) (fun v _ ih => ob (isI v) fun l => ob ih fun t => some (l :: t)) xs
theorem intsAre_of {c : Cx} {I : Im} {as : As} {xs : List V} {items : List Value} (R : All2 (VR c I as) xs items) : ∀ {ts : List Int}, intsOf xs = some ts → IntsAre items ts := by
  induction R with
  | nil => intro ts h; cases h; exact .nil
  | cons R _ ih =>
    intro ts h
    obtain ⟨l, e0, h⟩ := ob_some h
    obtain ⟨ts', e1, h⟩ := ob_some h
    cases h
    rw [isI_some e0] at R
    obtain ⟨t, rfl⟩ := vr_int R
    exact .cons _ _ (ih e1)


/-! in, not in -/
def memS (k : List Nat) (ts : List (List Nat)) : Bool := List.rec false (fun t _ ih => match strEq t k with
  | true => true
  | false => ih) ts
theorem mkBeq (a b : List Nat) : (mk a == mk b) = (a == b) := by
  rw [Bool.eq_iff_iff, beq_iff_eq, beq_iff_eq]
  constructor
  · intro h; have := congrArg (fun s : Str => s.cps.toList) h; simpa using this
  · rintro rfl; rfl
theorem memS_eq (k : List Nat) : ∀ ts : List (List Nat), memS k ts = (ts.map mk).any (· == mk k)
  | [] => rfl
  | t :: ts => by
    rw [List.map_cons, List.any_cons, ← memS_eq k ts, mkBeq, ← strEq_eq]
    show (match strEq t k with | true => true | false => memS k ts) = _
    cases strEq t k <;> rfl
def inL (g : Bool → Bool) : Bp := fun a b H => ob (isS a) fun k => ob (isR b) fun i => ob (asList H i) fun xs => ob (strsOf xs) fun ts => some (.bool (g (memS k ts)), H)
def inWith (g : Bool → Bool) : Bp := orP (onSS fun k x => some (.bool (g (Txt.contains ⟨x.toArray⟩ ⟨k.toArray⟩)))) (inL g)
def pIn : Bp := inWith id
def pNin : Bp := inWith not
theorem PB.in_L (c : Cx) (n : Nat) : PB c n (compareOp .In) (inL id) := by
  intro a b x y I as H s J Ra Rb v H' hr A hA
  obtain ⟨l, h1, hr⟩ := ob_some hr
  obtain ⟨i, h2, hr⟩ := ob_some hr
  obtain ⟨us, q1, hr⟩ := ob_some hr
  obtain ⟨ts, q2, hr⟩ := ob_some hr
  cases hr
  rw [isS_some h1] at Ra
  rw [isR_some h2] at Rb
  obtain ⟨t, rfl, h⟩ := vr_str Ra
  obtain ⟨a, fp, rfl, ha⟩ := vr_ref Rb
  obtain ⟨items, nn, rfl, o1, r1, hl1⟩ := or_list (J.obj ha (asList_some q1))
  exact in_list_strs (isList_of o1) (strsAre_of r1 q2) ⟨I, as, Tr.refl .., J, by show VR c I as (.bool (memS l ts)) _; rw [memS_eq]; exact .bool _⟩
theorem PB.in_ (c : Cx) (n : Nat) : PB c n (compareOp .In) pIn := .orP (.onSS fun i j v t u A s Q hf h => by cases hf; exact in_str (h _ s.toks fun _ _ => .bool _)) (.in_L c n)
theorem PB.ninL (c : Cx) (n : Nat) : PB c n (compareOp .NotIn) (inL not) := by
  intro a b x y I as H s J Ra Rb v H' hr A hA
  obtain ⟨l, h1, hr⟩ := ob_some hr
  obtain ⟨i, h2, hr⟩ := ob_some hr
  obtain ⟨us, q1, hr⟩ := ob_some hr
  obtain ⟨ts, q2, hr⟩ := ob_some hr
  cases hr
  rw [isS_some h1] at Ra
  rw [isR_some h2] at Rb
  obtain ⟨t, rfl, h⟩ := vr_str Ra
  obtain ⟨a, fp, rfl, ha⟩ := vr_ref Rb
  obtain ⟨items, nn, rfl, o1, r1, hl1⟩ := or_list (J.obj ha (asList_some q1))
  exact notin_list_strs (isList_of o1) (strsAre_of r1 q2) ⟨I, as, Tr.refl .., J, by show VR c I as (.bool (!(memS l ts))) _; rw [memS_eq]; exact .bool _⟩
theorem PB.nin (c : Cx) (n : Nat) : PB c n (compareOp .NotIn) pNin := .orP (.onSS fun i j v t u A s Q hf h => by cases hf; exact notIn_str (h _ s.toks fun _ _ => .bool _)) (.ninL c n)
/-! lists compared -/
section
open PySem.Spec PySem.SeqAt
theorem readsAll_of_strs {h : Heap} : ∀ {vs : List Value} {ns : List Str}, StrsAre vs ns → ReadsAll h vs (ns.map PyData.str) []
  | _, _, .nil => .nil
  | _, _, .cons k t r => by
    have := ReadsAll.cons (Reads.str (h := h) k t) (readsAll_of_strs (h := h) r)
    simpa using this
theorem reads_of_strs {h : Heap} {a : Addr} {vs : List Value} {ns : List Str} (hl : h.IsList a vs.toArray) (hi : StrsAre vs ns) : Reads h (.ref a) (.list (ns.map PyData.str)) [a] := by
  obtain ⟨o, ho, hc, n, hd⟩ := hl
  exact Reads.list ho hc hd (by simpa using readsAll_of_strs hi)
theorem canLayAll0_strs : ∀ ns : List Str, (∀ n ∈ ns, PyData.strOk n = true) → PyData.canLayAll0 (ns.map PyData.str) = true
  | [], _ => by simp [PyData.canLayAll0]
  | n :: r, h => by simp [PyData.canLayAll0, PyData.canLay0, canLayAll0_strs r fun x hx => h x (List.mem_cons_of_mem _ hx), h n]
theorem depthAll_strs : ∀ ns : List Str, PyData.depthAll (ns.map PyData.str) ≤ 1
  | [] => by simp [PyData.depthAll]
  | n :: r => by
    have := depthAll_strs r
    simp only [List.map_cons, PyData.depthAll, PyData.depth]
    omega
theorem shaped_strs (ns : List Str) (hok : ∀ n ∈ ns, PyData.strOk n = true) : shaped (.list (ns.map PyData.str)) = true := by
  have h1 := depthAll_strs ns
  have h2 : PyData.depth (.list (ns.map PyData.str)) ≤ 64 := by simp only [PyData.depth]; omega
  show (PyData.canLay0 (.list (ns.map PyData.str)) && decide (PyData.depth (.list (ns.map PyData.str)) ≤ 64)) = true
  rw [Bool.and_eq_true]
  exact ⟨by simp only [PyData.canLay0]; exact canLayAll0_strs ns hok, decide_eq_true h2⟩
theorem noMix_strs : ∀ ns ms : List Str, noMixAll (ns.map PyData.str) (ms.map PyData.str) = true
  | [], [] => by simp [noMixAll]
  | [], _ :: _ => by simp [noMixAll]
  | _ :: _, [] => by simp [noMixAll]
  | _ :: r, _ :: q => by simp [noMixAll, noMix, noMix_strs r q]
theorem same_strs : ∀ ns ms : List Str, PySem.Spec.sameAll (ns.map PyData.str) (ms.map PyData.str) = decide (ns = ms)
  | [], [] => by simp [PySem.Spec.sameAll]
  | [], _ :: _ => by simp [PySem.Spec.sameAll]
  | _ :: _, [] => by simp [PySem.Spec.sameAll]
  | n :: r, k :: q => by
    simp only [List.map_cons, PySem.Spec.sameAll, PySem.Spec.same, same_strs r q]
    by_cases h : n = k <;> simp [h]
variable {prog : Program} {w : World} {A : Around} {E : Value → Shared → Prop} {s : Shared}
theorem eq_strsK {a b : Addr} {vs us : List Value} {ns ms : List Str} {Q : Value → Shared → Prop} (hl : s.heap.IsList a vs.toArray) (hi : StrsAre vs ns) (hl' : s.heap.IsList b us.toArray) (hi' : StrsAre us ms) (o1 : ∀ n ∈ ns, PyData.strOk n = true) (o2 : ∀ n ∈ ms, PyData.strOk n = true) (hu : A.units + 64 < cLine)
    (h : Q (.bool (decide (ns = ms))) s) : wpAny (model prog w) A (compareOp .Eq (.ref a) (.ref b)) Q E s :=
  eq_dataH_same (reads_of_strs hl hi) (reads_of_strs hl' hi') (shaped_strs ns o1) (shaped_strs ms o2) hu (by simp only [noMix]; exact noMix_strs ns ms) (by simp only [PySem.Spec.same]; rw [same_strs]; exact h)
theorem ne_strsK {a b : Addr} {vs us : List Value} {ns ms : List Str} {Q : Value → Shared → Prop} (hl : s.heap.IsList a vs.toArray) (hi : StrsAre vs ns) (hl' : s.heap.IsList b us.toArray) (hi' : StrsAre us ms) (o1 : ∀ n ∈ ns, PyData.strOk n = true) (o2 : ∀ n ∈ ms, PyData.strOk n = true) (hu : A.units + 64 < cLine)
    (h : Q (.bool (!decide (ns = ms))) s) : wpAny (model prog w) A (compareOp .NotEq (.ref a) (.ref b)) Q E s :=
  ne_dataH_same (reads_of_strs hl hi) (reads_of_strs hl' hi') (shaped_strs ns o1) (shaped_strs ms o2) hu (by simp only [noMix]; exact noMix_strs ns ms) (by simp only [PySem.Spec.same]; rw [same_strs]; exact h)
end
def strsEq : List (List Nat) → List (List Nat) → Bool
  | [], [] => true
  | a :: l, b :: m => match strEq a b with
    | true => strsEq l m
    | false => false
  | _, _ => false
theorem strsEq_eq : ∀ l m : List (List Nat), strsEq l m = decide (l.map mk = m.map mk)
  | [], [] => rfl
  | [], _ :: _ => rfl
  | _ :: _, [] => rfl
  | a :: l, b :: m => by
    show (match strEq a b with | true => strsEq l m | false => false) = _
    rw [strsEq_eq l m, strEq_eq, ← mkBeq]
    cases e : mk a == mk b with
    | true => have e := eq_of_beq e; simp only [List.map_cons, e]; simp
    | false => have e : mk a ≠ mk b := by simpa using e
               simp only [List.map_cons]; symm; apply decide_eq_false; intro q; exact e (List.cons.inj q).1
def intsEq : List Int → List Int → Bool
  | [], [] => true
  | a :: l, b :: m => match intEq a b with
    | true => intsEq l m
    | false => false
  | _, _ => false
theorem intsEq_eq : ∀ l m : List Int, intsEq l m = decide (l = m)
  | [], [] => rfl
  | [], _ :: _ => rfl
  | _ :: _, [] => rfl
  | a :: l, b :: m => by
    show (match intEq a b with | true => intsEq l m | false => false) = _
    rw [intsEq_eq l m, intEq_eq]
    cases e : a == b with
    | true => have e := eq_of_beq e; subst e; simp
    | false => have e : a ≠ b := by simpa using e
               symm; apply decide_eq_false; intro q; exact e (List.cons.inj q).1
def okS (l : List Nat) : Bool := List.rec true (fun k _ ih => match Nat.blt k 1114112 with
  | true => ih
  | false => false) l
def okSs (l : List (List Nat)) : Bool := List.rec true (fun k _ ih => match okS k with
  | true => ih
  | false => false) l
theorem okS_all : ∀ {l : List Nat}, okS l = true → ∀ x ∈ l, x < 1114112
  | [], _, _, h => nomatch h
  | k :: l, h, x, hx => by
    change (match Nat.blt k 1114112 with | true => okS l | false => false) = true at h
    cases e : Nat.blt k 1114112 with
    | false => rw [e] at h; cases h
    | true =>
      rw [e] at h
      rcases List.mem_cons.mp hx with rfl | hx
      · exact Nat.lt_of_succ_le (Nat.le_of_ble_eq_true e)
      · exact okS_all h x hx
theorem okSs_ok : ∀ {l : List (List Nat)}, okSs l = true → ∀ n ∈ l.map mk, PyData.strOk n = true
  | [], _, _, h => nomatch h
  | k :: l, h, x, hx => by
    change (match okS k with | true => okSs l | false => false) = true at h
    cases e : okS k with
    | false => rw [e] at h; cases h
    | true =>
      rw [e] at h
      rw [List.map_cons] at hx
      rcases List.mem_cons.mp hx with rfl | hx
      · show (k.toArray.all (· < 0x110000)) = true
        rw [List.all_toArray, List.all_eq_true]
        exact fun y hy => decide_eq_true (okS_all e y hy)
      · exact okSs_ok h x hx
def eqLWith (g : Bool → Bool) (p : Bp) : Bp := fun a b H => match a, b with
  | .ref i, .ref j => ob (asList H i) fun xs => ob (asList H j) fun ys => match strsOf xs, strsOf ys with
    | some l, some m => gd (okSs l) (gd (okSs m) (some (.bool (g (strsEq l m)), H)))
    | _, _ => match intsOf xs, intsOf ys with
      | some l, some m => some (.bool (g (intsEq l m)), H)
      | _, _ => none
  | _, _ => p a b H
def pEqL : Bp := eqLWith id pEq
def pNeL : Bp := eqLWith not pNe
theorem PB.eqLW (c : Cx) (n : Nat) (g : Bool → Bool) (p : Bp) (op : CmpOp) (hp : PB c n (compareOp op) p)
    (h1 : ∀ {A : Around} {E : Value → Shared → Prop} {s : Shared} {a b : Addr} {vs us : List Value} {ns ms : List Str} {Q : Value → Shared → Prop}, s.heap.IsList a vs.toArray → StrsAre vs ns → s.heap.IsList b us.toArray → StrsAre us ms → (∀ n ∈ ns, PyData.strOk n = true) → (∀ n ∈ ms, PyData.strOk n = true) → A.units + 64 < cLine → Q (.bool (g (decide (ns = ms)))) s → wpAny (model c.prog c.w) A (compareOp op (.ref a) (.ref b)) Q E s)
    (h2 : ∀ {A : Around} {E : Value → Shared → Prop} {s : Shared} {a b : Addr} {vs us : List Value} {ns ms : List Int} {Q : Value → Shared → Prop}, s.heap.IsList a vs.toArray → IntsAre vs ns → s.heap.IsList b us.toArray → IntsAre us ms → A.units + 64 < cLine → Q (.bool (g (decide (ns = ms)))) s → wpAny (model c.prog c.w) A (compareOp op (.ref a) (.ref b)) Q E s) : PB c n (compareOp op) (eqLWith g p) := by
  intro a b x y I as H s J Ra Rb v H' hr A hA
  by_cases hh : (∃ i j, a = .ref i ∧ b = .ref j)
  · obtain ⟨i, j, rfl, rfl⟩ := hh
    cases Ra with
    | @ref i a fp ha => cases Rb with
      | @ref j b fp' hb =>
        obtain ⟨us, q1, hr⟩ := ob_some hr
        obtain ⟨ws, q2, hr⟩ := ob_some hr
        obtain ⟨items, nn, rfl, o1, r1, hl1⟩ := or_list (J.obj ha (asList_some q1))
        cases J.obj hb (asList_some q2) with
          | @list _ items' nn' _ o2 r2 hl2 =>
            have goInts : (match intsOf us, intsOf ws with
                | some l, some m => some (V.bool (g (intsEq l m)), H)
                | _, _ => none) = some (v, H') → wpAny (model c.prog c.w) A (compareOp op (.ref a) (.ref b)) (fun a s' => ∃ I' as', Tr [] I as s I' as' s' ∧ Inv c I' as' H' s' ∧ VRs c I' as' s' v a) (fun _ _ => False) s := fun hr => by
              cases e1 : intsOf us with
              | none => rw [e1] at hr; cases hr
              | some l => cases e2 : intsOf ws with
                | none => rw [e1, e2] at hr; cases hr
                | some m =>
                  rw [e1, e2] at hr; cases hr
                  refine h2 (isList_of o1) (intsAre_of r1 e1) (isList_of o2) (intsAre_of r2 e2) (hA.cl 64) ⟨I, as, Tr.refl .., J, ?_⟩
                  rw [intsEq_eq]; exact .bool _
            cases e1 : strsOf us with
            | none => rw [e1] at hr; exact goInts hr
            | some l => cases e2 : strsOf ws with
              | none => rw [e1, e2] at hr; exact goInts hr
              | some m =>
                rw [e1, e2] at hr
                obtain ⟨k1, hr⟩ := gd_some hr
                obtain ⟨k2, hr⟩ := gd_some hr
                cases hr
                refine h1 (isList_of o1) (strsAre_of r1 e1) (isList_of o2) (strsAre_of r2 e2) (okSs_ok k1) (okSs_ok k2) (hA.cl 64) ⟨I, as, Tr.refl .., J, ?_⟩
                rw [strsEq_eq]; exact .bool _
  · have : eqLWith g p a b H = p a b H := by
      unfold eqLWith
      split
      · exact absurd ⟨_, _, rfl, rfl⟩ hh
      · rfl
    rw [this] at hr
    exact hp a b x y I as H s J Ra Rb v H' hr A hA
theorem PB.eqL (c : Cx) (n : Nat) : PB c n (compareOp .Eq) pEqL := PB.eqLW c n id pEq .Eq (PB.eq c n) (fun a b d e f g h i => eq_strsK a b d e f g h i) (fun a b d e f g => eq_intsK a b d e f g)
theorem PB.neL (c : Cx) (n : Nat) : PB c n (compareOp .NotEq) pNeL := PB.eqLW c n not pNe .NotEq (PB.ne c n) (fun a b d e f g h i => ne_strsK a b d e f g h i) (fun a b d e f g => ne_intsK a b d e f g)


end
end Mine
-- part M16m.lean
set_option autoImplicit false
set_option maxRecDepth 100000
set_option linter.unusedVariables false
namespace Mine
open PySem PySem.W PyProof.Rows
noncomputable section

def pMax2 : Fp := fun vs H => ob (two' vs) fun p => ob (isI p.1) fun a => ob (isI p.2) fun b => match intLt a b with
  | true => some (.int b, H)
  | false => some (.int a, H)
theorem BS.max2 (c : Cx) (n : Nat) : BS c n (.builtin "max") pMax2 := by
  intro vs xs I as H s J R v H' hr A hA
  obtain ⟨p, h0, hr⟩ := ob_some hr
  obtain ⟨i, h1, hr⟩ := ob_some hr
  obtain ⟨j, h2, hr⟩ := ob_some hr
  rw [two'_some h0, isI_some h1, isI_some h2] at R
  obtain ⟨xa, xb, rfl, R1, R2⟩ := all2_2 R
  obtain ⟨t, rfl⟩ := vr_int R1
  obtain ⟨u, rfl⟩ := vr_int R2
  refine wpAny_sized (max_two_ints hA.handled fun h' tk hk hz => ?_)
  change (match intLt i j with | true => some (V.int j, H) | false => some (V.int i, H)) = some (v, H') at hr
  rw [intLt_eq] at hr
  refine ⟨I, as, Tr.grow [] I as s tk hz hk, ?_⟩
  by_cases hji : i < j
  · rw [decide_eq_true hji] at hr; cases hr
    rw [if_pos hji]; exact ⟨J.grow tk hz hk, .int _ _⟩
  · rw [decide_eq_false hji] at hr; cases hr
    rw [if_neg (by omega)]; exact ⟨J.grow tk hz hk, .int _ _⟩
def pAbs : Fp := fun vs H => match vs with
  | [.int a] => match intLt a 0 with
    | true => some (.int (-a), H)
    | false => some (.int a, H)
  | _ => none
theorem BS.abs (c : Cx) (n : Nat) : BS c n (.builtin "abs") pAbs := by
  intro vs xs I as H s J R v H' hr A hA
  cases R with
  | nil => cases hr
  | cons R1 R2 => cases R2 with
    | cons => cases R1 <;> cases hr
    | nil => cases R1 with
      | int i t =>
        refine call_abs_int fun u tk => ?_
        change (match intLt i 0 with | true => some (V.int (-i), H) | false => some (V.int i, H)) = some (v, H') at hr
        rw [intLt_eq] at hr
        by_cases hji : i < 0
        · rw [decide_eq_true hji] at hr; cases hr
          rw [if_pos hji]; exact ⟨I, as, Tr.toks .., J.toks _, .int _ _⟩
        · rw [decide_eq_false hji] at hr; cases hr
          rw [if_neg hji]; exact ⟨I, as, Tr.toks .., J.toks _, .int _ _⟩
      | _ => cases hr

theorem digit_str : ∀ k : Nat, k < 10 → (Str.ofString (toString (Int.ofNat k))) = ⟨#[48 + k]⟩ := by decide +kernel
theorem digit_log : ∀ k : Nat, k < 10 → (Int.ofNat k).natAbs.log2 < 1920 := by decide +kernel
theorem digit_int : ∀ k : Nat, k < 10 → PySem.intText? ⟨#[48 + k]⟩ = some (Int.ofNat k) := by decide +kernel
def pStr : Fp := fun vs H => ob (one vs) fun a => ob (isI a) fun i => ob (natOf i) fun k => gd (Nat.blt k 10) (some (.str [48 + k], H))
theorem BS.str (c : Cx) (n : Nat) : BS c n (.type "str") pStr := by
  intro vs xs I as H s J Rs v H' hr A hA
  obtain ⟨b, h1, hr⟩ := ob_some hr
  obtain ⟨i, h2, hr⟩ := ob_some hr
  obtain ⟨k, h3, hr⟩ := ob_some hr
  rw [one_some h1, isI_some h2, natOf_some h3] at Rs
  · obtain ⟨y, rfl, R1⟩ := all2_1 Rs
    obtain ⟨t, rfl⟩ := vr_int R1
    obtain ⟨q, hr⟩ := gd_some hr
    cases hr
    have q : k < 10 := Nat.lt_of_succ_le (Nat.le_of_ble_eq_true q)
    refine P.str_of_int (digit_log k q) ⟨I, as, Tr.toks .., J.toks _, ?_⟩
    have := VR.str (c := c) (I := I) (as := as) (l := [48 + k]) s.toks (by show 1 ≤ 1000000; decide)
    rw [← digit_str k q] at this
    exact this
def pInt : Fp := fun vs H => ob (one vs) fun a => ob (isS a) fun l => ob (one l) fun d => gd (Nat.ble 48 d) (gd (Nat.blt (d - 48) 10) (some (.int (.ofNat (d - 48)), H)))
theorem BS.int (c : Cx) (n : Nat) : BS c n (.type "int") pInt := by
  intro vs xs I as H s J Rs v H' hr A hA
  obtain ⟨b, h1, hr⟩ := ob_some hr
  obtain ⟨l, h2, hr⟩ := ob_some hr
  obtain ⟨d, h3, hr⟩ := ob_some hr
  rw [one_some h1, isS_some h2, one_some h3] at Rs
  · obtain ⟨y, rfl, R1⟩ := all2_1 Rs
    obtain ⟨t, rfl, h⟩ := vr_str R1
    obtain ⟨q0, hr⟩ := gd_some hr
    obtain ⟨q, hr⟩ := gd_some hr
    cases hr
    have q0 := Nat.le_of_ble_eq_true q0
    have q : d - 48 < 10 := Nat.lt_of_succ_le (Nat.le_of_ble_eq_true q)
    have e := digit_int (d - 48) q
    rw [Nat.add_sub_cancel' q0] at e
    exact KIN.call_text e (by show 1 ≤ 640; decide) ⟨I, as, Tr.toks .., J.toks _, .int _ _⟩
/-! the least and the greatest -/
def minI (r : List Int) : Int → Int := List.rec (fun a => a) (fun x _ ih a => match intLt x a with
  | true => ih x
  | false => ih a) r
theorem minI_spec : ∀ (r : List Int) (a : Int), minI r a ∈ a :: r ∧ ∀ x ∈ a :: r, minI r a ≤ x
  | [], a => ⟨by simp [minI], by simp [minI]⟩
  | x :: r, a => by
    have e : minI (x :: r) a = match intLt x a with | true => minI r x | false => minI r a := rfl
    rw [e, intLt_eq]
    by_cases h : x < a
    · rw [decide_eq_true h]
      obtain ⟨h1, h2⟩ := minI_spec r x
      refine ⟨List.mem_cons_of_mem _ h1, fun y hy => ?_⟩
      rcases List.mem_cons.mp hy with rfl | hy
      · exact Int.le_of_lt (Int.lt_of_le_of_lt (h2 x (by simp)) h)
      · exact h2 y hy
    · rw [decide_eq_false h]
      obtain ⟨h1, h2⟩ := minI_spec r a
      refine ⟨?_, fun y hy => ?_⟩
      · rcases List.mem_cons.mp h1 with q | q
        · rw [show (match false with | true => minI r x | false => minI r a) = a from q]; simp
        · exact List.mem_cons_of_mem _ (List.mem_cons_of_mem _ q)
      · rcases List.mem_cons.mp hy with rfl | hy
        · exact h2 _ (by simp)
        · rcases List.mem_cons.mp hy with rfl | hy
          · exact Int.le_trans (h2 a (by simp)) (Int.not_lt.mp h)
          · exact h2 y (List.mem_cons_of_mem _ hy)
def maxI (r : List Int) : Int → Int := List.rec (fun a => a) (fun x _ ih a => match intLt a x with
  | true => ih x
  | false => ih a) r
theorem maxI_spec : ∀ (r : List Int) (a : Int), maxI r a ∈ a :: r ∧ ∀ x ∈ a :: r, x ≤ maxI r a
  | [], a => ⟨by simp [maxI], by simp [maxI]⟩
  | x :: r, a => by
    have e : maxI (x :: r) a = match intLt a x with | true => maxI r x | false => maxI r a := rfl
    rw [e, intLt_eq]
    by_cases h : a < x
    · rw [decide_eq_true h]
      obtain ⟨h1, h2⟩ := maxI_spec r x
      refine ⟨List.mem_cons_of_mem _ h1, fun y hy => ?_⟩
      rcases List.mem_cons.mp hy with rfl | hy
      · exact Int.le_of_lt (Int.lt_of_lt_of_le h (h2 x (by simp)))
      · exact h2 y hy
    · rw [decide_eq_false h]
      obtain ⟨h1, h2⟩ := maxI_spec r a
      refine ⟨?_, fun y hy => ?_⟩
      · rcases List.mem_cons.mp h1 with q | q
        · rw [show (match false with | true => maxI r x | false => maxI r a) = a from q]; simp
        · exact List.mem_cons_of_mem _ (List.mem_cons_of_mem _ q)
      · rcases List.mem_cons.mp hy with rfl | hy
        · exact h2 _ (by simp)
        · rcases List.mem_cons.mp hy with rfl | hy
          · exact Int.le_trans (Int.not_lt.mp h) (h2 a (by simp))
          · exact h2 y (List.mem_cons_of_mem _ hy)
theorem min_plain {prog : Program} {w : World} {A : Around} {E : Value → Shared → Prop} {s : Shared} {l : Addr} {vs : List Value} {ns : List Int} {Q : Value → Shared → Prop} (hh : A.handled = none) (hl : s.heap.IsList l vs.toArray) (hi : IntsAre vs ns) (hne : 0 < ns.length)
    (h : ∀ h' M (t : Tok) tk, (∀ b o, s.heap.get? b = some o → h'.get? b = some o) → M ∈ ns → (∀ a, a ∈ ns → M ≤ a) → Q (.int M t) { s with heap := h', toks := tk }) :
    wpAny (model prog w) A (call (.builtin "min") [.ref l]) Q E s := by
  obtain ⟨xs, e⟩ := hi.allInts.items
  have hns : ns = xs.toList.map (·.1) := by rw [← hi.numsOf, ← nums_intItems, ← e]
  have hsz : 0 < xs.size := by have h3 := hne; rw [hns, List.length_map, Array.length_toList] at h3; exact h3
  rw [e] at hl
  refine min_intList hh hl hsz fun v h' tk hv hk => ?_
  obtain ⟨t, rfl⟩ := intItems_at hv
  obtain ⟨h1, h2⟩ := argBest_lt (numAt xs) (xs.size - 1)
  refine h _ _ t tk hk ?_ fun a ha => ?_
  · rw [hns, numAt_eq]; exact getD_mem (by rw [List.length_map, Array.length_toList]; omega)
  · rw [hns] at ha
    obtain ⟨j, hj, rfl⟩ := mem_getD ha
    rw [List.length_map, Array.length_toList] at hj
    rw [← numAt_eq]; exact h2 j (by omega)
theorem max_plain {prog : Program} {w : World} {A : Around} {E : Value → Shared → Prop} {s : Shared} {l : Addr} {vs : List Value} {ns : List Int} {Q : Value → Shared → Prop} (hh : A.handled = none) (hl : s.heap.IsList l vs.toArray) (hi : IntsAre vs ns) (hne : 0 < ns.length)
    (h : ∀ h' M (t : Tok) tk, (∀ b o, s.heap.get? b = some o → h'.get? b = some o) → M ∈ ns → (∀ a, a ∈ ns → a ≤ M) → Q (.int M t) { s with heap := h', toks := tk }) :
    wpAny (model prog w) A (call (.builtin "max") [.ref l]) Q E s := by
  obtain ⟨xs, e⟩ := hi.allInts.items
  have hns : ns = xs.toList.map (·.1) := by rw [← hi.numsOf, ← nums_intItems, ← e]
  have hsz : 0 < xs.size := by have h3 := hne; rw [hns, List.length_map, Array.length_toList] at h3; exact h3
  rw [e] at hl
  refine max_intList hh hl hsz fun v h' tk hv hk => ?_
  obtain ⟨t, rfl⟩ := intItems_at hv
  obtain ⟨h1, h2⟩ := argBest_gt (numAt xs) (xs.size - 1)
  refine h _ _ t tk hk ?_ fun a ha => ?_
  · rw [hns, numAt_eq]; exact getD_mem (by rw [List.length_map, Array.length_toList]; omega)
  · rw [hns] at ha
    obtain ⟨j, hj, rfl⟩ := mem_getD ha
    rw [List.length_map, Array.length_toList] at hj
    rw [← numAt_eq]; exact h2 j (by omega)
def bestL (f : List Int → Int → Int) : Fp := fun vs H => match vs with
  | [.ref i] => ob (asList H i) fun xs => ob (intsOf xs) fun ns => match ns with
    | [] => none
    | a :: r => some (.int (f r a), H)
  | _ => none
def pMinL : Fp := bestL minI
def pMaxL : Fp := bestL maxI
theorem BS.minL (c : Cx) (n : Nat) : BS c n (.builtin "min") pMinL := by
  intro vs xs I as H s J Rs v H' hr A hA
  cases Rs with
  | nil => cases hr
  | cons R1 R2 => cases R1 with
    | @ref i a fp ha => cases R2 with
      | cons => cases hr
      | nil =>
        obtain ⟨us, q1, hr⟩ := ob_some hr
        obtain ⟨ns, q2, hr⟩ := ob_some hr
        obtain ⟨items, nn, rfl, o1, r1, hl1⟩ := or_list (J.obj ha (asList_some q1))
        cases ns with
        | nil => cases hr
        | cons k r =>
          cases hr
          refine wpAny_sized (min_plain hA.handled (isList_of o1) (intsAre_of r1 q2) (by simp) fun h' M t tk hk h1 h2 hz => ⟨I, as, Tr.grow _ _ _ _ tk hz hk, J.grow tk hz hk, ?_⟩)
          obtain ⟨m1, m2⟩ := minI_spec r k
          rw [Int.le_antisymm (m2 M h1) (h2 _ m1)]
          exact .int _ _
    | _ => cases R2 <;> cases hr
theorem BS.maxL (c : Cx) (n : Nat) : BS c n (.builtin "max") pMaxL := by
  intro vs xs I as H s J Rs v H' hr A hA
  cases Rs with
  | nil => cases hr
  | cons R1 R2 => cases R1 with
    | @ref i a fp ha => cases R2 with
      | cons => cases hr
      | nil =>
        obtain ⟨us, q1, hr⟩ := ob_some hr
        obtain ⟨ns, q2, hr⟩ := ob_some hr
        obtain ⟨items, nn, rfl, o1, r1, hl1⟩ := or_list (J.obj ha (asList_some q1))
        cases ns with
        | nil => cases hr
        | cons k r =>
          cases hr
          refine wpAny_sized (max_plain hA.handled (isList_of o1) (intsAre_of r1 q2) (by simp) fun h' M t tk hk h1 h2 hz => ⟨I, as, Tr.grow _ _ _ _ tk hz hk, J.grow tk hz hk, ?_⟩)
          obtain ⟨m1, m2⟩ := maxI_spec r k
          rw [Int.le_antisymm (h2 _ m1) (m2 M h1)]
          exact .int _ _
    | _ => cases R2 <;> cases hr


end
end Mine
-- part M17.lean
set_option autoImplicit false
set_option maxRecDepth 100000
set_option linter.unusedVariables false
namespace Mine
open PySem PySem.W PyProof.Rows
noncomputable section

/-! a call that sees nothing of the caller's objects -/
def plain : V → Bool
  | .none => true
  | .bool _ => true
  | .int _ => true
  | .inp _ _ => true
  | .str _ => true
  | _ => false
def allPlain (vs : List V) : Bool := List.rec true (fun v _ ih => match plain v with
  | true => ih
  | false => false) vs
theorem VR.plain {c : Cx} {I I' : Im} {as as' : As} {v : V} {x : Value} (R : VR c I as v x) (h : plain v = true) : VR c I' as' v x := by
  cases R with
  | none => exact .none
  | bool b => exact .bool b
  | int i t => exact .int i t
  | inp t hm h1 => exact .inp t hm h1
  | str t h1 => exact .str t h1
  | _ => cases h
theorem All2.plain {c : Cx} {I I' : Im} {as as' : As} : ∀ {vs : List V} {xs : List Value}, All2 (VR c I as) vs xs → allPlain vs = true → All2 (VR c I' as') vs xs
  | _, _, .nil, _ => .nil
  | v :: vs, _, .cons R Rs, h => by
    change (match Mine.plain v with | true => allPlain vs | false => false) = true at h
    cases e : Mine.plain v with
    | false => rw [e] at h; cases h
    | true => rw [e] at h; exact .cons (R.plain e) (Rs.plain h)

theorem Inv.adopt {c : Cx} {I : Im} {as : As} {H : List O} {s : Shared} (J : Inv c I as H s) {a : Addr} {o : O} (ha : a ∉ as.flatten) (hlt : a < s.heap.objs.size) (hI : I a = none) (hr : OR c I (as ++ [[a]]) s.heap o [a]) :
    Inv c I (as ++ [[a]]) (H ++ [o]) s := by
  refine ⟨J.imm, J.base, by simp [J.len], fun i o' fp e1 e2 => ?_, ?_, fun z hz => ?_, fun z hz => ?_, J.gens, J.os⟩
  · by_cases hi : i < H.length
    · rw [List.getElem?_append_left hi] at e1
      rw [List.getElem?_append_left (by rw [J.len]; exact hi)] at e2
      exact (J.objs i o' fp e1 e2).mono (fun _ _ e => e) fun z _ ob e => e
    · have hi' : H.length ≤ i := Nat.le_of_not_lt hi
      rw [List.getElem?_append_right hi'] at e1
      rw [List.getElem?_append_right (by rw [J.len]; exact hi'), J.len] at e2
      cases hdd : i - H.length with
      | succ j => rw [hdd] at e1; simp at e1
      | zero => rw [hdd] at e1 e2; cases e1; cases e2; exact hr
  · rw [List.flatten_append, List.nodup_append]
    refine ⟨J.nodup, by simp, fun z hz y hy => ?_⟩
    simp at hy; subst hy
    exact fun q => ha (q ▸ hz)
  · rw [List.flatten_append, List.mem_append] at hz
    rcases hz with hz | hz
    · exact J.out z hz
    · simp at hz; subst hz; exact hI
  · rw [List.flatten_append, List.mem_append] at hz
    rcases hz with hz | hz
    · exact J.lt z hz
    · simp at hz; subst hz; exact hlt

def aloneOut (rest : List O) (v : V) (H' : List O) : Option (V × List O) := match H' with
  | .tab m' :: r => match plain v with
    | true => some (v, .tab m' :: rest)
    | false => ob (isR v) fun k => ob (prevN k) fun j => ob (asList (.tab m' :: r) (j + 1)) fun xs => gd (allPlain xs) (some (.ref (rest.length + 1), .tab m' :: (rest ++ [.list xs])))
  | _ => none
def alone (F : Fp) : Fp := fun vs H => match H with
  | .tab m :: rest => gd (allPlain vs) (bnd (F vs [.tab m]) (aloneOut rest))
  | _ => none

theorem FnS.alone {c : Cx} {n : Nat} {a : Addr} {F : Fp} (h : FnS c n a F) : FnS c n a (alone F) where
  fn := h.fn
  run := by
    intro vs xs I as H s J R v H' hr A hA
    cases H with
    | nil => cases hr
    | cons o rest => cases o with
      | tab m =>
        obtain ⟨p1, hr⟩ := gd_some hr
        obtain ⟨v0, H0, e0, hr⟩ := bnd_some hr
        have hlen := J.len
        cases as with
        | nil => simp at hlen
        | cons fp ar =>
          have hor : ∀ {I' : Im} {as' as'' : As} {h : Heap} {m' : Bool}, OR c I' as' h (.tab m') fp → OR c I' as'' h (.tab m') fp := fun q => by cases q with | tab e r => exact .tab e r
          have nd := J.nodup
          rw [List.flatten_cons, List.nodup_append] at nd
          have J0 : Inv c I [fp] [.tab m] s := by
            refine ⟨J.imm, J.base, rfl, fun i o fp' e1 e2 => ?_, by simpa using nd.1, fun z hz => J.out z ?_, fun z hz => J.lt z ?_, J.gens, J.os⟩
            · cases i with
              | succ i => simp at e1
              | zero => cases e1; cases e2; exact hor (J.objs 0 (.tab m) fp rfl rfl)
            · simp at hz; rw [List.flatten_cons]; exact List.mem_append_left _ hz
            · simp at hz; rw [List.flatten_cons]; exact List.mem_append_left _ hz
          refine (h.run vs xs I [fp] [.tab m] s J0 (R.plain p1)).use e0 hA fun z s1 I1 as1 T1 J1 R1 => ?_
          cases H0 with
          | nil => cases hr
          | cons o' r => cases o' with
            | tab m' =>
              obtain ⟨ex, hex⟩ := T1.pre
              have hsub : ∀ b, b ∉ (fp :: ar).flatten → b ∉ [fp].flatten := fun b hb q => hb (by simp at q; rw [List.flatten_cons]; exact List.mem_append_left _ q)
              have Tk : ∀ b o, s.heap.get? b = some o → b ∉ fp → s1.heap.get? b = some o := fun b o e hb => T1.kept b o e (by simpa using hb) (by simp)
              have hI1 : ∀ b, b ∈ (fp :: ar).flatten → I1 b = none := fun b hb => by
                cases e : I1 b with
                | none => rfl
                | some o => rcases T1.immN b o e with q | q | q
                            · rw [J.out b hb] at q; cases q
                            · exact absurd (J.lt b hb) (Nat.not_lt.mpr q)
                            · exact nomatch q
              have J2 : Inv c I1 (fp :: ar) (.tab m' :: rest) s1 := by
                refine ⟨J1.imm, J1.base, by simpa using hlen, fun i o fp' e1 e2 => ?_, J.nodup, hI1, fun b hb => Nat.lt_of_lt_of_le (J.lt b hb) T1.size, J1.gens, J1.os⟩
                cases i with
                | zero =>
                  cases e1; cases e2
                  exact hor (J1.objs 0 (.tab m') fp rfl (by rw [hex]; rfl))
                | succ i =>
                  have := (J.objs (i + 1) o fp' (by simpa using e1) e2).mono (I' := I1) (ex := []) (h' := s1.heap) T1.imm fun b hb ob e => Tk b ob e fun q => by
                    have e2' : ar[i]? = some fp' := by simpa using e2
                    exact nd.2.2 b q b (List.mem_flatten.mpr ⟨fp', List.mem_of_getElem? e2', hb⟩) rfl
                  simpa using this
              have T2 : Tr [] I (fp :: ar) s I1 (fp :: ar) s1 := ⟨T1.imm, T1.immN, ⟨[], by simp⟩, fun _ q => .inl q, fun b o e h1 _ => Tk b o e fun q => h1 (by rw [List.flatten_cons]; exact List.mem_append_left _ q), T1.size⟩
              have hr : (match Mine.plain v0 with
                | true => some (v0, O.tab m' :: rest)
                | false => ob (isR v0) fun k => ob (prevN k) fun j => ob (asList (.tab m' :: r) (j + 1)) fun xs => gd (allPlain xs) (some (V.ref (rest.length + 1), O.tab m' :: (rest ++ [O.list xs])))) = some (v, H') := hr
              cases hpl : Mine.plain v0 with
              | true =>
                rw [hpl] at hr
                cases hr
                exact ⟨I1, fp :: ar, T2, J2, R1.plain hpl⟩
              | false =>
                rw [hpl] at hr
                obtain ⟨k, k1, hr⟩ := ob_some hr
                obtain ⟨j, k2, hr⟩ := ob_some hr
                obtain ⟨us, q1, hr⟩ := ob_some hr
                obtain ⟨q2, hr⟩ := gd_some hr
                cases hr
                rw [isR_some k1, prevN_some k2] at R1
                obtain ⟨a, fp', rfl, ha⟩ := vr_ref R1
                obtain ⟨items, nn, rfl, o1, r1, hl1⟩ := or_list (J1.obj ha (asList_some q1))
                have hafp : a ∉ fp := fun q => by
                  have := flat_inj J1.nodup ha (j := 0) (g := fp) (by rw [hex]; rfl) (by simp) q
                  cases this
                have hnew : s.heap.objs.size ≤ a := by
                  rcases T1.fresh a (List.mem_flatten.mpr ⟨_, List.mem_of_getElem? ha, by simp⟩) with q | q
                  · simp at q; exact absurd q hafp
                  · exact q
                have hout : a ∉ (fp :: ar).flatten := fun q => absurd (J.lt a q) (Nat.not_lt.mpr hnew)
                refine ⟨I1, (fp :: ar) ++ [[a]], ?_, J2.adopt hout (Heap.lt_size o1) (J1.out a (mem_flat ha)) (.list o1 (r1.plain q2) hl1), ?_⟩
                · refine ⟨T1.imm, T1.immN, ⟨_, rfl⟩, fun b hb => ?_, T2.kept, T1.size⟩
                  rw [List.flatten_append, List.mem_append] at hb
                  rcases hb with hb | hb
                  · exact .inl hb
                  · simp at hb; subst hb; exact .inr hnew
                · refine .ref (fp := []) ?_
                  have : ar.length = rest.length := by simpa using hlen
                  rw [← this]; simp
            | _ => cases hr
      | _ => cases hr

/-! a def with one parameter and a starred one -/
def fnOfV (m : Nat) (f : Sf) : Fp := fun vs H => match vs with
  | [] => none
  | v :: rest => gd (Nat.ble rest.length big) (outOf (f (loOf m [v, .ref H.length]) (H ++ [.tuple rest])))
theorem FnS.ofV {c : Cx} {n : Nat} {a : Addr} {sc : Scope} {p1 p2 : Str} {body : List Stmt} {fd : FuncData} {f : Sf} (D : DefOk c a sc [p1, p2] body fd)
    (hb : ∀ (x : Value) (xs : List Value) (A : Around) (Q : List (Str × Value) → Shared → Prop) (E : Value → Shared → Prop) (s : Shared), xs.length ≤ sizeLine → Q [(p1, x), (p2, .ref s.heap.objs.size)] { s with heap := s.heap.push { cls := .type "tuple", data := .seq xs.toArray } } → wpAny (model c.prog c.w) A (bindArgs fd ⟨x :: xs, []⟩) Q E s) (hf : SS c n sc body f) :
    FnS c (n + 1) a (fnOfV sc.names.length f) where
  fn := let ⟨o, h1, h2⟩ := D.at_; ⟨o, fd, h1, h2⟩
  run := by
    intro vs xs I as H s J R v H' hr A hA
    cases R with
    | nil => cases hr
    | @cons w x vs xs R Rs =>
      obtain ⟨q1, hr⟩ := gd_some hr
      have q1 := Nat.le_of_ble_eq_true q1
      obtain ⟨o, h1, h2⟩ := D.at_
      have hE : Ext c.base s.heap := fun b o e => J.imm b o (J.base b o e)
      refine wpAny_call (codeAny_call_function hA.room (hE _ _ h1) h2 (by rw [D.scope]; exact D.co) (by rw [D.scope]; exact D.gen) D.body_ (D.code _ hE) ?_)
      refine hb x xs _ _ _ s (by rw [← Rs.length]; exact Nat.le_trans q1 big_le) ?_
      have J1 := J.alloc { cls := .type "tuple", data := .seq xs.toArray } (.tuple vs) s.toks rfl (.tuple (items := xs) (n := 0) (by rw [Heap.get?_push_size _ rfl]) (Rs.imp fun _ _ q => q.mono fun _ _ e => e) q1)
      have T1 := Tr.alloc [] I as s { cls := .type "tuple", data := .seq xs.toArray } s.toks
      exact run_body D hf (vs := [w, .ref H.length]) (xs := [x, .ref s.heap.objs.size]) J1 (.cons (R.tr T1) (.cons (J.newRef _) .nil)) rfl hA hr fun val s' I' as' T' J' R' => ⟨I', as', T1.trans T', J', R'⟩

end
end Mine
-- part M18.lean
set_option autoImplicit false
set_option maxRecDepth 100000
set_option linter.unusedVariables false
namespace Mine
open PySem PySem.W PyProof.Rows
noncomputable section

/-! instances -/
structure ClsOk (c : Cx) (K : Frag) : Prop where
  kin : ∀ h, Ext c.base h → K.In h
  hga : findIn K (.ref c.cls) "__getattribute__" = some (some (.builtin "object.__getattribute__"))
  hgk : findIn K (.ref c.cls) "__getattr__" = some none
  hst : findIn K (.ref c.cls) "__setattr__" = some (some (.builtin "object.__setattr__"))
  over : plainOver K c.cls = true
  hasd : (clsIn K c.cls).any (·.hasDict) = true
  makes : makesIn K c.cls = true
  nosl : ((clsIn K c.cls).any fun cd => cd.mro.isEmpty || cd.mro.contains (.type "staticmethod") || cd.mro.contains (.type "classmethod")) = false
structure MethOk (c : Cx) (K : Frag) (name : Str) (f : Addr) : Prop where
  fnd : findIn K (.ref c.cls) name = some (some (.ref f))
  typ : typeIn K (.ref f) = some (.type "function")

theorem ClsOk.at_ {c : Cx} {K : Frag} (X : ClsOk c K) {I : Im} {as : As} {H : List O} {s : Shared} (J : Inv c I as H s) : K.In s.heap := X.kin _ fun b o e => J.imm b o (J.base b o e)

def getA (k : List Nat) (es : List (List Nat × V)) : Option V := List.rec none (fun p _ ih => match strEq p.1 k with
  | true => some p.2
  | false => ih) es
def putA (k : List Nat) (v : V) (es : List (List Nat × V)) : List (List Nat × V) := List.rec [(k, v)] (fun p t ih => match strEq p.1 k with
  | true => (p.1, v) :: t
  | false => p :: ih) es
theorem putA_cons (k : List Nat) (v : V) (p : List Nat × V) (t : List (List Nat × V)) : putA k v (p :: t) = match strEq p.1 k with | true => (p.1, v) :: t | false => p :: putA k v t := rfl
theorem getA_cons (k : List Nat) (p : List Nat × V) (t : List (List Nat × V)) : getA k (p :: t) = match strEq p.1 k with | true => some p.2 | false => getA k t := rfl
theorem key_isStr {c : Cx} {I : Im} {as : As} {p : List Nat × V} {e : DictEntry} (h : EntR c I as p e) (k : List Nat) : e.key.isStr ⟨k.toArray⟩ = strEq p.1 k := by
  obtain ⟨⟨t, ht⟩, _⟩ := h
  rw [ht, strEq_eq, ← mkBeq]; rfl
theorem getA_find {c : Cx} {I : Im} {as : As} {k : List Nat} : ∀ {xs : List (List Nat × V)} {es : List DictEntry} {v : V}, All2 (EntR c I as) xs es → getA k xs = some v → ∃ e, es.find? (·.key.isStr ⟨k.toArray⟩) = some e ∧ VR c I as v e.val
  | _, _, _, .nil, h => by cases h
  | p :: xs, e :: es, v, .cons R Rs, h => by
    rw [getA_cons] at h
    rw [List.find?_cons, key_isStr R k]
    cases q : strEq p.1 k with
    | true => rw [q] at h; cases h; exact ⟨e, rfl, R.2.2.2⟩
    | false => rw [q] at h; exact getA_find Rs h
theorem getA_none {c : Cx} {I : Im} {as : As} {k : List Nat} : ∀ {xs : List (List Nat × V)} {es : List DictEntry}, All2 (EntR c I as) xs es → getA k xs = none → es.find? (·.key.isStr ⟨k.toArray⟩) = none
  | _, _, .nil, h => rfl
  | p :: xs, e :: es, .cons R Rs, h => by
    rw [getA_cons] at h
    rw [List.find?_cons, key_isStr R k]
    cases q : strEq p.1 k with
    | true => rw [q] at h; cases h
    | false => rw [q] at h; exact getA_none Rs h
theorem no_refKey {c : Cx} {I : Im} {as : As} : ∀ {xs : List (List Nat × V)} {es : List DictEntry}, All2 (EntR c I as) xs es → es.any (·.refKey) = false
  | _, _, .nil => rfl
  | p :: xs, e :: es, .cons R Rs => by
    rw [List.any_cons, no_refKey Rs]
    obtain ⟨⟨t, ht⟩, _⟩ := R
    unfold DictEntry.refKey; rw [ht]; rfl
theorem putA_put {c : Cx} {I : Im} {as : As} {k : List Nat} {v : V} {val : Value} {t : Tok} (hk : k.length ≤ big) (hv : VR c I as v val) : ∀ {xs : List (List Nat × V)} {es : List DictEntry}, All2 (EntR c I as) xs es →
    All2 (EntR c I as) (putA k v xs) (putIn (·.key.isStr ⟨k.toArray⟩) (fun e => { e with val := val }) ⟨PyData.keyHash c.w.params ⟨k.toArray⟩, .str ⟨k.toArray⟩ t, val⟩ es)
  | _, _, .nil => .cons ⟨⟨t, rfl⟩, hk, rfl, hv⟩ .nil
  | p :: xs, e :: es, .cons R Rs => by
    rw [putA_cons]
    cases q : strEq p.1 k with
    | true =>
      rw [putIn_hit _ _ _ _ _ (by rw [key_isStr R k]; exact q)]
      exact .cons ⟨R.1, R.2.1, R.2.2.1, hv⟩ Rs
    | false =>
      rw [putIn_miss _ _ _ _ _ (by rw [key_isStr R k]; exact q)]
      exact .cons R (putA_put hk hv Rs)
theorem putA_mem {k : List Nat} {v : V} {x : List Nat} : ∀ {xs : List (List Nat × V)}, x ∈ (putA k v xs).map (·.1) → x = k ∨ x ∈ xs.map (·.1)
  | [], h => by simp [putA] at h; exact .inl h
  | p :: xs, h => by
    rw [putA_cons] at h
    cases q : strEq p.1 k with
    | true => rw [q] at h; exact .inr h
    | false =>
      rw [q] at h
      rcases List.mem_cons.mp h with rfl | h
      · exact .inr (by simp)
      · rcases putA_mem h with h | h
        · exact .inl h
        · exact .inr (List.mem_cons_of_mem _ h)
theorem putA_nodup {k : List Nat} {v : V} : ∀ {xs : List (List Nat × V)}, (xs.map (·.1)).Nodup → ((putA k v xs).map (·.1)).Nodup
  | [], _ => by simp [putA]
  | p :: xs, h => by
    rw [List.map_cons, List.nodup_cons] at h
    rw [putA_cons]
    cases q : strEq p.1 k with
    | true => exact List.nodup_cons.mpr h
    | false =>
      refine List.nodup_cons.mpr ⟨fun m => ?_, putA_nodup h.2⟩
      rcases putA_mem m with e | m
      · have e : p.1 = k := e
        rw [strEq_eq, e] at q; simp at q
      · exact h.1 m
theorem putA_len {k : List Nat} {v : V} : ∀ {xs : List (List Nat × V)}, (putA k v xs).length ≤ xs.length + 1
  | [] => by simp [putA]
  | p :: xs => by
    rw [putA_cons]
    cases strEq p.1 k with
    | true => simp
    | false => simp; exact putA_len

theorem VR.handed {c : Cx} {I : Im} {as : As} {v : V} {x : Value} (R : VR c I as v x) : handedIn x = true := by cases R <;> rfl

/-- an object's own field -/
theorem attr_get {c : Cx} {K : Frag} (X : ClsOk c K) {I : Im} {as : As} {H : List O} {s : Shared} {i : Nat} {x : Value} {es : List (List Nat × V)} {v : V} {nl : List Nat} {name : Str} {A : Around} {expr : Bool} {Q : Value → Shared → Prop} {E : Value → Shared → Prop} (J : Inv c I as H s) (R : VR c I as (.ref i) x) (hx : name = ⟨nl.toArray⟩) (no : findIn K (.ref c.cls) name = some none)
    (he : asInst H i = some es) (hv : getA nl es = some v) (h : ∀ val s', Tr [] I as s I as s' → Inv c I as H s' → VR c I as v val → Q val s') : wpAny (model c.prog c.w) A (getAttr x name expr) Q E s := by
  subst hx
  cases R with
  | @ref _ a fp ha => cases J.obj ha (asInst_some he) with
    | @inst _ d ds n sl _ e ed r hl nd =>
      obtain ⟨en, h1, h2⟩ := getA_find r hv
      obtain ⟨cd, hc, hd⟩ := any_some X.hasd
      refine get_value (v := en.val) (od := some { cls := .type "dict", data := .dict ds.toArray n, slots := sl }) (X.at_ J) ⟨e, rfl, rfl, ed⟩ X.hga ?_ h2.handed (h _ _ (Tr.toks ..) (J.toks _) h2)
      unfold findObj W.ownOf lookIn
      simp only [hc, Option.bind_some, no, hd, if_true, h1]

def eAttr (nl : List Nat) (f : Ef) : Ef := fun lo H => bnd (f lo H) fun v H1 => match v with
  | .ref i => ob (asInst H1 i) fun es => ob (getA nl es) fun w => some (w, H1)
  | _ => none
theorem ET.attr {c : Cx} {K : Frag} (X : ClsOk c K) {n : Nat} {sc : Scope} {y name : Str} {p pos : Pos} {nl : List Nat} {f : Ef} (hf : ET c n sc (.Name y p) f) (hx : name = ⟨nl.toArray⟩) (no : findIn K (.ref c.cls) name = some none) : ET c n sc (.Attribute (.Name y p) name pos) (eAttr nl f) := by
  intro env lo I as H s he L J v H' hr A hA
  obtain ⟨w, H1, e1, hr⟩ := bnd_some hr
  refine Attribute_name ((hf env lo I as H s he L J).use e1 hA fun x s1 I1 as1 T1 J1 R1 => ?_)
  cases w with
  | ref i =>
    obtain ⟨es, q1, hr⟩ := ob_some hr
    obtain ⟨w, q2, hr⟩ := ob_some hr
    cases hr
    exact attr_get X J1 R1 hx no q1 q2 fun val s' T J' R' => ⟨I1, as1, T1.trans T, J', R'⟩
  | _ => cases hr

/-- a field stored -/
theorem osa_exact {c : Cx} {K : Frag} (X : ClsOk c K) {A : Around} {s : Shared} {x dx : Addr} {es : List DictEntry} {n : Nat} {sl : Array (Option Value)} {name : Str} {tk : Tok} {v : Value} {R : Result → Shared → Prop} (XK : K.In s.heap)
    (hx : s.heap.get? x = some { cls := .ref c.cls, dict := some dx }) (D : s.heap.get? dx = some { cls := .type "dict", data := .dict es.toArray n, slots := sl }) (no : findIn K (.ref c.cls) name = some none)
    (hr : es.any (·.refKey) = false) (hz : (putIn (·.key.isStr name) (fun e => { e with val := v }) ⟨PyData.keyHash c.w.params name, .str name s.toks, v⟩ es).length ≤ 2000000)
    (h : R (.ok (.ret .none)) { s with heap := s.heap.update dx (Obj.putName name (PyData.keyHash c.w.params name) (.str name s.toks) v), toks := s.toks + 1 }) :
    codeAny (model c.prog c.w) A (.call (.builtin "object.__setattr__") ⟨[.ref x, .str name tk, v], []⟩) R s := by
  have I : InstAt s.heap x { cls := .ref c.cls, dict := some dx } c.cls (some { cls := .type "dict", data := .dict es.toArray n, slots := sl }) := ⟨hx, rfl, rfl, D⟩
  have ht : takerIn K c.cls name = some none := by unfold takerIn; rw [no]; rfl
  refine osa_open XK I X.over ht fun b => ?_
  obtain ⟨cd, hc, hd'⟩ := any_some X.hasd
  refine wpAny_bind (wpAny_pure (wpAny_bind (wpAny_bind (wpAny_loadPart hx (wpAny_bind ((looks_clsIn XK hc).here ?_))))))
  rw [hd']
  refine wpAny_pure (a := some dx) (wpAny_bind (wpAny_pure (wpAny_bind ?_)))
  unfold nsSet
  refine wpAny_bind (wpAny_bind (wpAny_askSetting (wpAny_pure (wpAny_bind (wpAny_mkText (wpAny_bind (wpAny_loadPart D ?_)))))))
  dsimp only
  have q : (!es.toArray.any (·.key.isStr name) && es.toArray.any (·.refKey)) = false := by
    rw [List.any_toArray, List.any_toArray, hr, Bool.and_false]
  rw [aRefKeyMayBeTheName_at, q]
  refine wpAny_updatePart D ?_
  have D' : (s.heap.update dx (Obj.putName name (PyData.keyHash c.w.params name) (.str name s.toks) v)).get? dx = some ⟨.type "dict", none, .dict (putIn (·.key.isStr name) (fun e => { e with val := v }) ⟨PyData.keyHash c.w.params name, .str name s.toks, v⟩ es).toArray (if es.any (·.key.isStr name) then n else n + 1), sl⟩ := by
    rw [Heap.get?_update_self _ D (by rw [putName_eq]; rfl), putName_eq]
  refine wpAny_bind (wpAny_lookBehind D' (pastItsLine_dict (by rw [List.size_toArray, sizeLine_eq]; omega)) ?_)
  exact wpAny_pure h

end
end Mine
-- part M19.lean
set_option autoImplicit false
set_option maxRecDepth 100000
set_option linter.unusedVariables false
namespace Mine
open PySem PySem.W PyProof.Rows
noncomputable section

theorem Rm.in1 {n : Nat} {A : Around} (h : Rm (n + 1) A) : Rm n A.in1 := ⟨h.handled, by show A.depth + n ≤ 900; have := h.depth; omega, by show A.units + 1 + 20 * n ≤ 9000; have := h.units; omega⟩
theorem Rm.under {n : Nat} {A : Around} (h : Rm (n + 1) A) (c : Code) (h1 : c.weight ≤ 1) (h2 : c.cUnits ≤ 20) : Rm n (A.under c) := ⟨h.handled, by show A.depth + c.weight + n ≤ 900; have := h.depth; omega, by show A.units + c.cUnits + 20 * n ≤ 9000; have := h.units; omega⟩

/-- a def of the text, by its code -/
structure FnC (c : Cx) (n : Nat) (a : Addr) (F : Fp) : Prop where
  fn : ∃ o fd, c.base a = some o ∧ o.data = .func fd
  code : ∀ vs xs I as H s, Inv c I as H s → All2 (VR c I as) vs xs → ∀ v H', F vs H = some (v, H') → ∀ A, Rm n A →
    codeAny (model c.prog c.w) A (.call (.ref a) ⟨xs, []⟩) (fun r s' => match r with | .ok (.ret z) => ∃ I' as', Tr [] I as s I' as' s' ∧ Inv c I' as' H' s' ∧ VR c I' as' v z | .ok _ => False | .error _ => False) s
theorem FnC.toS {c : Cx} {n : Nat} {a : Addr} {F : Fp} (h : FnC c n a F) : FnS c n a F where
  fn := h.fn
  run := fun vs xs I as H s J R v H' hr A hA => wpAny_call (codeAny_mono (h.code vs xs I as H s J R v H' hr A hA) fun r s' q => q)
theorem FnC.of {c : Cx} {n : Nat} {a : Addr} {sc : Scope} {ps : List Str} {body : List Stmt} {fd : FuncData} {f : Sf} (D : DefOk c a sc ps body fd) (hb : ∀ xs : List Value, xs.length = ps.length → bindArgs fd ⟨xs, []⟩ = pure (ps.zip xs)) (hf : SS c n sc body f) :
    FnC c (n + 1) a (fnOf ps.length sc.names.length f) where
  fn := let ⟨o, h1, h2⟩ := D.at_; ⟨o, fd, h1, h2⟩
  code := by
    intro vs xs I as H s J R v H' hr A hA
    obtain ⟨hlen, hr⟩ := gd_some hr
    have hlen := Nat.eq_of_beq_eq_true hlen
    obtain ⟨o, h1, h2⟩ := D.at_
    have hE : Ext c.base s.heap := fun b o e => J.imm b o (J.base b o e)
    refine codeAny_call_function hA.room (hE _ _ h1) h2 (by rw [D.scope]; exact D.co) (by rw [D.scope]; exact D.gen) D.body_ (D.code _ hE) ?_
    rw [hb xs (by rw [← R.length]; exact hlen)]
    exact wpAny_pure (run_body D hf J R hlen hA hr fun val s' I' as' T' J' R' => ⟨I', as', T', J', R'⟩)

/-! a field stored -/
theorem inst_apart {c : Cx} {I : Im} {as : As} {H : List O} {s : Shared} (J : Inv c I as H s) {i : Nat} {a d : Addr} (ha : as[i]? = some [a, d]) : a ≠ d := by
  have h1 := (List.pairwise_flatten.mp J.nodup).1 _ (List.mem_of_getElem? ha)
  simp at h1; exact h1
def setA (i : Nat) (nl : List Nat) (v : V) (H : List O) : Option (List O) := ob (asInst H i) fun es => gd (Nat.blt es.length big) (some (H.set i (.inst (putA nl v es))))
theorem attr_set {c : Cx} {K : Frag} (X : ClsOk c K) {I : Im} {as : As} {H H' : List O} {s : Shared} {i : Nat} {x val : Value} {v : V} {nl : List Nat} {name : Str} {A : Around} {Q : Unit → Shared → Prop} {E : Value → Shared → Prop} (J : Inv c I as H s) (R : VR c I as (.ref i) x) (Rv : VR c I as v val) (hx : name = ⟨nl.toArray⟩) (hb : nl.length ≤ big) (no : findIn K (.ref c.cls) name = some none)
    (hr : setA i nl v H = some H') (h : ∀ s', Tr [] I as s I as s' → Inv c I as H' s' → Q () s') : wpAny (model c.prog c.w) A (setAttr x name val) Q E s := by
  subst hx
  obtain ⟨es, q1, hr⟩ := ob_some hr
  obtain ⟨q2, hr⟩ := gd_some hr
  cases hr
  have q2 : es.length < big := Nat.lt_of_succ_le (Nat.le_of_ble_eq_true q2)
  cases R with
  | @ref _ a fp ha => cases J.obj ha (asInst_some q1) with
    | @inst _ d ds n sl _ e ed r hl nd =>
      have hne := inst_apart J ha
      have P := putA_put (t := s.toks + 1) hb Rv r
      have hz : (putIn (·.key.isStr ⟨nl.toArray⟩) (fun e => { e with val := val }) ⟨PyData.keyHash c.w.params ⟨nl.toArray⟩, .str ⟨nl.toArray⟩ (s.toks + 1), val⟩ ds).length ≤ big := by
        rw [← P.length]; exact Nat.le_trans putA_len q2
      have hbig : big = 1000000 := rfl
      refine set_plain (X.at_ J) (od := some { cls := .type "dict", data := .dict ds.toArray n, slots := sl }) ⟨e, rfl, rfl, ed⟩ X.hst (osa_exact (s := { s with toks := s.toks + 1 }) X (X.at_ (J.toks (s.toks + 1))) e ed no (no_refKey r) (by show (putIn _ _ ⟨_, .str _ (s.toks + 1), _⟩ ds).length ≤ _; omega) ?_)
      have hs : Heap.SameBut d s.heap (s.heap.update d (Obj.putName ⟨nl.toArray⟩ (PyData.keyHash c.w.params ⟨nl.toArray⟩) (.str ⟨nl.toArray⟩ (s.toks + 1)) val)) := Heap.SameBut.update ..
      refine h _ (Tr.set I as s (s.toks + 1 + 1) (List.mem_flatten.mpr ⟨_, List.mem_of_getElem? ha, by simp⟩) hs) (J.set (s.toks + 1 + 1) ha (b := d) (by simp) hs (.inst (es := _) (n := if ds.any (·.key.isStr ⟨nl.toArray⟩) then n else n + 1) (sl := sl) ((hs.2 a hne).trans e) ?_ P (by exact Nat.le_trans putA_len q2) (putA_nodup nd)))
      rw [Heap.get?_update_self _ ed (by rw [putName_eq]; rfl), putName_eq]

def sSetA (nl : List Nat) (f g : Ef) : Sf := fun lo H => bnd (f lo H) fun v H1 => bnd (g lo H1) fun o H2 => match o with
  | .ref i => ob (setA i nl v H2) fun H3 => some ((.next, lo), H3)
  | _ => none
theorem ST.setA {c : Cx} {K : Frag} (X : ClsOk c K) {n : Nat} {sc : Scope} {o e : Expr} {name : Str} {p pos : Pos} {nl : List Nat} {f g : Ef} (hf : ET c n sc e f) (hg : ET c n sc o g) (hx : name = ⟨nl.toArray⟩) (hb : Nat.ble nl.length big = true) (no : findIn K (.ref c.cls) name = some none)
    (hw : ∀ env, swapsWith e (some (.Attribute o name p)) pos.line env = pure false) : ST c n sc (.Assign [.Attribute o name p] e pos) (sSetA nl f g) := by
  intro env lo I as H s he L J r H' hr A hA
  obtain ⟨v, H1, e1, hr⟩ := bnd_some hr
  obtain ⟨w, H2, e2, hr⟩ := bnd_some hr
  refine plainObj_wpAny_Assign_Attribute ((hf env lo I as H s he L J).use e1 hA fun x s1 I1 as1 T1 J1 R1 => (hg env lo I1 as1 H1 s1 he (L.tr T1) J1).use e2 hA fun y s2 I2 as2 T2 J2 R2 => ?_) (hw env)
  cases w with
  | ref i =>
    obtain ⟨H3, q1, hr⟩ := ob_some hr
    cases hr
    exact attr_set X J2 R2 (R1.tr T2) hx (Nat.le_of_ble_eq_true hb) no q1 fun s3 T3 J3 => ⟨I2, as2, (T1.trans (T2.trans T3)).nil, J3, .next, ((L.tr T1).tr T2).tr T3⟩
  | _ => cases hr
def sAugA (p : Bp) (nl : List Nat) (g f : Ef) : Sf := fun lo H => bnd (g lo H) fun o H1 => match o with
  | .ref i => ob (asInst H1 i) fun es => ob (getA nl es) fun old => bnd (f lo H1) fun v H2 => bnd (p old v H2) fun w H3 => ob (setA i nl w H3) fun H4 => some ((.next, lo), H4)
  | _ => none
theorem ST.augA {c : Cx} {K : Frag} (X : ClsOk c K) {n : Nat} {sc : Scope} {o e : Expr} {name : Str} {op : Operator} {p pos : Pos} {nl : List Nat} {P : Bp} {f g : Ef} (hg : ET c n sc o g) (hf : ET c n sc e f) (hP : PB c n (inplaceOp op) P) (hx : name = ⟨nl.toArray⟩) (hb : Nat.ble nl.length big = true) (no : findIn K (.ref c.cls) name = some none) :
    ST c n sc (.AugAssign (.Attribute o name p) op e pos) (sAugA P nl g f) := by
  intro env lo I as H s he L J r H' hr A hA
  obtain ⟨w, H1, e1, hr⟩ := bnd_some hr
  refine wpAny_AugAssign_AttributeAny ((hg env lo I as H s he L J).use e1 hA fun x s1 I1 as1 T1 J1 R1 => ?_)
  cases w with
  | ref i =>
    obtain ⟨es, q1, hr⟩ := ob_some hr
    obtain ⟨old, q2, hr⟩ := ob_some hr
    obtain ⟨v, H2, e2, hr⟩ := bnd_some hr
    obtain ⟨w, H3, e3, hr⟩ := bnd_some hr
    obtain ⟨H4, q3, hr⟩ := ob_some hr
    cases hr
    refine attr_get X J1 R1 hx no q1 q2 fun ov s2 T2 J2 R2 => (hf env lo I1 as1 H1 s2 he ((L.tr T1).tr T2) J2).use e2 hA fun y s3 I3 as3 T3 J3 R3 => (hP old v ov y I3 as3 H2 s3 J3 (R2.tr T3) R3).use e3 hA fun z s4 I4 as4 T4 J4 R4 => ?_
    exact attr_set X J4 (((R1.tr T2).tr T3).tr T4) R4 hx (Nat.le_of_ble_eq_true hb) no q3 fun s5 T5 J5 => ⟨I4, as4, (T1.trans (T2.trans (T3.trans (T4.trans T5)))).nil, J5, .next, ((((L.tr T1).tr T2).tr T3).tr T4).tr T5⟩
  | _ => cases hr

/-! a method of the class -/
def eMethI (P : Fp) (nl : List Nat) (f : Ef) (g : Af) : Ef := fun lo H => bnd (f lo H) fun o H1 => match o with
  | .ref i => ob (asInst H1 i) fun es => match getA nl es with
    | none => bnd (g lo H1) fun vs H2 => P (.ref i :: vs) H2
    | some _ => none
  | _ => none
theorem ET.methI {c : Cx} {K : Frag} (X : ClsOk c K) {n : Nat} {sc : Scope} {o : Expr} {name : Str} {apos pos : Pos} {es : List Expr} {a : Addr} {P : Fp} {nl : List Nat} {f : Ef} {g : Af}
    (hP : FnS c n a P) (hM : MethOk c K name a) (hx : name = ⟨nl.toArray⟩) (hf : ET c n sc o f) (hg : AT c n sc es g) (hn : (es.all plainArg) = true)
    (he : ∀ env, ∃ pl, eval (.Call (.Attribute o name apos) es [] pos) env = (do
      let ov ← eval o env
      standAt apos.atName
      let (f, first) ← holding [ov] (getMethod ov name pl)
      callWith pos f first (backTo pos (starEach es env)) [])) :
    ET c n sc (.Call (.Attribute o name apos) es [] pos) (eMethI P nl f g) := by
  subst hx
  intro env lo I as H s hE L J v H' hr A hA
  obtain ⟨w, H1, e1, hr⟩ := bnd_some hr
  obtain ⟨pl, heq⟩ := he env
  refine MethodCall_ (pl := pl) ((hf env lo I as H s hE L J).use e1 hA fun x s1 I1 as1 T1 J1 R1 => ?_) heq
  cases w with
  | ref i =>
    obtain ⟨us, q1, hr⟩ := ob_some hr
    cases q2 : getA nl us with
    | some => rw [q2] at hr; cases hr
    | none =>
      rw [q2] at hr
      obtain ⟨vs, H2, e2, hr⟩ := bnd_some hr
      have R0 := R1
      cases R1 with
      | @ref _ ad fp ha => cases J1.obj ha (asInst_some q1) with
        | @inst _ d ds nn sl _ e ed r hl nd =>
          obtain ⟨o', fd, hb, hfd⟩ := hP.fn
          refine method_fn (X.at_ J1) (od := some { cls := .type "dict", data := .dict ds.toArray nn, slots := sl }) ⟨e, rfl, rfl, ed⟩ X.hga X.hgk hM.fnd hM.typ ?_ ?_
          · unfold shadowIn lookIn
            simp only [getA_none r q2, no_refKey r]; rfl
          · refine Calls.callWith_function (o := o') (fd := fd) (evalArgs_any (noStar hn) ((hg pos env lo I1 as1 H1 s1 hE (L.tr T1) J1).use e2 hA fun xs s2 I2 as2 T2 J2 R2 => ⟨⟨J2.imm _ _ (J2.base _ _ hb), hfd⟩, ?_⟩))
            exact (hP.run (.ref i :: vs) (.ref ad :: xs) I2 as2 H2 s2 J2 (.cons (R0.tr T2) R2)).use hr hA fun z s3 I3 as3 T3 J3 R3 => ⟨I3, as3, T1.trans (T2.trans T3), J3, R3⟩
  | _ => cases hr

/-! new objects -/
theorem Inv.allocF {c : Cx} {I : Im} {as : As} {H : List O} {s : Shared} (J : Inv c I as H s) {fp : List Addr} {h' : Heap} {o : O} (k : Nat) (ha : ∀ a ∈ fp, s.heap.objs.size ≤ a) (hlt : ∀ a ∈ fp, a < h'.objs.size) (nd : fp.Nodup) (hz : s.heap.objs.size ≤ h'.objs.size) (hk : ∀ b o, s.heap.get? b = some o → h'.get? b = some o) (hr : OR c I (as ++ [fp]) h' o fp) :
    Inv c I (as ++ [fp]) (H ++ [o]) { s with heap := h', toks := k } := by
  refine ⟨fun z o e => hk z o (J.imm z o e), J.base, by simp [J.len], fun i o' fp' e1 e2 => ?_, ?_, fun z hzz => ?_, fun z hzz => ?_, J.gens, J.os⟩
  · by_cases hi : i < H.length
    · rw [List.getElem?_append_left hi] at e1
      rw [List.getElem?_append_left (by rw [J.len]; exact hi)] at e2
      exact (J.objs i o' fp' e1 e2).mono (fun _ _ e => e) fun z _ ob e => hk z ob e
    · have hi' : H.length ≤ i := Nat.le_of_not_lt hi
      rw [List.getElem?_append_right hi'] at e1
      rw [List.getElem?_append_right (by rw [J.len]; exact hi'), J.len] at e2
      cases hdd : i - H.length with
      | succ j => rw [hdd] at e1; simp at e1
      | zero => rw [hdd] at e1 e2; cases e1; cases e2; exact hr
  · rw [List.flatten_append, List.nodup_append]
    refine ⟨J.nodup, by simpa using nd, fun z hzz y hy => ?_⟩
    simp at hy
    exact Nat.ne_of_lt (Nat.lt_of_lt_of_le (J.lt z hzz) (ha y hy))
  · rw [List.flatten_append, List.mem_append] at hzz
    rcases hzz with hzz | hzz
    · exact J.out z hzz
    · simp at hzz; exact (fresh_off J (ha z hzz)).2
  · rw [List.flatten_append, List.mem_append] at hzz
    rcases hzz with hzz | hzz
    · exact Nat.lt_of_lt_of_le (J.lt z hzz) hz
    · simp at hzz; exact hlt z hzz
theorem Tr.allocF (fa : List Addr) (I : Im) (as : As) (s : Shared) {fp : List Addr} {h' : Heap} (k : Nat) (ha : ∀ a ∈ fp, s.heap.objs.size ≤ a) (hz : s.heap.objs.size ≤ h'.objs.size) (hk : ∀ b o, s.heap.get? b = some o → h'.get? b = some o) : Tr fa I as s I (as ++ [fp]) { s with heap := h', toks := k } := by
  refine ⟨fun _ _ e => e, fun _ _ e => .inl e, ⟨_, rfl⟩, fun z hzz => ?_, fun z o e _ _ => hk z o e, hz⟩
  rw [List.flatten_append, List.mem_append] at hzz
  rcases hzz with hzz | hzz
  · exact .inl hzz
  · simp at hzz; exact .inr (ha z hzz)

/-- the class called -/
def eMake (P : Fp) (g : Af) : Ef := fun lo H => bnd (g lo H) fun vs H1 => bnd (P (.ref H1.length :: vs) (H1 ++ [.inst []])) fun v H2 => match v with
  | .none => some (.ref H1.length, H2)
  | _ => none
theorem make_run {c : Cx} {K : Frag} (X : ClsOk c K) {n : Nat} {a : Addr} {P : Fp} (hP : FnC c n a P) (hM : MethOk c K "__init__" a) {vs : List V} {xs : List Value} {I : Im} {as : As} {H H1 : List O} {s : Shared} (J : Inv c I as H s) (R : All2 (VR c I as) vs xs) (hr : P (.ref H.length :: vs) (H ++ [.inst []]) = some (.none, H1)) {A : Around} (hA : Rm (n + 1) A)
    {Q : Value → Shared → Prop} (hQ : ∀ z s' I' as', Tr [] I as s I' as' s' → Inv c I' as' H1 s' → VR c I' as' (.ref H.length) z → Q z s') : wpAny (model c.prog c.w) A (call (.ref c.cls) xs) Q (fun _ _ => False) s := by
  obtain ⟨h, g, d, t, os⟩ := s
  have XK := X.at_ J
  refine wpAny_call (make_core (makes_of XK X.makes) (looks_findIn XK hM.fnd) (fun self => bind_fn XK self hM.typ) (.inl rfl) ?_)
  have hk : ∀ b o, h.get? b = some o → ((h.push emptyDict).push (instObj c.cls h.objs.size)).get? b = some o := fun b o e => Heap.get?_push_of_some _ (Heap.get?_push_of_some _ e)
  have hsz : ((h.push emptyDict).push (instObj c.cls h.objs.size)).objs.size = h.objs.size + 2 := by rw [Heap.size_push, Heap.size_push]
  have hz : h.objs.size ≤ ((h.push emptyDict).push (instObj c.cls h.objs.size)).objs.size := by rw [hsz]; omega
  have hm2 : ∀ b ∈ [h.objs.size + 1, h.objs.size], b = h.objs.size + 1 ∨ b = h.objs.size := by intro b hb; simpa using hb
  have ha : ∀ b ∈ [h.objs.size + 1, h.objs.size], h.objs.size ≤ b := by intro b hb; have := hm2 b hb; omega
  have hlt2 : ∀ b ∈ [h.objs.size + 1, h.objs.size], b < ((h.push emptyDict).push (instObj c.cls h.objs.size)).objs.size := by intro b hb; rw [hsz]; have := hm2 b hb; omega
  have J1 := J.allocF (h' := (h.push emptyDict).push (instObj c.cls h.objs.size)) (fp := [h.objs.size + 1, h.objs.size]) (o := .inst []) t ha hlt2 (by simp) hz hk
    (.inst (es := []) (n := 0) (sl := #[]) (by rw [← Heap.size_push h emptyDict]; exact Heap.get?_push_size _ rfl) (Heap.get?_push_of_some _ (Heap.get?_push_size _ rfl)) .nil (by simp) (by simp))
  have T1 := Tr.allocF [] I as ⟨h, g, d, t, os⟩ (h' := (h.push emptyDict).push (instObj c.cls h.objs.size)) (fp := [h.objs.size + 1, h.objs.size]) t ha hz hk
  have R0 : VR c I (as ++ [[h.objs.size + 1, h.objs.size]]) (.ref H.length) (.ref (h.objs.size + 1)) := .ref (fp := [h.objs.size]) (by rw [← J.len]; simp)
  refine codeAny_mono (hP.code (.ref H.length :: vs) (.ref (h.objs.size + 1) :: xs) I _ _ _ J1 (.cons R0 (R.tr T1)) .none H1 hr _ (hA.under _ (Nat.le_of_ble_eq_true rfl) (Nat.le_of_ble_eq_true rfl))) fun r s' q => ?_
  cases r with
  | error => exact q.elim
  | ok f => cases f with
    | ret z =>
      obtain ⟨I', as', T', J', R'⟩ := q
      cases R'
      exact ⟨rfl, hQ _ s' I' as' (T1.trans T') J' (R0.tr T')⟩
    | _ => exact q.elim

theorem ET.make {c : Cx} {K : Frag} (X : ClsOk c K) {n : Nat} {sc : Scope} {x : Str} {p pos : Pos} {e : Expr} {es : List Expr} {a : Addr} {P : Fp} {g : Af} (hP : FnC c n a P) (hM : MethOk c K "__init__" a) (hk : keepIn K (.ref c.cls) = true) (hg : AT c (n + 1) sc (e :: es) g)
    (hl : sc.names.lookup x = some .globalImplicit) (hd : (x == ("__debug__" : Str)) = false) (hv : c.mg x = some (.ref c.cls)) (hs : ∀ env, starEach (e :: es) env = (false, eval e env) :: starEach es env) (hp : ∀ env, (backTo pos (starEach es env)).any (·.1) = false) :
    ET c (n + 1) sc (.Call (.Name x p) (e :: es) [] pos) (eMake P g) := by
  intro env lo I as H s he L J v H' hr A hA
  obtain ⟨vs, H1, e1, hr⟩ := bnd_some hr
  obtain ⟨w, H2, e2, hr⟩ := bnd_some hr
  cases w <;> cases hr
  refine Call_ (load_global he J hl hd hv (callWith_K (X.at_ J) hk ((hg pos env lo I as H s he L J).use e1 hA fun xs s1 I1 as1 T1 J1 R1 => ⟨X.at_ J1, ?_⟩) (hs env) (hp env))) (by rfl)
  exact make_run X hP hM J1 R1 e2 hA fun z s' I' as' T' J' R' => ⟨I', as', T1.trans T', J', R'⟩

end
end Mine
-- part M20.lean
set_option autoImplicit false
set_option maxRecDepth 100000
set_option linter.unusedVariables false
namespace Mine
open PySem PySem.W PyProof.Rows
noncomputable section

/-! an object that never changes -/
def Im.put (I : Im) (a : Addr) (o : Obj) : Im := fun b => if b = a then some o else I b
theorem Im.put_le {I : Im} {a : Addr} {o : Obj} (h : I a = none) : ImLe I (I.put a o) := fun b o' e => by
  unfold Im.put
  by_cases q : b = a
  · subst q; rw [h] at e; cases e
  · rw [if_neg q]; exact e
theorem Im.put_at (I : Im) (a : Addr) (o : Obj) : (I.put a o) a = some o := by unfold Im.put; rw [if_pos rfl]
theorem Im.put_some {I : Im} {a b : Addr} {o o' : Obj} (h : (I.put a o) b = some o') : (b = a ∧ o' = o) ∨ I b = some o' := by
  unfold Im.put at h
  by_cases q : b = a
  · rw [if_pos q] at h; exact .inl ⟨q, (Option.some.inj h).symm⟩
  · rw [if_neg q] at h; exact .inr h
theorem Inv.allocI {c : Cx} {I : Im} {as : As} {H : List O} {s : Shared} (J : Inv c I as H s) {a : Addr} {o : Obj} {h' : Heap} (k : Nat) (ha : s.heap.objs.size ≤ a) (hz : s.heap.objs.size ≤ h'.objs.size) (hk : ∀ b o, s.heap.get? b = some o → h'.get? b = some o) (ho : h'.get? a = some o) :
    Inv c (I.put a o) as H { s with heap := h', toks := k } := by
  have hle := Im.put_le (o := o) (fresh_off J ha).2
  refine ⟨fun b o' e => ?_, fun b o' e => hle b o' (J.base b o' e), J.len, fun i o' fp e1 e2 => ?_, J.nodup, fun b hb => ?_, fun b hb => Nat.lt_of_lt_of_le (J.lt b hb) hz, J.gens, J.os⟩
  · rcases Im.put_some e with ⟨rfl, rfl⟩ | e
    · exact ho
    · exact hk b o' (J.imm b o' e)
  · have := (J.objs i o' fp e1 e2).mono (I' := I.put a o) (ex := []) (h' := h') hle fun b _ ob e => hk b ob e
    simpa using this
  · unfold Im.put
    rw [if_neg (Nat.ne_of_lt (Nat.lt_of_lt_of_le (J.lt b hb) ha))]; exact J.out b hb
theorem Tr.allocI {c : Cx} {I : Im} {as : As} {H : List O} {s : Shared} (J : Inv c I as H s) (fa : List Addr) {a : Addr} {o : Obj} {h' : Heap} (k : Nat) (ha : s.heap.objs.size ≤ a) (hz : s.heap.objs.size ≤ h'.objs.size) (hk : ∀ b o, s.heap.get? b = some o → h'.get? b = some o) :
    Tr fa I as s (I.put a o) as { s with heap := h', toks := k } := by
  refine ⟨Im.put_le (fresh_off J ha).2, fun b o' e => ?_, ⟨[], by simp⟩, fun _ q => .inl q, fun b o' e _ _ => hk b o' e, hz⟩
  rcases Im.put_some e with ⟨rfl, rfl⟩ | e
  · exact .inr (.inl ha)
  · exact .inl e

/-! a bound method -/
structure BmOk (c : Cx) (K : Frag) (name : Str) : Prop extends MethOk c K name c.fnRead where
  get : specialIn K (.ref c.fnRead) "__get__" = some (some (.builtin "function.__get__"))
  tak : takesIn K (.ref c.fnRead) = some false
  cop : copiedNames.contains name = false
  hasd : hasDictIn K c.cls = true
def eBm (nl : List Nat) (f : Ef) : Ef := fun lo H => bnd (f lo H) fun v H1 => match v with
  | .ref i => ob (asInst H1 i) fun es => match getA nl es with
    | none => some (.bm i, H1)
    | some _ => none
  | _ => none
theorem ET.bmeth {c : Cx} {K : Frag} (X : ClsOk c K) {n : Nat} {sc : Scope} {y name : Str} {p pos : Pos} {nl : List Nat} {f : Ef} (B : BmOk c K name) (hf : ET c n sc (.Name y p) f) (hx : name = ⟨nl.toArray⟩) : ET c n sc (.Attribute (.Name y p) name pos) (eBm nl f) := by
  subst hx
  intro env lo I as H s he L J v H' hr A hA
  obtain ⟨w, H1, e1, hr⟩ := bnd_some hr
  refine Attribute_name ((hf env lo I as H s he L J).use e1 hA fun x s1 I1 as1 T1 J1 R1 => ?_)
  cases w with
  | ref i =>
    obtain ⟨us, q1, hr⟩ := ob_some hr
    cases q2 : getA nl us with
    | some => rw [q2] at hr; cases hr
    | none =>
      rw [q2] at hr; cases hr
      cases R1 with
      | @ref _ ad fp ha => cases J1.obj ha (asInst_some q1) with
        | @inst _ d ds nn sl _ e ed r hl nd =>
          have hl0 : lookIn ⟨nl.toArray⟩ { cls := .type "dict", data := .dict ds.toArray nn, slots := sl } = some none := by
            unfold lookIn; simp only [getA_none r q2, no_refKey r]; rfl
          refine get_bind (X.at_ J1) (od := some { cls := .type "dict", data := .dict ds.toArray nn, slots := sl }) ⟨e, rfl, rfl, ed⟩ X.hga (findObj_fn B.hasd B.fnd B.get B.tak B.cop hl0) X.hgk
            (wpAny_call (fn_get (s := { s1 with toks := s1.toks + 1 }) (X.at_ (J1.toks _)) B.typ (handed_on rfl ?_)))
          have hz : s1.heap.objs.size ≤ (s1.heap.push (methodObj (.ref c.fnRead) (.ref ad))).objs.size := by rw [Heap.size_push]; exact Nat.le_succ _
          have hk : ∀ b o, s1.heap.get? b = some o → (s1.heap.push (methodObj (.ref c.fnRead) (.ref ad))).get? b = some o := fun b o e => Heap.get?_push_of_some _ e
          have ho : (s1.heap.push (methodObj (.ref c.fnRead) (.ref ad))).get? s1.heap.objs.size = some (methodObj (.ref c.fnRead) (.ref ad)) := Heap.get?_push_size _ rfl
          have T2 := Tr.allocI J1 [] (o := methodObj (.ref c.fnRead) (.ref ad)) (s1.toks + 1) (Nat.le_refl _) hz hk
          exact ⟨_, _, T1.trans T2, J1.allocI (s1.toks + 1) (Nat.le_refl _) hz hk ho, .bm (Im.put_at ..) ha⟩
  | _ => cases hr

/-! iter(f, '') -/
namespace KF
theorem kind_iter : builtinKind "iter" = none := by decide +kernel
theorem plain_iter : plainId "iter" = true := by decide +kernel
theorem entry_iter : entryFor table "iter" = some Builtin.«iter» := entryFor_of_tree (by kernel_rfl)
theorem args_iter2 (a b : Value) : argsOk "iter" ⟨[a, b], []⟩ := by unfold argsOk; kernel_rfl
theorem look_method_call : ∃ v, typeLookup (.type "method") "__call__" = pure (some v) := ⟨.builtin "method.__call__", by rw [typeLookup_type, builtinLookup_eq_fast]; kernel_rfl⟩
theorem slot_ci_next : Slot "callable_iterator" "__next__" "callable_iterator.__next__" :=
  .of (owner := "callable_iterator") (n := "__next__") (by rw [typeLookup_type, builtinLookup_eq_fast]; kernel_rfl) (by decide +kernel) (by decide +kernel) (by decide +kernel)
    (by first | exact .inl (by decide +kernel) | exact .inr (by decide +kernel)) (by rw [isSubtype_type]; kernel_rfl)
theorem entry_ci_next : entryFor table "callable_iterator.__next__" = some Builtin.«callable_iterator.__next__» := entryFor_of_tree (by kernel_rfl)
theorem args_ci_next (a : Value) : argsOk "callable_iterator.__next__" ⟨[a], []⟩ := by unfold argsOk; kernel_rfl
theorem slot_ci_iter : Slot "callable_iterator" "__iter__" "callable_iterator.__iter__" :=
  .of (owner := "callable_iterator") (n := "__iter__") (by rw [typeLookup_type, builtinLookup_eq_fast]; kernel_rfl) (by decide +kernel) (by decide +kernel) (by decide +kernel)
    (by first | exact .inl (by decide +kernel) | exact .inr (by decide +kernel)) (by rw [isSubtype_type]; kernel_rfl)
end KF
def pIter : Fp := fun vs H => ob (two' vs) fun p => ob (isB p.1) fun i => ob (isS p.2) fun l => gd (isNil l) (some (.ref H.length, H ++ [.fit i false]))
theorem BS.iter (c : Cx) (n : Nat) : BS c n (.builtin "iter") pIter := by
  intro vs xs I as H s J Rs v H' hr A hA
  obtain ⟨p, h1, hr⟩ := ob_some hr
  obtain ⟨i, h2, hr⟩ := ob_some hr
  obtain ⟨l, h3, hr⟩ := ob_some hr
  obtain ⟨h4, hr⟩ := gd_some hr
  cases hr
  rw [two'_some h1, isB_some h2, isS_some h3, isNil_ok h4] at Rs
  obtain ⟨xa, xb, rfl, R1, R2⟩ := all2_2 Rs
  obtain ⟨b, a, fp, rfl, hb, ha⟩ := vr_bm R1
  obtain ⟨t, rfl, _⟩ := vr_str R2
  obtain ⟨mv, hmv⟩ := KF.look_method_call
  refine Calls.call_function_entry KF.kind_iter KF.plain_iter KF.entry_iter (KF.args_iter2 _ _) ?_
  unfold Builtin.«iter»
  refine wpAny_bind (m := someArgs "iter" 1 2 _) (wpAny_of_eq (a := [Value.ref b, .str ⟨([] : List Nat).toArray⟩ t]) (by first | rfl | kernel_rfl) ?_)
  refine wpAny_bind (wpAny_specialOf (T := "method") ⟨_, J.imm _ _ hb, rfl⟩ hmv ?_)
  show wpAny _ _ (rule "iter.sentinel" >>= _) _ _ _
  refine wpAny_bind (wpAny_rule (wpAny_bind (wpAny_newObj_type ?_ (by size_fits))))
  refine wpAny_pure ⟨_, rfl, I, _, Tr.alloc _ _ _ _ _ s.toks, J.alloc _ _ s.toks rfl (.fit (b := b) (t := t) ?_ (.bm hb (getElem?_append_some ha))), J.newRef _⟩
  rw [Heap.get?_push_size _ rfl]

end
end Mine
-- part M21.lean
set_option autoImplicit false
set_option maxRecDepth 100000
set_option linter.unusedVariables false
namespace Mine
open PySem PySem.W PyProof.Rows
noncomputable section

namespace KF
theorem entry_ci_iter : entryFor table "callable_iterator.__iter__" = some Builtin.«dict_keyiterator.__iter__» := entryFor_alias (id' := "dict_keyiterator.__iter__") (by kernel_rfl) rfl (by decide +kernel) (by kernel_rfl)
theorem args_ci_iter (a : Value) : argsOk "callable_iterator.__iter__" ⟨[a], []⟩ := by unfold argsOk; kernel_rfl
end KF
/-! the iterator that calls -/
def asFit (H : List O) (k : Nat) : Option (Nat × Bool) := O.casesOn (nth .dead H k) none (fun _ => none) (fun _ => none) (fun _ => none) (fun _ => none) (fun i b => some (i, b)) (fun _ => none)
theorem asFit_some {H : List O} {i j : Nat} {b : Bool} (h : asFit H i = some (j, b)) : H[i]? = some (.fit j b) := by
  unfold asFit at h
  cases e : nth .dead H i <;> rw [e] at h <;> cases h
  exact nth_dead e (fun q => O.noConfusion q)
def fitNext (P : Fp) (k : Nat) (H : List O) : Option (Option V × List O) := ob (asFit H k) fun p => match p.2 with
  | true => some (none, H)
  | false => bnd (P [.ref p.1] H) fun v H1 => ob (isS v) fun l => ob (asFit H1 k) fun p' => match p'.2 with
    | true => none
    | false => match isCons l with
      | false => some (none, H1.set k (.fit p'.1 true))
      | true => some (some (.str l), H1)

theorem wpAny_callBorrowed {M : Model} {A : Around} {E : Value → Shared → Prop} {s : Shared} {f : Value} {pos : List Value} {Q : Value → Shared → Prop} (hc : codeAny M A (.call f ⟨pos, []⟩) (fun r s' => match r with | .ok (.ret v) => Q v s' | .ok _ => False | .error e => E e s') s) : wpAny M A (callBorrowed f pos) Q E s := fun Γ p hΓ => by
  obtain ⟨r, s', hr, h⟩ := hc _ p rfl (hΓ.enter (.call f ⟨pos, []⟩) none p (by intro x; cases x))
  refine ⟨r, s', hr, ?_⟩
  rcases r with e | (v | _ | _ | _) <;> first | exact h | exact False.elim h

theorem stop_run {α : Type} {c : Cx} {A A' : Around} {s : Shared} {Q : Option Value → Shared → Prop} {E : Value → Shared → Prop} (hh : A.handled = none) (hQ : ∀ h', (∀ b o, s.heap.get? b = some o → h'.get? b = some o) → s.heap.objs.size ≤ h'.objs.size → Q none { s with heap := h' }) :
    wpAny (model c.prog c.w) A (Builtin.SmallTypes.stopIteration : Sem α) (fun _ _ => False) (fun e s' => wpAny (model c.prog c.w) A' (isInstance e (.type "StopIteration") >>= fun b => if b = true then pure none else throw e) Q E s') s := by
  show wpAny _ _ (newExc (.type "StopIteration") [] >>= _) _ _ _
  refine wpAny_bind ?_
  simp only [newExc, newTuple]
  refine wpAny_bind (wpAny_newObj_type ?_ (by size_fits))
  refine wpAny_bind (m := firstArgMember _ _) (wpAny_of_eq (a := Value.none) (by first | rfl | (simp only [firstArgMember]; rfl)) ?_)
  refine wpAny_newObj_type ?_ (by size_fits)
  simp only [raiseNew]
  refine wpAny_bind (wpAny_handled ?_)
  rw [show A.handled = none from hh]
  refine wpAny_bind (wpAny_pure (wpAny_throw ?_))
  refine wpAny_bind (wpAny_isInstance (T := "StopIteration") (b := true) ⟨_, Heap.get?_push_size _ rfl, rfl⟩ isSubtype_stop ?_)
  exact wpAny_pure (hQ _ (fun b o e => Heap.get?_push_of_some _ (Heap.get?_push_of_some _ e)) (by rw [Heap.size_push, Heap.size_push]; omega))

theorem fit_next {c : Cx} {n : Nat} {P : Fp} (hP : FnC c n c.fnRead P) {I : Im} {as : As} {H H' : List O} {s : Shared} {k : Nat} {a : Addr} {fp : List Addr} {ov : Option V} (J : Inv c I as H s) (ha : as[k]? = some (a :: fp)) (hr : fitNext P k H = some (ov, H')) {A : Around} (hA : Rm (n + 1) A) {Q : Option Value → Shared → Prop}
    (hQ : ∀ r s' I' as', Tr [] I as s I' as' s' → Inv c I' as' H' s' → NextR c I' as' ov r → Q r s') : wpAny (model c.prog c.w) A (pyNext (.ref a)) Q (fun _ _ => False) s := by
  obtain ⟨⟨i, b⟩, q1, hr⟩ := ob_some hr
  have O1 := J.obj ha (asFit_some q1)
  unfold pyNext
  cases b with
  | true =>
    cases hr
    obtain ⟨rfl, e⟩ := or_over O1
    · refine wpAny_bind (wpAny_attempt (wpAny_callSpecial?_slot (name := Str.ofString "__next__") ⟨_, e, rfl⟩ KF.slot_ci_next
        (wpAny_call_entry KF.slot_ci_next ⟨_, e, rfl⟩ KF.entry_ci_next ?_ (KF.args_ci_next _))))
      unfold Builtin.«callable_iterator.__next__»
      refine wpAny_bind (wpAny_of_eq (a := (Value.ref a, ([] : List Value))) (by first | rfl | kernel_rfl) ?_)
      refine wpAny_bind (wpAny_field e rfl (x := .bool true) rfl ?_)
      show wpAny _ _ (rule _ >>= _) _ _ _
      refine wpAny_bind (wpAny_rule (wpAny_bind (wpAny_mono (stop_run (c := c) (s := s) (Q := Q) (A' := A) (E := fun _ _ => False) hA.handled fun h' hk hz => ?_) (fun _ _ f => False.elim f) fun _ _ q => q)))
      exact hQ none _ I as (Tr.grow [] I as s s.toks hz hk) (J.grow s.toks hz hk) trivial
  | false =>
    obtain ⟨v, H1, e1, hr⟩ := bnd_some hr
    obtain ⟨b, t, rfl, e, r⟩ := or_fit O1
    obtain ⟨b_, x, fp', hbb, hb, hx⟩ := vr_bm r
    cases hbb
    · · refine wpAny_bind (wpAny_attempt (wpAny_callSpecial?_slot (name := Str.ofString "__next__") ⟨_, e, rfl⟩ KF.slot_ci_next
          (wpAny_call_entry KF.slot_ci_next ⟨_, e, rfl⟩ KF.entry_ci_next ?_ (KF.args_ci_next _))))
        unfold Builtin.«callable_iterator.__next__»
        refine wpAny_bind (wpAny_of_eq (a := (Value.ref a, ([] : List Value))) (by first | rfl | kernel_rfl) ?_)
        refine wpAny_bind (wpAny_field e rfl (x := .bool false) rfl ?_)
        rw [if_neg (by decide)]
        refine wpAny_bind (wpAny_field e rfl (x := .ref b) rfl ?_)
        obtain ⟨of, fd, hf1, hf2⟩ := hP.fn
        have borrows : ∀ {A : Around} {E : Value → Shared → Prop} {s' : Shared} {Q : Bool → Shared → Prop}, s'.heap.get? b = some { cls := .type "method", data := .fields #[.ref c.fnRead, .ref x] } → s'.heap.get? c.fnRead = some of → Q true s' → wpAny (model c.prog c.w) A (borrowsExactly (.ref b)) Q E s' := fun h1 h2 h3 => by
          unfold borrowsExactly
          refine wpAny_bind (wpAny_load h1 ?_)
          refine wpAny_bind (wpAny_load h2 ?_)
          rw [hf2]
          exact wpAny_pure h3
        refine wpAny_bind (wpAny_attempt (wpAny_bind (borrows (J.imm _ _ hb) (J.imm _ _ (J.base _ _ hf1)) ?_)))
        rw [if_pos rfl]
        refine wpAny_callBorrowed (method_call (J.imm _ _ hb) (codeAny_mono (hP.code [.ref i] [.ref x] I as H s J (.cons (.ref hx) .nil) v H1 e1 _ hA.in1) fun r s1 q => ?_))
        cases r with
        | error => exact q.elim
        | ok f => cases f with
          | ret z =>
            obtain ⟨I1, as1, T1, J1, R1⟩ := q
            obtain ⟨ex, hex⟩ := T1.pre
            have ha1 : as1[k]? = some [a] := by rw [hex]; exact getElem?_append_some ha
            obtain ⟨l, q0, hr⟩ := ob_some hr
            obtain ⟨⟨i', b'⟩, q2, hr⟩ := ob_some hr
            rw [isS_some q0] at R1
            obtain ⟨u, rfl, hl⟩ := vr_str R1
            cases b' with
            | true => cases hr
            | false =>
            obtain ⟨b2, t2, _, e2, r2⟩ := or_fit (J1.obj ha1 (asFit_some q2))
            cases l with
            | cons ch l =>
              cases hr
              refine wpAny_bind (wpAny_field e2 rfl (x := .bool false) rfl ?_)
              rw [if_neg (by decide)]
              refine wpAny_bind (wpAny_field e2 rfl (x := .str ⟨#[]⟩ t2) rfl (wpAny_bind (wpAny_holding (eqBool_str ?_))))
              refine wpAny_pure ⟨_, rfl, ?_⟩
              exact wpAny_pure (hQ _ s1 I1 as1 T1 J1 (.str u hl))
            | nil =>
              cases hr
              obtain ⟨b_2, x2, fp2, hbb2, hb2, hx2⟩ := vr_bm r2
              cases hbb2
              · · · have borrows2 : ∀ {A : Around} {E : Value → Shared → Prop} {s' : Shared} {Q : Bool → Shared → Prop}, s'.heap.get? b2 = some { cls := .type "method", data := .fields #[.ref c.fnRead, .ref x2] } → s'.heap.get? c.fnRead = some of → Q true s' → wpAny (model c.prog c.w) A (borrowsExactly (.ref b2)) Q E s' := fun h1 h2 h3 => by
                      unfold borrowsExactly
                      refine wpAny_bind (wpAny_load h1 ?_)
                      refine wpAny_bind (wpAny_load h2 ?_)
                      rw [hf2]
                      exact wpAny_pure h3
                    refine wpAny_bind (wpAny_field e2 rfl (x := .bool false) rfl ?_)
                    rw [if_neg (by decide)]
                    refine wpAny_bind (wpAny_field e2 rfl (x := .str ⟨#[]⟩ t2) rfl (wpAny_bind (wpAny_holding (eqBool_str ?_))))
                    show wpAny _ _ (rule _ >>= _) _ _ _
                    refine wpAny_bind (wpAny_rule (wpAny_bind ?_))
                    show wpAny _ _ (field (.ref a) 0 >>= fun old => slotLetsGo "callable_iterator.__next__" old _ >>= fun _ => setField (.ref a) 0 .none >>= fun _ => setField (.ref a) 1 .none >>= fun _ => setField (.ref a) 2 (.bool true)) _ _ _
                    refine wpAny_bind (wpAny_field e2 rfl (x := .ref b2) rfl (wpAny_bind ?_))
                    unfold slotLetsGo
                    refine wpAny_bind (borrows2 (J1.imm _ _ hb2) (J1.imm _ _ (J1.base _ _ hf1)) ?_)
                    rw [if_pos rfl]
                    refine wpAny_pure ?_
                    refine wpAny_bind (wpAny_setField_rec e2 (Nat.le_of_ble_eq_true rfl) fun h3 e3 k3 => wpAny_bind (wpAny_setField_rec (s := { s1 with heap := h3 }) e3 (Nat.le_of_ble_eq_true rfl) fun h4 e4 k4 => wpAny_setField_rec (s := { s1 with heap := h4 }) e4 (Nat.le_of_ble_eq_true rfl) fun h5 e5 k5 => ?_))
                    have hs : Heap.SameBut a s1.heap h5 := ⟨k5.1.trans (k4.1.trans k3.1), fun b hb => (k5.2 b hb).trans ((k4.2 b hb).trans (k3.2 b hb))⟩
                    refine wpAny_mono (stop_run (c := c) (s := { s1 with heap := h5 }) (Q := Q) (A' := A) (E := fun _ _ => False) hA.handled fun h' hk hz => ?_) (fun _ _ f => False.elim f) fun _ _ q => q
                    have J2 := J1.set (o' := .fit i' true) s1.toks ha1 (b := a) (by simp) hs (.over e5)
                    have T2 := Tr.set (fa := []) I1 as1 s1 s1.toks (mem_flat ha1) hs
                    exact hQ none _ I1 as1 (T1.trans (T2.trans (Tr.grow [] I1 as1 { s1 with heap := h5 } s1.toks hz hk))) (J2.grow s1.toks hz hk) trivial
          | _ => exact q.elim

theorem fit_iter {c : Cx} {I : Im} {as : As} {H : List O} {s : Shared} {k : Nat} {a : Addr} {fp : List Addr} {p : Nat × Bool} (J : Inv c I as H s) (ha : as[k]? = some (a :: fp)) (hk : asFit H k = some p) {A : Around} {Q : Value → Shared → Prop} {E : Value → Shared → Prop} (h : Q (.ref a) s) : wpAny (model c.prog c.w) A (pyIter (.ref a)) Q E s := by
  have hT : s.TypeIs (.ref a) "callable_iterator" := by
    obtain ⟨i, b⟩ := p
    cases b with
    | false => cases J.obj ha (asFit_some hk) with
      | fit e r => exact ⟨_, e, rfl⟩
    | true => cases J.obj ha (asFit_some hk) with
      | over e => exact ⟨_, e, rfl⟩
  refine wpAny_pyIter_slot hT KF.slot_ci_iter (wpAny_call_entry KF.slot_ci_iter hT KF.entry_ci_iter ?_ (KF.args_ci_iter _))
  show wpAny _ _ (ret (.ref a)) _ _ s
  exact wpAny_pure ⟨_, rfl, "callable_iterator", _, hT, KF.slot_ci_next.lookup, h⟩

/-! for over it -/
def fitL (P : Fp) (i k : Nat) (b : Sf) (n : Nat) : Sf := Nat.rec (fun _ _ => none) (fun _ ih lo H => bnd (fitNext P k H) fun ov H1 => match ov with
    | none => some ((.next, lo), H1)
    | some v => setL lo i v fun l => bnd (b l H1) fun r H2 => match r with
      | (.next, lo2) => ih lo2 H2
      | (.cont, lo2) => ih lo2 H2
      | (.brk, lo2) => some ((.next, lo2), H2)
      | (.ret w, lo2) => some ((.ret w, lo2), H2)) n
def sForF (P : Fp) (i : Nat) (f : Ef) (b : Sf) (fuel : Nat) : Sf := fun lo H => bnd (f lo H) fun v H1 => match v with
  | .ref k => ob (asFit H1 k) fun _ => fitL P i k b fuel lo H1
  | _ => none
abbrev GInv (c : Cx) (env : Env) (P : Fp) (i k : Nat) (f : Sf) (r : Fl × List V) (H' : List O) (I : Im) (as : As) (s : Shared) : Nat → Shared → Prop := fun m s' => ∃ lo1 I2 as2 H2, Tr (fAddrs env) I as s I2 as2 s' ∧ Inv c I2 as2 H2 s' ∧ LR c env lo1 I2 as2 s' ∧ fitL P i k f m lo1 H2 = some (r, H')
theorem ST.forF {c : Cx} {n : Nat} {sc : Scope} {x : Str} {p pos : Pos} {e : Expr} {b : List Stmt} {i : Nat} {P : Fp} {g : Ef} {f : Sf} (fuel : Nat) (hP : FnC c n c.fnRead P) (hs : SN c sc x i) (hg : ET c (n + 1) sc e g) (hf : SS c (n + 1) sc b f)
    (hfs : ∀ env x, foldedSetIterable e env x = pure x) : ST c (n + 1) sc (.For (.Name x p) e b [] pos) (sForF P i g f fuel) := by
  intro env lo I as H s he L J r H' hr A hA
  obtain ⟨w, H1, e1, hr⟩ := bnd_some hr
  refine wpAny_For ((hg env lo I as H s he L J).use e1 hA fun xv s1 I1 as1 T1 J1 R1 => ?_) (hfs env)
  cases w with
  | ref k =>
    obtain ⟨pp, q1, hr⟩ := ob_some hr
    cases R1 with
    | @ref _ a fp ha =>
      refine fit_iter J1 ha q1 ?_
      refine codeAny_forLoop (GInv c env P i k f r H' I1 as1 s1) ?_ fuel ⟨lo, I1, as1, H1, Tr.refl .., J1, L.tr T1, hr⟩ (by intro _; rfl)
      rintro m s3 ⟨lo3, I3, as3, H3, T3, J3, L3, hm⟩
      cases m with
      | zero => cases hm
      | succ m =>
        obtain ⟨ov, H4, e2, hm⟩ := bnd_some hm
        obtain ⟨ex, hex⟩ := T3.pre
        refine noNote (fit_next hP J3 (by rw [hex]; exact getElem?_append_some ha) e2 hA fun r' s4 I4 as4 T4 J4 hN => ?_)
        have L4 := L3.tr T4
        cases ov with
        | none => cases r' with
          | some => exact hN.elim
          | none =>
            cases hm
            exact wpAny_execs_nil ⟨I4, as4, T1.nil.trans (T3.trans T4.nil), J4, .next, L4⟩
        | some v => cases r' with
          | none => exact hN.elim
          | some val =>
            refine wpAny_assign_Name (hs env lo3 I4 as4 H4 s4 v val he L4 J4 hN A _ _ fun s5 T5 J5 L5 => ?_)
            have hm := (setL_eq _ _ _ _).symm.trans hm
            obtain ⟨⟨fl, lo6⟩, H6, e3, hm⟩ := bnd_some hm
            refine noNote ((hf env _ I4 as4 H4 s5 he L5 J5).use e3 hA fun x6 s6 I6 as6 T6 J6 R6 => ?_)
            obtain ⟨R6, L6⟩ := R6
            have T : Tr (fAddrs env) I1 as1 s1 I6 as6 s6 := T3.trans (T4.nil.trans (T5.trans T6))
            cases R6 with
            | next => exact ⟨m, Nat.lt_succ_self _, lo6, I6, as6, H6, T, J6, L6, hm⟩
            | cont => exact ⟨m, Nat.lt_succ_self _, lo6, I6, as6, H6, T, J6, L6, hm⟩
            | brk => cases hm; exact ⟨I6, as6, T1.nil.trans T, J6, .next, L6⟩
            | ret h => cases hm; exact ⟨I6, as6, T1.nil.trans T, J6, .ret h, L6⟩
  | _ => cases hr

end
end Mine
-- part M22.lean
set_option autoImplicit false
set_option maxRecDepth 100000
set_option linter.unusedVariables false
namespace Mine
open PySem PySem.W PyProof.Rows
noncomputable section

/-! the closure that reads -/
structure CloDef where
  name : Str
  qual : Str
  params : Arguments
  body : List Stmt
  scope : Scope
def CloDef.fd (d : CloDef) (cl : Addr) (doc pm : Value) (c' : Addr) (ctv : Value) : FuncData := fnX d.name d.qual d.params d.body d.scope [("left", cl)] .none .none doc pm none (.ref c') ctv
def CloDef.rel (d : CloDef) (I : Im) (f cl : Addr) : Prop :=
  ∃ doc pm c' ctv oc vs t, I f = some { cls := .type "function", data := .func (d.fd cl doc pm c' ctv) } ∧ I c' = some oc ∧ oc.data = .fields vs ∧ vs[1]? = some (.str d.qual t)
theorem CloDef.mono (d : CloDef) (I I' : Im) (f l : Addr) (h : ImLe I I') (x : d.rel I f l) : d.rel I' f l := by
  obtain ⟨doc, pm, c', ctv, oc, vs, t, h1, h2, h3⟩ := x
  exact ⟨doc, pm, c', ctv, oc, vs, t, h _ _ h1, h _ _ h2, h3⟩
structure CloOk (d : CloDef) : Prop where
  kind : d.scope.kind = .function
  co : d.scope.isCoroutine = false
  gen : d.scope.isGenerator = false
  nocell : ∀ x ∈ d.scope.names, x.2 ≠ .cell
  lk : d.scope.names.lookup ("left" : Str) = some .free
  lp : d.scope.names.lookup ("size" : Str) = some .local
  bind : ∀ cl doc pm c' ctv x, bindArgs (d.fd cl doc pm c' ctv) ⟨[x], []⟩ = pure [(("size" : Str), x)]
  body : ∃ p1 p2 p3 p4 p5 p6 p7 p8 k1 k2, d.body = [.Return (some (.IfExp (.Name "left" p1) (.Call (.Attribute (.Name "left" p2) "pop" p3) [.Constant (.int 0) k1 p4] [] p5) (.Constant (.str "") k2 p6) p7)) p8] ∧
    ∀ env, ∃ pl, eval (.Call (.Attribute (.Name "left" p2) "pop" p3) [.Constant (.int 0) k1 p4] [] p5) env = (do
        let ov ← eval (.Name "left" p2) env
        standAt p3.atName
        let (f, first) ← holding [ov] (getMethod ov "pop" pl)
        callWith p5 f first (backTo p5 (starEach [.Constant (.int 0) k1 p4] env)) [])

def cloCall (j : Nat) (H : List O) : Option (V × List O) := ob (asList H j) fun xs => match xs with
  | [] => some (.str [], H)
  | v :: r => some (v, H.set j (.list r))

theorem clo_call {c : Cx} {d : CloDef} (D : CloOk d) (hcd : c.clo = d.rel) {I : Im} {as : As} {H H' : List O} {s : Shared} {j : Nat} {y x : Value} {v : V} (J : Inv c I as H s) (R : VR c I as (.clo j) y) (hr : cloCall j H = some (v, H')) {A : Around} (hA : Rm 1 A)
    {Q : Value → Shared → Prop} (hQ : ∀ z s' I' as', Tr [] I as s I' as' s' → Inv c I' as' H' s' → VR c I' as' v z → Q z s') :
    wpAny (model c.prog c.w) A (call y [x]) Q (fun _ _ => False) s := by
  cases R with
  | @clo _ f cl l fp ocl h hc hcdat hl =>
    rw [hcd] at h
    obtain ⟨doc, pm, c', ctv, oc, vs, t, h1, h2, h3, h4⟩ := h
    obtain ⟨us, q1, hr⟩ := ob_some hr
    refine wpAny_call (codeAny_call_function hA.room (J.imm _ _ h1) rfl D.co D.gen rfl ⟨c', oc, vs, t, rfl, J.imm _ _ h2, h3, h4⟩ ?_)
    rw [show bindArgs _ ⟨[x], []⟩ = pure [(("size" : Str), x)] from D.bind cl doc pm c' ctv x]
    refine wpAny_pure (wpAny_newFunctionEnv (scope := d.scope) D.nocell (by intro z hz; simp at hz; subst hz; exact D.lp) (fun h' hn hs => ?_) D.kind)
    have hk : ∀ b o, s.heap.get? b = some o → h'.get? b = some o := fun b o e => (hs.2 b (Nat.ne_of_lt (Heap.lt_size e))).trans (Heap.get?_push_of_some _ e)
    have hz : s.heap.objs.size ≤ h'.objs.size := by rw [hs.1, Heap.size_push]; exact Nat.le_succ _
    have J1 := J.grow (s.toks + 1) hz hk
    have T1 := Tr.grow [] I as s (s.toks + 1) hz hk
    refine ⟨J1.nolim, codeAny_func ?_⟩
    have hA1 := hA.deeper (newEnv d.scope s.heap.objs.size mainGlobals [(("left" : Str), cl)] (d.qual ++ ".<locals>.") (some f) (.ref c') none builtinsNs)
    show wpAny _ (A.deeper (newEnv d.scope s.heap.objs.size mainGlobals [(("left" : Str), cl)] (d.qual ++ ".<locals>.") (some f) (.ref c') none builtinsNs)) (execs d.body (newEnv d.scope s.heap.objs.size mainGlobals [(("left" : Str), cl)] (d.qual ++ ".<locals>.") (some f) (.ref c') none builtinsNs)) _ _ _
    generalize henv : newEnv d.scope s.heap.objs.size mainGlobals [(("left" : Str), cl)] (d.qual ++ ".<locals>.") (some f) (.ref c') none builtinsNs = env at hA1 ⊢
    have hsc : env.scope = d.scope := by rw [← henv]; rfl
    have hce : env.cells = [(("left" : Str), cl)] := by rw [← henv]; rfl
    have nameL : ∀ {p : Pos} {A' : Around} {I' : Im} {as' : As} {H2 : List O} {s' : Shared} {Q' : Value → Shared → Prop}, Inv c I' as' H2 s' → ImLe I I' → Q' (.ref l) s' → wpAny (model c.prog c.w) A' (eval (.Name "left" p) env) Q' (fun _ _ => False) s' := fun J' hle h => by
      refine wpAny_Name (wpAny_loadName_free (by rw [hsc]; exact D.kind) (by show env.scope.names.lookup _ = _; rw [hsc]; exact D.lk) (by rw [hce]; rfl) ⟨_, J'.imm _ _ (hle _ _ hc), hcdat⟩ h) (by decide)
    obtain ⟨p1, p2, p3, p4, p5, p6, p7, p8, k1, k2, hbody, hmeth⟩ := D.body
    rw [hbody]
    have Rl : VR c I as (.ref j) (.ref l) := .ref hl
    refine wpAny_mono (Q := fun fl s' => ∃ z I' as', fl = .ret z ∧ Tr [] I as s I' as' s' ∧ Inv c I' as' H' s' ∧ VR c I' as' v z) (E := fun _ _ => False) ?_ (fun fl s' ⟨z, I', as', e, T, J', R'⟩ => by subst e; exact hQ z s' I' as' T J' R') (fun _ _ q => q.elim)
    refine wpAny_execs_cons (wpAny_Return_some (IfExp_ (isTrue_plain (nameL J1 (fun _ _ e => e) ?_) rfl)))
    have ht : truth (.ref j) H = some (isCons us, H) := by
      show (match asList H j with | some xs => some (isCons xs, H) | none => _) = _
      rw [q1]
    refine (truth_sound c 0 (.ref j) (.ref l) I as H _ J1 Rl).use ht (hA1.le (Nat.zero_le _)) fun b s2 I2 as2 T2 J2 R2 => ?_
    cases R2
    cases us with
    | nil =>
      cases hr
      rw [if_neg (by decide)]
      exact Calls.Constant_str ⟨_, I2, as2, rfl, T1.trans (T2.trans (Tr.toks ..)), J2.toks _, .str (l := []) _ (by show 0 ≤ 1000000; decide)⟩
    | cons w r =>
      cases hr
      rw [if_pos (by rfl)]
      have Rl2 := (Rl.tr T1).tr T2
      obtain ⟨pl, heq⟩ := hmeth env
      refine MethodCall_ (pl := pl) (nameL J2 T2.imm ((MS.pop c 0).get (.ref j) (.ref l) I2 as2 H s2 J2 Rl2 (by show (asList H j).isSome = true; rw [q1]; rfl) _ _ _ _ ?_)) heq
      refine Calls.callWith_builtin (noStar rfl) (evalArgs_any (noStar rfl) (args_cons (wpAny_Constant_int (args_nil ?_)) rfl))
      have hp : mPop (.ref j) [.int 0] H = some (v, H.set j (.list r)) := by
        show (ob (asList H j) fun xs => popAt j 0 xs H) = _
        rw [q1]; rfl
      refine ((MS.pop c 0).run (.ref j) (.ref l) [.int 0] [.int 0 _] I2 as2 H _ (J2.toks (s2.toks + 1)) Rl2 (.cons (.int _ _) .nil)).use hp (hA1.le (Nat.zero_le _)) fun z s3 I3 as3 T3 J3 R3 => ?_
      exact ⟨z, I3, as3, rfl, T1.trans (T2.trans ((Tr.toks [] I2 as2 s2 (s2.toks + 1)).trans T3)), J3, R3⟩

/-- self.instream.read(1): a field that holds the closure is called -/
def eMethC (nl : List Nat) (f g : Ef) : Ef := fun lo H => bnd (f lo H) fun o H1 => match o with
  | .ref i => ob (asInst H1 i) fun es => ob (getA nl es) fun w => match w with
    | .clo j => bnd (g lo H1) fun _ H2 => cloCall j H2
    | _ => none
  | _ => none
theorem ET.methC {c : Cx} {K : Frag} (X : ClsOk c K) {d : CloDef} (D : CloOk d) (hcd : c.clo = d.rel) {n : Nat} {sc : Scope} {o e : Expr} {name : Str} {apos pos : Pos} {nl : List Nat} {f g : Ef} (hx : name = ⟨nl.toArray⟩) (no : findIn K (.ref c.cls) name = some none)
    (hf : ET c (n + 1) sc o f) (hg : ET c (n + 1) sc e g) (hn : ([e].all plainArg) = true) (hs : ∀ env, starEach [e] env = (false, eval e env) :: starEach [] env)
    (he : ∀ env, ∃ pl, eval (.Call (.Attribute o name apos) [e] [] pos) env = (do
      let ov ← eval o env
      standAt apos.atName
      let (f, first) ← holding [ov] (getMethod ov name pl)
      callWith pos f first (backTo pos (starEach [e] env)) [])) :
    ET c (n + 1) sc (.Call (.Attribute o name apos) [e] [] pos) (eMethC nl f g) := by
  intro env lo I as H s hE L J v H' hr A hA
  obtain ⟨w, H1, e1, hr⟩ := bnd_some hr
  obtain ⟨pl, heq⟩ := he env
  refine MethodCall_ (pl := pl) ((hf env lo I as H s hE L J).use e1 hA fun x s1 I1 as1 T1 J1 R1 => ?_) heq
  cases w with
  | ref i =>
    obtain ⟨us, q1, hr⟩ := ob_some hr
    obtain ⟨w, q2, hr⟩ := ob_some hr
    cases w with
    | clo j =>
      obtain ⟨u, H2, e2, hr⟩ := bnd_some hr
      have R0 := R1
      cases R1 with
      | @ref _ ad fp ha => cases J1.obj ha (asInst_some q1) with
        | @inst _ dd ds nn sl _ e ed r hl nd =>
          refine method_usual (X.at_ J1) (od := some { cls := .type "dict", data := .dict ds.toArray nn, slots := sl }) ⟨e, rfl, rfl, ed⟩ X.hga X.hgk no rfl ?_
          refine attr_get X J1 R0 hx no q1 q2 fun y s2 T2 J2 R2 => ?_
          have R2' := R2
          cases R2 with
          | @clo _ fa cl l fp' ocl h hc hcdat hl' =>
            have h' := h
            rw [hcd] at h'
            obtain ⟨doc, pm, c', ctv, oc, vs, t, h1, _⟩ := h'
            refine Calls.callWith_function (o := _) (fd := _) (evalArgs_any (noStar hn) (args_cons ((hg env lo I1 as1 H1 s2 hE ((L.tr T1).tr T2) J2).use e2 hA fun z s3 I3 as3 T3 J3 R3 => args_nil ⟨⟨J3.imm _ _ (T3.imm _ _ h1), rfl⟩, ?_⟩) (hs env)))
            exact clo_call D hcd J3 (R2'.tr T3) hr (hA.le (Nat.succ_le_succ (Nat.zero_le _))) fun z s4 I4 as4 T4 J4 R4 => ⟨I4, as4, T1.trans (T2.trans (T3.trans T4)), J4, R4⟩
    | _ => cases hr
  | _ => cases hr

end
end Mine
-- part M23.lean
set_option autoImplicit false
set_option maxRecDepth 100000
set_option linter.unusedVariables false
namespace Mine
open PySem PySem.W PyProof.Rows
noncomputable section

def CloDef.tabR (d : CloDef) (pos : Pos) (I : Im) (m : Bool) (o : Obj) : Prop := match m with
  | false => o = tabObj #[]
  | true => ∃ ps c' oc vs t, o = tabObj ps ∧ TriplesOk ps.toList ∧ codeAmong pos ps.toList = some (.ref c') ∧ I c' = some oc ∧ oc.data = .fields vs ∧ vs[1]? = some (.str d.qual t)
theorem CloDef.tabMono (d : CloDef) (pos : Pos) (I I' : Im) (m : Bool) (o : Obj) (h : ImLe I I') (x : d.tabR pos I m o) : d.tabR pos I' m o := by
  cases m with
  | false => exact x
  | true => obtain ⟨ps, c', oc, vs, t, h1, h2, h3, h4, h5⟩ := x; exact ⟨ps, c', oc, vs, t, h1, h2, h3, h _ _ h4, h5⟩

theorem Inv.step {c : Cx} {I I' : Im} {as : As} {H : List O} {s : Shared} (J : Inv c I as H s) {i : Nat} {fp : List Addr} {b : Addr} {o' : O} {h' : Heap} (k : Nat) (ha : as[i]? = some fp) (hb : b ∈ fp) (hle : ImLe I I') (himm : Ext I' h') (hout : ∀ a ∈ as.flatten, I' a = none)
    (hk : ∀ x o, x ≠ b → s.heap.get? x = some o → h'.get? x = some o) (hz : s.heap.objs.size ≤ h'.objs.size) (hr : OR c I' as h' o' fp) : Inv c I' as (H.set i o') { s with heap := h', toks := k } := by
  refine ⟨himm, fun x o e => hle x o (J.base x o e), by rw [List.length_set]; exact J.len, fun j o fp' e1 e2 => ?_, J.nodup, hout, fun a h => Nat.lt_of_lt_of_le (J.lt a h) hz, J.gens, J.os⟩
  rw [List.getElem?_set] at e1
  by_cases hij : i = j
  · subst hij
    rw [ha] at e2; cases e2
    rw [if_pos rfl] at e1
    split at e1
    · cases e1; exact hr
    · cases e1
  · rw [if_neg hij] at e1
    have := (J.objs j o fp' e1 e2).mono (I' := I') (ex := []) (h' := h') hle fun a hafp ob e => hk a ob (fun q => hij (flat_inj J.nodup ha e2 hb (q ▸ hafp))) e
    simpa using this

structure LexOk (c : Cx) (d : CloDef) (ca : Addr) (pos : Pos) (fd : FuncData) : Prop where
  clo : c.clo = d.rel
  tab : c.tabR = d.tabR pos
  code : fd.code = .ref ca
  hd : ∀ h, Ext c.base h → CodeHd h ca c.tabAt
  bm : ∀ h, Ext c.base h → h.BuiltinsAt c.mg c.tabAt
  gP : mainGlobals ≠ c.tabAt
  qual : (fd.qualname ++ ".<locals>.") ++ d.name = d.qual
  p1 : d.params.defaults = []
  p2 : d.params.kw_defaults = []
  p3 : ∀ env, annTrees d.params none env = []
  cloFor : ∀ (env : Env) (cl : Addr), env.cells.lookup ("left" : Str) = some cl → closureFor d.scope env = pure [(("left" : Str), cl)]

theorem Im.put_ne (I : Im) {a b : Addr} (o : Obj) (h : b ≠ a) : (I.put a o) b = I b := by unfold Im.put; rw [if_neg h]
theorem nth_unb {lo : List V} {i : Nat} {v : V} (h : nth .unb lo i = v) (hv : v ≠ .unb) : lo[i]? = some v := by
  rw [nth_eq, List.getD_eq_getElem?_getD] at h
  cases e : lo[i]? with
  | none => rw [e] at h; exact absurd h.symm hv
  | some x => rw [e] at h; exact congrArg some h

def lexTail (il is : Nat) (nl : List Nat) (P : Fp) (lo2 : List V) (H2 : List O) : Option ((Fl × List V) × List O) := match nth .unb lo2 il, nth .unb lo2 is, H2 with
  | .ref j, .ref i, .tab _ :: r => ob (setA i nl (.clo j) (.tab true :: r)) fun H3 => bnd (P [.ref H3.length, .ref i] (H3 ++ [.inst []])) fun v H4 => match v with
    | .none => some ((.ret (.ref H3.length), lo2), H4)
    | _ => none
  | _, _, _ => none
def sLex (f1 f2 : Sf) (il is : Nat) (nl : List Nat) (P : Fp) : Sf := fun lo H => bnd (f1 lo H) fun b1 H1 => match b1 with
  | (.next, lo1) => bnd (f2 lo1 H1) fun b2 H2 => match b2 with
    | (.next, lo2) => lexTail il is nl P lo2 H2
    | _ => none
  | _ => none

theorem lex_body {c : Cx} {K : Frag} (X : ClsOk c K) {d : CloDef} {ca aI : Addr} {fd : FuncData} {n : Nat} {sc : Scope} (KS : ScOk sc) {st1 st2 : Stmt} {f1 f2 : Sf} {il is ix ig : Nat} {nl : List Nat} {P : Fp} {pos pos4 pos5 p1 p2 p3 p4 p5 p6 : Pos} {ncls : Str}
    (Lx : LexOk c d ca pos fd) (hP : FnC c n aI P) (hM : MethOk c K "__init__" aI) (hkeep : keepIn K (.ref c.cls) = true) (h1 : ST c (n + 1) sc st1 f1) (h2 : ST c (n + 1) sc st2 f2)
    (hil : sc.names[il]? = some (("left" : Str), .cell)) (his : sc.names[is]? = some (("stream" : Str), .local)) (hix : sc.names[ix]? = some (d.name, .local)) (hig : sc.names[ig]? = some (ncls, .globalImplicit)) (hmg : c.mg ncls = some (.ref c.cls)) (hne : ("stream" : Str) ≠ d.name)
    (hx : ("read" : Str) = ⟨nl.toArray⟩) (hb : nl.length ≤ big) (no : findIn K (.ref c.cls) "read" = some none)
    (hsw : ∀ env, swapsWith (.Name d.name p1) (some (.Attribute (.Name "stream" p2) "read" p3)) pos4.line env = pure false) :
    ∀ env lo I as H s, EOk env sc → env.code = fd.code → env.qual = fd.qualname ++ ".<locals>." → LR c env lo I as s → Inv c I as H s →
      Ho c (n + 1) (fAddrs env) (execs [st1, st2, .FunctionDef d.name d.params d.body [] none [] d.scope none d.name pos, .Assign [.Attribute (.Name "stream" p2) "read" p3] (.Name d.name p1) pos4, .Return (some (.Call (.Name ncls p4) [.Name "stream" p5] [] p6)) pos5] env) (fun I as _ b fl => FlR c I as b.1 fl) I as s (sLex f1 f2 il is nl P lo H) := by
  intro env lo I as H s he hcode hqual L J b H' hr A hA
  obtain ⟨⟨fl1, lo1⟩, H1, e1, hr⟩ := bnd_some hr
  refine wpAny_execs_cons ((h1 env lo I as H s he L J).use e1 hA fun x1 s1 I1 as1 T1 J1 R1 => ?_)
  obtain ⟨R1, L1⟩ := R1
  cases R1 with
  | next =>
    obtain ⟨⟨fl2, lo2⟩, H2, e2, hr⟩ := bnd_some hr
    refine wpAny_execs_cons ((h2 env lo1 I1 as1 H1 s1 he L1 J1).use e2 hA fun x2 s2 I2 as2 T2 J2 R2 => ?_)
    obtain ⟨R2, L2⟩ := R2
    cases R2 with
    | next =>
      have hr : lexTail il is nl P lo2 H2 = some (b, H') := hr
      unfold lexTail at hr
      split at hr
      · rename_i j i m r q1 q2 hr0
        obtain ⟨H3, e3, hr⟩ := ob_some hr
        obtain ⟨v, H4, e4, hr⟩ := bnd_some hr
        cases v <;> cases hr
        -- the frame
        obtain ⟨cl, hcl, cv, hcell, hcv⟩ := L2.cel il "left" .cell (by rw [he.scope]; exact hil) (.inl rfl)
        obtain ⟨lv, rfl, Rl⟩ := hcv (.ref j) (nth_unb q1 (fun q => V.noConfusion q)) (fun q => V.noConfusion q)
        obtain ⟨ml, hns, hml⟩ := L2.loc
        obtain ⟨sv, hsv, Rs⟩ := hml is "stream" (.ref i) (by rw [he.scope]; exact his) (nth_unb q2 (fun q => V.noConfusion q)) (fun q => V.noConfusion q)
        have hclm := mem_snd_of_lookup hcl
        obtain ⟨hcllt, hclf, hclI⟩ := L2.own cl hclm
        obtain ⟨hLlt, hLf, hLI⟩ := L2.own env.locals (by simp [fAddrs])
        have hneL : cl ≠ env.locals := fun q => by
          have := L2.nd
          rw [fAddrs, List.nodup_cons] at this
          exact this.1 (q ▸ List.mem_map.mpr ⟨(_, cl), mem_of_lookup hcl, rfl⟩)
        obtain ⟨oc, hoc, hocd⟩ := hcell
        cases Rl with
        | @ref _ l fp hl =>
        have hkind : env.scope.kind = .function := by rw [he.scope]; exact he.kind
        have lkx : env.kindOf d.name = some .local := by show env.scope.names.lookup _ = _; rw [he.scope]; exact KS.lk hix
        have lks : env.kindOf "stream" = some .local := by show env.scope.names.lookup _ = _; rw [he.scope]; exact KS.lk his
        have hq : qualnameIn env d.name d.name = d.qual := by
          unfold qualnameIn
          rw [lkx, if_neg (by decide), hqual]; exact Lx.qual
        have hE : Ext c.base s2.heap := fun b o e => J2.imm b o (J2.base b o e)
        have has := J2.len
        cases as2 with
        | nil => simp at has
        | cons fp0 ar =>
        have O0 := J2.objs 0 (.tab m) fp0 rfl rfl
        cases O0 with
        | @tab _ ot e0 r0 =>
        -- what follows the def
        have rest : ∀ (fo : Addr) (c' : Addr) (ctv doc : Value) (occ : Obj) (vs : Array Value) (t : Tok) (h3 : Heap) (tk : Tok) (I3 : Im), I3 cl = some oc → I3 fo = some { cls := .type "function", data := .func (d.fd cl doc ((c.mg "__name__").getD .none) c' ctv) } → I3 c' = some occ → occ.data = .fields vs → vs[1]? = some (.str d.qual t) →
            Tr (fAddrs env) I2 ([c.tabAt] :: ar) s2 I3 ([c.tabAt] :: ar) { s2 with heap := h3, toks := tk } → Inv c I3 ([c.tabAt] :: ar) (.tab true :: r) { s2 with heap := h3, toks := tk } → h3.Ns env.locals ml → I3 env.locals = none →
            wpAny (model c.prog c.w) A (storeName env d.name (.ref fo)) (fun _ s' => wpAny (model c.prog c.w) A (execs [.Assign [.Attribute (.Name "stream" p2) "read" p3] (.Name d.name p1) pos4, .Return (some (.Call (.Name ncls p4) [.Name "stream" p5] [] p6)) pos5] env)
              (fun a s' => ∃ I' as', Tr (fAddrs env) I as s I' as' s' ∧ Inv c I' as' H' s' ∧ FlR c I' as' (.ret (.ref H3.length)) a) (fun _ _ => False) s') (fun _ _ => False) { s2 with heap := h3, toks := tk } := by
          intro fo c' ctv doc occ vs t h3 tk I3 k1 k2 k3 k4 k5 T3 J3 hn3 hI3
          refine wpAny_storeName_local lkx hn3 (fun h4 hn4 hs4 => ?_) (by rw [hkind]; rfl)
          have T4 : Tr (fAddrs env) I3 ([c.tabAt] :: ar) { s2 with heap := h3, toks := tk } I3 ([c.tabAt] :: ar) { s2 with heap := h4, toks := tk + 1 } := Tr.frame I3 _ { s2 with heap := h3, toks := tk } (tk + 1) (by simp [fAddrs]) hs4
          have J4 : Inv c I3 ([c.tabAt] :: ar) (.tab true :: r) { s2 with heap := h4, toks := tk + 1 } := J3.frame (s := { s2 with heap := h3, toks := tk }) (tk + 1) hLf hI3 hs4
          have ld : ∀ {x : Str} {p : Pos} {val : Value} {s' : Shared} {m' : Str → Option Value} {Q' : Value → Shared → Prop}, s'.heap.Ns env.locals m' → m' x = some val → env.kindOf x = some .local → (x == ("__debug__" : Str)) = false → Q' val s' → wpAny (model c.prog c.w) A (eval (.Name x p) env) Q' (fun _ _ => False) s' := fun hn hv hk hd h =>
            wpAny_Name (wpAny_loadName_local hkind hk hn hv h) hd
          have Rclo : VR c I3 ([c.tabAt] :: ar) (.clo j) (.ref fo) := .clo (by rw [Lx.clo]; exact ⟨doc, _, c', ctv, occ, vs, t, k2, k3, k4, k5⟩) k1 hocd hl
          have Rst : VR c I3 ([c.tabAt] :: ar) (.ref i) sv := by
            cases Rs with | ref hs => exact .ref hs
          refine wpAny_execs_cons (plainObj_wpAny_Assign_Attribute (ld (val := .ref fo) hn4 (by show (if d.name = d.name then _ else _) = _; rw [if_pos rfl]) lkx (KS.db hix) (ld hn4 (by rw [if_neg hne]; exact hsv) lks (KS.db his) ?_)) (hsw env))
          refine attr_set X J4 Rst Rclo hx hb no e3 fun s5 T5 J5 => ?_
          have hn5 : s5.heap.Ns env.locals (fun x => if x = d.name then some (.ref fo) else ml x) := hn4.at' fun o e => T5.kept _ o e hLf (by simp)
          refine wpAny_execs_cons (wpAny_Return_some (Call_ (load_global he J5 (KS.lk hig) (KS.db hig) hmg (callWith_K (X.at_ J5) hkeep (args_cons (ld hn5 (by rw [if_neg hne]; exact hsv) lks (KS.db his) (args_nil ⟨X.at_ J5, ?_⟩)) rfl) rfl rfl)) (by rfl)))
          refine make_run X hP hM J5 (vs := [.ref i]) (xs := [sv]) (.cons Rst .nil) e4 hA fun z s6 I6 as6 T6 J6 R6 => ?_
          exact ⟨I6, as6, T1.trans (T2.trans (T3.trans (T4.trans (T5.nil.trans T6.nil)))), J6, .ret R6⟩
        refine wpAny_execs_cons (nestDef_K Lx.p1 Lx.p2 (Lx.p3 env) ?_)
        rw [hq]
        have hg2 := J2.glob
        have hP0 : c.tabAt ∈ ([c.tabAt] :: ar : As).flatten := by simp
        rw [Lx.tab] at r0
        cases m with
        | false =>
          have r0 : ot = tabObj #[] := r0
          subst r0
          refine makeFunction_K (Lx.cloFor env cl hcl) he.g hg2 (hcode.trans Lx.code) (Lx.hd _ hE) e0 trivial rfl Lx.gP (Lx.bm _ hE) fun c' ctv doc h' tk hxt hge hlt hrec hPt => ?_
          obtain ⟨c'', occ, vs, t, hc', hocc, hvs, hv1⟩ := hrec
          cases hc'
          generalize hfob : fnMade d.name d.qual d.params d.body d.scope [(("left" : Str), cl)] doc ((c.mg "__name__").getD .none) c' ctv = fob
          have hz' : s2.heap.objs.size ≤ h'.objs.size := Nat.le_of_lt (Nat.lt_of_le_of_lt hge hlt)
          have hclP : cl ≠ c.tabAt := fun q => hclf (q ▸ hP0)
          have hLP : env.locals ≠ c.tabAt := fun q => hLf (q ▸ hP0)
          have nc' : ∀ b, b < s2.heap.objs.size → b ≠ c' := fun b hb q => absurd (Nat.lt_of_lt_of_le hb hge) (by rw [q]; exact Nat.lt_irrefl _)
          have nfo : ∀ b, b < s2.heap.objs.size → b ≠ h'.objs.size := fun b hb q => absurd (Nat.lt_of_lt_of_le hb hz') (by rw [q]; exact Nat.lt_irrefl _)
          have hcf : c' ≠ h'.objs.size := Nat.ne_of_lt hlt
          have hk3 : ∀ b o, b ≠ c.tabAt → s2.heap.get? b = some o → (h'.push fob).get? b = some o := fun b o hb e => Heap.get?_push_of_some _ (hxt b o hb e)
          have hz3 : s2.heap.objs.size ≤ (h'.push fob).objs.size := by rw [Heap.size_push]; exact Nat.le_succ_of_le hz'
          have q1 : I2 c' = none := (fresh_off J2 hge).2
          have q2 : (I2.put c' occ) h'.objs.size = none := by rw [Im.put_ne _ _ (Ne.symm hcf)]; exact (fresh_off J2 hz').2
          have q3 : ((I2.put c' occ).put h'.objs.size fob) cl = none := by
            rw [Im.put_ne _ _ (nfo _ hcllt), Im.put_ne _ _ (nc' _ hcllt)]; exact hclI
          have hle : ImLe I2 (((I2.put c' occ).put h'.objs.size fob).put cl oc) := fun b o e => Im.put_le q3 b o (Im.put_le q2 b o (Im.put_le q1 b o e))
          have k1 := Im.put_at ((I2.put c' occ).put h'.objs.size fob) cl oc
          have k2 := Im.put_le (o := oc) q3 _ _ (Im.put_at (I2.put c' occ) h'.objs.size fob)
          have k3 := Im.put_le (o := oc) q3 _ _ (Im.put_le (o := fob) q2 _ _ (Im.put_at I2 c' occ))
          refine rest h'.objs.size c' ctv doc occ vs t _ tk _ k1 (k2.trans (congrArg some hfob.symm)) k3 hvs hv1 ?_ ?_ ?_ ?_
          · refine ⟨hle, fun b o e => ?_, ⟨[], by simp⟩, fun _ q => .inl q, fun b o e h1 h2 => hk3 b o (fun q => h1 (q ▸ hP0)) e, hz3⟩
            rcases Im.put_some e with ⟨rfl, _⟩ | e
            · exact .inr (.inr hclm)
            · rcases Im.put_some e with ⟨rfl, _⟩ | e
              · exact .inr (.inl hz')
              · rcases Im.put_some e with ⟨rfl, _⟩ | e
                · exact .inr (.inl hge)
                · exact .inl e
          · refine J2.step (i := 0) (fp := [c.tabAt]) (b := c.tabAt) tk rfl (by simp) hle (fun b o e => ?_) (fun b hb => ?_) hk3 hz3 (.tab (Heap.get?_push_of_some _ hPt) ?_)
            · rcases Im.put_some e with ⟨rfl, rfl⟩ | e
              · exact hk3 _ _ hclP hoc
              · rcases Im.put_some e with ⟨rfl, rfl⟩ | e
                · exact Heap.get?_push_size _ (by rw [← hfob]; rfl)
                · rcases Im.put_some e with ⟨rfl, rfl⟩ | e
                  · exact Heap.get?_push_of_some _ hocc
                  · exact hk3 b o (fun q => by rw [q, J2.out _ hP0] at e; cases e) (J2.imm b o e)
            · rw [Im.put_ne _ (a := cl) (b := b) _ (fun q => hclf (by rw [← q]; exact hb)), Im.put_ne _ _ (nfo b (J2.lt b hb)), Im.put_ne _ _ (nc' b (J2.lt b hb))]; exact J2.out b hb
            · rw [Lx.tab]
              exact ⟨_, c', occ, vs, t, rfl, by simp [TriplesOk, rawInt], by simpa using codeAmong_snoc (pos := pos) (c := .ref c') [] trivial rfl, k3, hvs, hv1⟩
          · exact hns.at' fun o e => hk3 _ o hLP e
          · rw [Im.put_ne _ _ (Ne.symm hneL), Im.put_ne _ _ (nfo _ hLlt), Im.put_ne _ _ (nc' _ hLlt)]; exact hLI
        | true =>
          obtain ⟨ps, c', occ, vs, t, rfl, ht, hfound, hIc, hvs, hv1⟩ := r0
          refine makeFunction_hit (Lx.cloFor env cl hcl) he.g hg2 (hcode.trans Lx.code) (Lx.hd _ hE) e0 ht hfound (Lx.bm _ hE) fun ctv doc h' tk hk hz' => ?_
          have nfo : ∀ b, b < s2.heap.objs.size → b ≠ h'.objs.size := fun b hb q => absurd (Nat.lt_of_lt_of_le hb hz') (by rw [q]; exact Nat.lt_irrefl _)
          have hk3 : ∀ b o, s2.heap.get? b = some o → (h'.push (fnMade d.name d.qual d.params d.body d.scope [(("left" : Str), cl)] doc ((c.mg "__name__").getD .none) c' ctv)).get? b = some o := fun b o e => Heap.get?_push_of_some _ (hk b o e)
          have hz3 : s2.heap.objs.size ≤ (h'.push (fnMade d.name d.qual d.params d.body d.scope [(("left" : Str), cl)] doc ((c.mg "__name__").getD .none) c' ctv)).objs.size := by rw [Heap.size_push]; exact Nat.le_succ_of_le hz'
          have q2 : I2 h'.objs.size = none := (fresh_off J2 hz').2
          have q3 : (I2.put h'.objs.size (fnMade d.name d.qual d.params d.body d.scope [(("left" : Str), cl)] doc ((c.mg "__name__").getD .none) c' ctv)) cl = none := by
            rw [Im.put_ne _ _ (nfo _ hcllt)]; exact hclI
          have hle : ImLe I2 ((I2.put h'.objs.size (fnMade d.name d.qual d.params d.body d.scope [(("left" : Str), cl)] doc ((c.mg "__name__").getD .none) c' ctv)).put cl oc) := fun b o e => Im.put_le q3 b o (Im.put_le q2 b o e)
          have k1 := Im.put_at (I2.put h'.objs.size (fnMade d.name d.qual d.params d.body d.scope [(("left" : Str), cl)] doc ((c.mg "__name__").getD .none) c' ctv)) cl oc
          have k2 := Im.put_le (o := oc) q3 _ _ (Im.put_at I2 h'.objs.size (fnMade d.name d.qual d.params d.body d.scope [(("left" : Str), cl)] doc ((c.mg "__name__").getD .none) c' ctv))
          refine rest h'.objs.size c' ctv doc occ vs t _ tk _ k1 k2 (hle _ _ hIc) hvs hv1 ?_ ?_ ?_ ?_
          · refine ⟨hle, fun b o e => ?_, ⟨[], by simp⟩, fun _ q => .inl q, fun b o e h1 h2 => hk3 b o e, hz3⟩
            rcases Im.put_some e with ⟨rfl, _⟩ | e
            · exact .inr (.inr hclm)
            · rcases Im.put_some e with ⟨rfl, _⟩ | e
              · exact .inr (.inl hz')
              · exact .inl e
          · refine J2.step (i := 0) (fp := [c.tabAt]) (b := c.tabAt) tk rfl (by simp) hle (fun b o e => ?_) (fun b hb => ?_) (fun b o _ e => hk3 b o e) hz3 (.tab (hk3 _ _ e0) ?_)
            · rcases Im.put_some e with ⟨rfl, rfl⟩ | e
              · exact hk3 _ _ hoc
              · rcases Im.put_some e with ⟨rfl, rfl⟩ | e
                · exact Heap.get?_push_size _ rfl
                · exact hk3 b o (J2.imm b o e)
            · rw [Im.put_ne _ (a := cl) (b := b) _ (fun q => hclf (by rw [← q]; exact hb)), Im.put_ne _ _ (nfo b (J2.lt b hb))]; exact J2.out b hb
            · rw [Lx.tab]
              exact ⟨ps, c', occ, vs, t, rfl, ht, hfound, hle _ _ hIc, hvs, hv1⟩
          · exact hns.at' fun o e => hk3 _ o e
          · rw [Im.put_ne _ _ (Ne.symm hneL), Im.put_ne _ _ (nfo _ hLlt)]; exact hLI
      · cases hr
    | _ => cases hr
  | _ => cases hr

end
end Mine
-- part M24.lean
set_option autoImplicit false
set_option maxRecDepth 100000
set_option linter.unusedVariables false
namespace Mine
open PySem PySem.W PyProof.Rows
noncomputable section

theorem FnS.up {c : Cx} {n m : Nat} {a : Addr} {F : Fp} (h : FnS c n a F) (hm : n ≤ m) : FnS c m a F where
  fn := h.fn
  run := fun vs xs I as H s J R v H' hr A hA => h.run vs xs I as H s J R v H' hr A (hA.le hm)
theorem FnC.up {c : Cx} {n m : Nat} {a : Addr} {F : Fp} (h : FnC c n a F) (hm : n ≤ m) : FnC c m a F where
  fn := h.fn
  code := fun vs xs I as H s J R v H' hr A hA => h.code vs xs I as H s J R v H' hr A (hA.le hm)

theorem FnS.ofW {c : Cx} {n : Nat} {a : Addr} {sc : Scope} {ps : List Str} {body : List Stmt} {fd : FuncData} {f : Sf} (D : DefOk c a sc ps body fd) (hb : ∀ xs : List Value, xs.length = ps.length → bindArgs fd ⟨xs, []⟩ = pure (ps.zip xs))
    (hf : ∀ env lo I as H s, EOk env sc → env.code = fd.code → env.qual = fd.qualname ++ ".<locals>." → LR c env lo I as s → Inv c I as H s → Ho c n (fAddrs env) (execs body env) (fun I as _ b fl => FlR c I as b.1 fl) I as s (f lo H)) :
    FnS c (n + 1) a (fnOf ps.length sc.names.length f) where
  fn := let ⟨o, h1, h2⟩ := D.at_; ⟨o, fd, h1, h2⟩
  run := by
    intro vs xs I as H s J R v H' hr A hA
    obtain ⟨hlen, hr⟩ := gd_some hr
    have hlen := Nat.eq_of_beq_eq_true hlen
    obtain ⟨o, h1, h2⟩ := D.at_
    have hE : Ext c.base s.heap := fun b o e => J.imm b o (J.base b o e)
    refine wpAny_call (codeAny_call_function hA.room (hE _ _ h1) h2 (by rw [D.scope]; exact D.co) (by rw [D.scope]; exact D.gen) D.body_ (D.code _ hE) ?_)
    rw [hb xs (by rw [← R.length]; exact hlen)]
    exact wpAny_pure (run_bodyW D hf J R hlen hA hr fun val s' I' as' T' J' R' => ⟨I', as', T', J', R'⟩)
/-- the nested def, off its statement -/
def cloOf (q : Str) : Stmt → CloDef
  | .FunctionDef name params body _ _ _ scope .. => ⟨name, q, params, body, scope⟩
  | _ => ⟨q, q, default, [], default⟩
def posOfS : Stmt → Pos
  | .FunctionDef _ _ _ _ _ _ _ _ _ pos => pos
  | _ => default

/-! comprehensions: the scope told -/
def compSc (sc scope : Scope) : Scope := relabel scope { (default : Env) with scope := sc }
theorem compSc_rel (sc scope : Scope) (env : Env) (h : env.scope = sc) : relabel scope env = compSc sc scope := by subst h; rfl
def mpOk (sc sc' : Scope) : List (Option Nat) → Nat → Bool
  | [], _ => true
  | none :: r, i => mpOk sc sc' r (i + 1)
  | some j :: r, i => (match sc'.names[i]?, sc.names[j]? with
    | some (x, k), some (y, k') => k == .cell && x == y && k' == .cell
    | some _, none => false
    | none, _ => true) && mpOk sc sc' r (i + 1)
theorem mpOk_at {sc sc' : Scope} : ∀ {mp : List (Option Nat)} {o : Nat}, mpOk sc sc' mp o = true → ∀ (i j : Nat) (x : Str) (k : NameKind), mp[i]? = some (some j) → sc'.names[i + o]? = some (x, k) → k = .cell ∧ sc.names[j]? = some (x, .cell)
  | [], _, _, i, _, _, _, e, _ => by simp at e
  | none :: r, o, h, i, j, x, k, e1, e2 => by
    cases i with
    | zero => simp at e1
    | succ i => exact mpOk_at (mp := r) (o := o + 1) h i j x k (by simpa using e1) (by rw [← e2]; congr 1; omega)
  | some q :: r, o, h, i, j, x, k, e1, e2 => by
    unfold mpOk at h
    rw [Bool.and_eq_true] at h
    cases i with
    | zero =>
      simp at e1; subst e1
      rw [Nat.zero_add] at e2
      have h1 := h.1
      rw [e2] at h1
      cases e3 : sc.names[q]? with
      | none => rw [e3] at h1; cases h1
      | some p =>
        rw [e3] at h1
        obtain ⟨y, k'⟩ := p
        simp only [Bool.and_eq_true, beq_iff_eq] at h1
        obtain ⟨⟨rfl, rfl⟩, rfl⟩ := h1
        exact ⟨rfl, rfl⟩
    | succ i => exact mpOk_at (mp := r) (o := o + 1) h.2 i j x k (by simpa using e1) (by rw [← e2]; congr 1; omega)
def nodupB : List Str → Bool
  | [] => true
  | a :: l => !(l.contains a) && nodupB l
theorem nodupB_ok : ∀ {l : List Str}, nodupB l = true → l.Nodup
  | [], _ => List.nodup_nil
  | a :: l, h => by
    unfold nodupB at h
    rw [Bool.and_eq_true, Bool.not_eq_true'] at h
    refine List.nodup_cons.mpr ⟨fun q => ?_, nodupB_ok h.2⟩
    have := h.1
    rw [List.contains_iff_mem.mpr q] at this; cases this
def compCheck (sc scope : Scope) (mp : List (Option Nat)) : Bool :=
  scope.kind == .function && (nodupB (scope.names.map (·.1)) && ((scope.names.all fun x => x.2 != .cell) && ((scope.names.all fun x => x.2 != .free || sc.names.contains (x.1, .cell)) &&
    ((compSc sc scope).kind == .function && (nodupB ((compSc sc scope).names.map (·.1)) && (((compSc sc scope).names.all fun x => !(x.1 == ("__debug__" : Str))) && (((compSc sc scope).names.all fun x => !(x.1 == ("__classdict__" : Str))) &&
    (((compSc sc scope).names.all fun x => x.2 != .free && (x.2 != .cell || scope.names.contains (x.1, .free))) && (mp.length == (compSc sc scope).names.length && mpOk sc (compSc sc scope) mp 0)))))))))
theorem CompOk.of {sc scope : Scope} {mp : List (Option Nat)} (h : compCheck sc scope mp = true) : CompOk sc scope (compSc sc scope) mp := by
  unfold compCheck at h
  simp only [Bool.and_eq_true] at h
  obtain ⟨h1, h2, h3, h4, h5, h6, h7, h8, h9, h10, h11⟩ := h
  have names : ∀ x ∈ (compSc sc scope).names, x.2 ≠ .free ∧ (x.2 = .cell → (x.1, NameKind.free) ∈ scope.names) := fun x hx => by
    have := List.all_eq_true.mp h9 x hx
    simp only [Bool.and_eq_true, Bool.or_eq_true, bne_iff_ne] at this
    refine ⟨this.1, fun q => ?_⟩
    rcases this.2 with z | z
    · exact absurd q z
    · exact List.contains_iff_mem.mp z
  refine ⟨eq_of_beq h1, nodupB_ok h2, fun x hx => ?_, fun x hx q => ?_, fun env he => compSc_rel sc scope env he, ⟨eq_of_beq h5, nodupB_ok h6, h7, h8⟩, names, eq_of_beq h10, fun i j x k e1 e2 => mpOk_at h11 i j x k e1 e2⟩
  · have := List.all_eq_true.mp h3 x hx; simpa using this
  · have := List.all_eq_true.mp h4 x hx
    simp only [Bool.or_eq_true, bne_iff_ne] at this
    rcases this with z | z
    · exact absurd q z
    · exact List.contains_iff_mem.mp z

theorem ET.comp' {c : Cx} {n : Nat} {sc scope : Scope} {elt iter : Expr} {x : Str} {px pos : Pos} {ifs : List Expr} {gs : List Comprehension} {g : If} {b : Cf} (mp : List (Option Nat)) (i fuel : Nat) (X : compCheck sc scope mp = true) (hit : IS c n sc iter g) (hfs : ∀ env x, foldedSetIterable iter env x = pure x)
    (hi : (compSc sc scope).names[i]? = some (x, .local)) (hb : ScOk (compSc sc scope) → CT c n (compSc sc scope) elt (⟨.Name x px, iter, ifs, 0⟩ :: gs) scope pos 0 ifs b) : ET c n sc (.ListComp elt (⟨.Name x px, iter, ifs, 0⟩ :: gs) scope pos) (eComp mp i g b fuel) :=
  ET.comp fuel (CompOk.of X) hit hfs hi (hb (CompOk.of X).ok)
theorem ST.asgC' {c : Cx} {n : Nat} {sc scope : Scope} {elt iter : Expr} {x y : Str} {px py pos spos : Pos} {ifs : List Expr} {gs : List Comprehension} {g : If} {b : Cf} (mp : List (Option Nat)) (i fuel : Nat) {j : Nat} (X : compCheck sc scope mp = true) (hs : SN c sc y j) (hit : IS c n sc iter g) (hfs : ∀ env x, foldedSetIterable iter env x = pure x)
    (hi : (compSc sc scope).names[i]? = some (x, .local)) (hb : ScOk (compSc sc scope) → CT c n (compSc sc scope) elt (⟨.Name x px, iter, ifs, 0⟩ :: gs) scope pos 0 ifs b)
    (hsw : ∀ env : Env, env.scope = sc → swapsWith (.ListComp elt (⟨.Name x px, iter, ifs, 0⟩ :: gs) scope pos) (some (.Name y py)) spos.line env = pure true) : ST c n sc (.Assign [.Name y py] (.ListComp elt (⟨.Name x px, iter, ifs, 0⟩ :: gs) scope pos) spos) (sAsg j (eComp mp i g b fuel)) :=
  ST.asgC fuel (CompOk.of X) hs hit hfs hi (hb (CompOk.of X).ok) hsw

end
end Mine
-- part M25.lean
set_option autoImplicit false
set_option maxRecDepth 100000
set_option linter.unusedVariables false
namespace Mine
open PySem PySem.W PyProof.Rows
noncomputable section

/-! the script: a list that never changes -/
def inpV (p : Nat × Nat) : V := .inp p.1 p.2
theorem inp_VR {c : Cx} {I : Im} {as : As} : ∀ {xs : List (Nat × Nat)} {items : List Value}, All2 InpR xs items → All2 (VR c I as) (xs.map inpV) items
  | _, _, .nil => .nil
  | _, _, .cons R Rs => by
    obtain ⟨j, t, rfl, h1, h2⟩ := R
    exact .cons (.inp t h1 h2) (inp_VR Rs)
def eSliceS (f lo hi : Ef) : Ef := fun l H => bnd (f l H) fun a H1 => bnd (lo l H1) fun x H2 => bnd (hi l H2) fun y H3 => ob (part x) fun lo => ob (part y) fun hi => ob (isL a) fun xs => some (.ref H3.length, H3 ++ [.list (cut (xs.map inpV) lo hi)])
theorem ET.sliceS {c : Cx} {n : Nat} {sc : Scope} {value : Expr} {lower upper : Option Expr} {p pos : Pos} {f lo hi : Ef} (hf : ET c n sc value f) (hlo : OET c n sc lower lo) (hhi : OET c n sc upper hi) :
    ET c n sc (.Subscript value (.Slice lower upper .none p) pos) (eSliceS f lo hi) := by
  intro env l I as H s he L J v H' hr A hA
  obtain ⟨a, H1, e1, hr⟩ := bnd_some hr
  obtain ⟨x, H2, e2, hr⟩ := bnd_some hr
  obtain ⟨y, H3, e3, hr⟩ := bnd_some hr
  obtain ⟨klo, p1, hr⟩ := ob_some hr
  obtain ⟨khi, p2, hr⟩ := ob_some hr
  refine Subscript_ ((hf env l I as H s he L J).use e1 hA fun va s1 I1 as1 T1 J1 R1 => wpAny_Slice ((hlo env l I1 as1 H1 s1 he (L.tr T1) J1).use e2 hA fun vx s2 I2 as2 T2 J2 R2 => (hhi env l I2 as2 H2 s2 he ((L.tr T1).tr T2) J2).use e3 hA fun vy s3 I3 as3 T3 J3 R3 => ?_))
  rw [evalPart_none]
  refine wpAny_pure ?_
  have P1 := part_isPart R2 p1
  have P2 := part_isPart R3 p2
  have R1 := (R1.tr T2).tr T3
  have T := T1.trans (T2.trans T3)
  clear e1 e2 e3 T1 T2 T3 R2 R3
  have Jg := J3.grow (h' := s3.heap.push { cls := .type "slice", data := .fields #[vx, vy, .none] }) s3.toks (by rw [Heap.size_push]; exact Nat.le_succ _) (fun b o e => Heap.get?_push_of_some _ e)
  have Tg := Tr.grow [] I3 as3 s3 (h' := s3.heap.push { cls := .type "slice", data := .fields #[vx, vy, .none] }) s3.toks (by rw [Heap.size_push]; exact Nat.le_succ _) (fun b o e => Heap.get?_push_of_some _ e)
  obtain ⟨xs, h9, hr⟩ := ob_some hr
  cases hr
  rw [isL_some h9] at R1
  obtain ⟨aa, items, nn, oo, rfl, h, hoc, hod, r, hl⟩ := vr_il R1
  have o1 : Heap.IsList _ aa items.toArray := ⟨oo, Jg.imm _ _ h, hoc, nn, hod⟩
  have r1 := inp_VR (c := c) (I := I3) (as := as3) r
  have hl1 : (xs.map inpV).length ≤ big := by rw [List.length_map]; exact hl
  have hz := r1.length
  have hb : items.length ≤ sizeLine := by rw [← hz]; exact Nat.le_trans hl1 big_le
  refine tail_any o1.typeIs slot_list_getitem.lookup (wpAny_getItem_list_slice o1 (Heap.IsSliceOf.new ..) P1 P2 .none (by simp) ?_ (by simpa using hb)) rfl
  refine ⟨I3, _, (T.trans Tg).trans (Tr.alloc _ _ _ _ _ s3.toks), Jg.alloc _ _ s3.toks rfl (.list (items := cut items klo khi) (n := 0) ?_ ((r1.cut klo khi).imp fun _ _ q => q.mono fun _ _ e => e) (Nat.le_trans (cut_len ..) hl1)), Jg.newRef _⟩
  rw [Heap.get?_push_size _ rfl, slicePick_cut]
def pLenS : Fp := fun vs H => ob (one vs) fun a => ob (isL a) fun xs => some (.int (Int.ofNat xs.length), H)
theorem BS.lenS (c : Cx) (n : Nat) : BS c n (.builtin "len") pLenS := by
  intro vs xs I as H s J R v H' hr A hA
  obtain ⟨a, h1, hr⟩ := ob_some hr
  obtain ⟨l, h2, hr⟩ := ob_some hr
  cases hr
  rw [one_some h1, isL_some h2] at R
  obtain ⟨y, rfl, R1⟩ := all2_1 R
  obtain ⟨aa, items, nn, oo, rfl, h, hoc, hod, r, hl⟩ := vr_il R1
  have hz := r.length
  have hb : l.length ≤ 1000000 := hl
  refine len_list ⟨oo, J.imm _ _ h, hoc, nn, hod⟩ (by simp only [List.size_toArray]; omega) ⟨I, as, Tr.toks .., J.toks _, ?_⟩
  rw [List.size_toArray, ← hz]; exact .int _ _

end
end Mine
-- part M26.lean
set_option autoImplicit false
set_option maxRecDepth 100000
set_option linter.unusedVariables false
namespace Mine
open PySem PySem.W PyProof.Rows
noncomputable section

/-! the start and the end -/
def baseOf (h : Heap) (P : Addr) : Im := fun a => if a = P then none else h.get? a
theorem base_ext (h : Heap) (P : Addr) : Ext (baseOf h P) h := fun b o e => by
  unfold baseOf at e
  split at e
  · cases e
  · exact e
theorem base_ne {h : Heap} {P a : Addr} {o : Obj} (ha : a ≠ P) (e : h.get? a = some o) : baseOf h P a = some o := by unfold baseOf; rw [if_neg ha]; exact e
theorem base_P (h : Heap) (P : Addr) : baseOf h P P = none := by unfold baseOf; rw [if_pos rfl]

structure StartOk (s : Shared) (P : Addr) (mg mb : Str → Option Value) : Prop where
  g : s.heap.Ns mainGlobals mg
  b : s.heap.Ns builtinsNs mb
  l : s.heap.NoLimit
  gP : mainGlobals ≠ P
  bP : builtinsNs ≠ P
  cP : cStatics ≠ P
  tab : s.heap.get? P = some (tabObj #[])
  gens : s.gens = #[]
def cxOf (prog : Program) (w : World) (s : Shared) (P cls fnRead : Addr) (mg mb : Str → Option Value) (d : CloDef) (pos : Pos) (S : StartOk s P mg mb) : Cx where
  prog := prog
  w := w
  base := baseOf s.heap P
  mg := mg
  mb := mb
  os := s.os
  cls := cls
  fnRead := fnRead
  tabAt := P
  clo := d.rel
  tabR := d.tabR pos
  g := fun h e => S.g.at' fun o q => e _ _ (base_ne S.gP q)
  b := fun h e => S.b.at' fun o q => e _ _ (base_ne S.bP q)
  lim := fun h e => let ⟨mc, h1, h2⟩ := S.l; ⟨mc, h1.at' fun o q => e _ _ (base_ne S.cP q), h2⟩
  cloMono := d.mono
  tabMono := d.tabMono pos

theorem start_inv {prog : Program} {w : World} {s : Shared} {P cls fnRead : Addr} {mg mb : Str → Option Value} {d : CloDef} {pos : Pos} (S : StartOk s P mg mb) :
    Inv (cxOf prog w s P cls fnRead mg mb d pos S) (baseOf s.heap P) [[P]] [.tab false] s := by
  refine ⟨base_ext _ _, fun _ _ e => e, rfl, fun i o fp e1 e2 => ?_, by simp, fun a ha => ?_, fun a ha => ?_, S.gens, rfl⟩
  · cases i with
    | succ i => simp at e1
    | zero => cases e1; cases e2; exact .tab S.tab rfl
  · simp at ha; subst ha; exact base_P _ _
  · simp at ha; subst ha; exact Heap.lt_size S.tab

theorem end_good {prog : Program} {w : World} {s s' : Shared} {P cls fnRead : Addr} {mg mb : Str → Option Value} {d : CloDef} {pos : Pos} (S : StartOk s P mg mb) {c₀ : Addr} (ht : s.heap.TableAt c₀ P #[]) {I : Im} {as : As} {m : Bool} {H : List O}
    (T : Tr [] (baseOf s.heap P) [[P]] s I as s') (J : Inv (cxOf prog w s P cls fnRead mg mb d pos S) I as (.tab m :: H) s') {z : Value} (R : VR (cxOf prog w s P cls fnRead mg mb d pos S) I as (.bool true) z)
    {c : ClaimW} {cl : Str → Option Addr} {mean : ExcName → Option Value} {args : List WData} (hr : ∀ cls, c.raises args cls = false) (hp : c.post args (.bool true) args = true) :
    GoodWG c cl mean args s (.ok (.ret z)) s' := by
  cases R
  have hk : ∀ b o, b ≠ P → s.heap.get? b = some o → s'.heap.get? b = some o := fun b o hb e => T.kept b o e (by simpa using hb) (by simp)
  obtain ⟨ex, hex⟩ := T.pre
  have O1 := J.objs 0 (.tab m) [P] rfl (by rw [hex]; rfl)
  obtain ⟨ps, hps⟩ : ∃ ps, s'.heap.get? P = some (tabObj ps) := by
    cases O1 with
    | @tab _ o e r =>
      cases m with
      | false => have r : o = tabObj #[] := r; subst r; exact ⟨_, e⟩
      | true => obtain ⟨ps, _, _, _, _, rfl, _⟩ := r; exact ⟨ps, e⟩
  refine ⟨.inl ⟨_, _, [], rfl, hr, ReadsW.bool true, hp, fun _ => ⟨List.nodup_nil, fun _ hm => (nomatch hm)⟩⟩, ⟨fun b o e => ?_, fun b o e => ?_⟩, J.os, by rw [J.gens]; exact AllBare.empty⟩
  · by_cases hb : b = P
    · subst hb
      have eo : o = tabObj #[] := Option.some.inj (e.symm.trans S.tab)
      subst eo
      exact .inr (.inl ⟨ht.isCodeTable, rfl, #[], ps, rfl, by simpa using hps⟩)
    · exact .inl (hk b o hb e)
  · by_cases hb : b = P
    · subst hb; exact ⟨_, hps⟩
    · exact ⟨o, hk b o hb e⟩

/-! `_law_lexer`'s text, by its parts -/
def lexP4 : Stmt → Pos × Pos × Pos × Pos
  | .Assign [.Attribute (.Name _ p2) _ p3] (.Name _ p1) pos => (p1, p2, p3, pos)
  | _ => (default, default, default, default)
def lexP5 : Stmt → Pos × Pos × Pos × Pos
  | .Return (some (.Call (.Name _ p4) [.Name _ p5] _ p6)) pos => (p4, p5, p6, pos)
  | _ => (default, default, default, default)
def lexText (d : CloDef) (ncls : Str) (b : List Stmt) : List Stmt :=
  [nthStmt b 0, nthStmt b 1, .FunctionDef d.name d.params d.body [] none [] d.scope none d.name (posOfS (nthStmt b 2)),
   .Assign [.Attribute (.Name "stream" (lexP4 (nthStmt b 3)).2.1) "read" (lexP4 (nthStmt b 3)).2.2.1] (.Name d.name (lexP4 (nthStmt b 3)).1) (lexP4 (nthStmt b 3)).2.2.2,
   .Return (some (.Call (.Name ncls (lexP5 (nthStmt b 4)).1) [.Name "stream" (lexP5 (nthStmt b 4)).2.1] [] (lexP5 (nthStmt b 4)).2.2.1)) (lexP5 (nthStmt b 4)).2.2.2]

end
end Mine
-- part M27.lean
set_option autoImplicit false
set_option maxRecDepth 100000
set_option linter.unusedVariables false
namespace Mine
open PySem PySem.W PyProof.Rows
noncomputable section

/-- what the scope and the body of a def must show, off the text alone -/
structure TextOk (sc : Scope) (ps : List Str) : Prop where
  kind : sc.kind = .function
  co : sc.isCoroutine = false
  gen : sc.isGenerator = false
  nd : (sc.names.map (·.1)).Nodup
  free : ∀ x ∈ sc.names, x.2 ≠ .free
  ps_ : (sc.names.take ps.length).map (·.1) = ps
  pk : ∀ x ∈ sc.names.take ps.length, x.2 = .local ∨ x.2 = .cell

theorem defOk_of {prog : Program} {w : World} {s : Shared} {P cls fnRead : Addr} {mg mb : Str → Option Value} {d : CloDef} {pos : Pos} (S : StartOk s P mg mb) {a ca : Addr} {o oc : Obj} {fd : FuncData} {vs : Array Value} {t : Tok} {sc : Scope} {ps : List Str} {body : List Stmt}
    (X : TextOk sc ps) (ho : s.heap.get? a = some o) (ha : a ≠ P) (hd : o.data = .func fd) (hcode : fd.code = .ref ca) (hoc : s.heap.get? ca = some oc) (hca : ca ≠ P) (hocd : oc.data = .fields vs) (hv : vs[1]? = some (.str fd.qualname t))
    (hb : fd.body = .stmts body) (hs : fd.scope = sc) (hg : fd.globals = mainGlobals) (hbn : fd.builtins = builtinsNs) (hcl : fd.closure = []) : DefOk (cxOf prog w s P cls fnRead mg mb d pos S) a sc ps body fd where
  at_ := ⟨o, base_ne ha ho, hd⟩
  code := fun h e => ⟨ca, oc, vs, t, hcode, e _ _ (base_ne hca hoc), hocd, hv⟩
  body_ := hb
  scope := hs
  kind := X.kind
  co := X.co
  gen := X.gen
  g := hg
  b := hbn
  clo := hcl
  nd := X.nd
  free := X.free
  ps_ := X.ps_
  pk := X.pk

end
end Mine
-- part M28.lean
set_option autoImplicit false
set_option maxRecDepth 100000
set_option linter.unusedVariables false
namespace Mine
open PySem PySem.W PyProof.Rows
noncomputable section

/-- a def of the text, as the top's objects show it -/
structure FnAt (h : Heap) (P a : Addr) (sc : Scope) (body : List Stmt) (fd : FuncData) : Prop where
  at_ : ∃ o, h.get? a = some o ∧ o.data = .func fd
  ne : a ≠ P
  code : ∃ ca oc vs t, fd.code = .ref ca ∧ h.get? ca = some oc ∧ ca ≠ P ∧ oc.data = .fields vs ∧ vs[1]? = some (.str fd.qualname t)
  body_ : fd.body = .stmts body
  scope : fd.scope = sc
  g : fd.globals = mainGlobals
  b : fd.builtins = builtinsNs
  clo : fd.closure = []
theorem FnAt.ok {prog : Program} {w : World} {s : Shared} {P cls fnRead : Addr} {mg mb : Str → Option Value} {d : CloDef} {pos : Pos} (S : StartOk s P mg mb) {a : Addr} {sc : Scope} {body : List Stmt} {fd : FuncData} {ps : List Str}
    (F : FnAt s.heap P a sc body fd) (X : TextOk sc ps) : DefOk (cxOf prog w s P cls fnRead mg mb d pos S) a sc ps body fd := by
  obtain ⟨o, h1, h2⟩ := F.at_
  obtain ⟨ca, oc, vs, t, h3, h4, h5, h6, h7⟩ := F.code
  exact defOk_of S X h1 F.ne h2 h3 h4 h5 h6 h7 F.body_ F.scope F.g F.b F.clo

end
end Mine
-- part M29.lean
set_option autoImplicit false
set_option maxRecDepth 100000
set_option linter.unusedVariables false
namespace Mine
open PySem PySem.W PyProof.Rows
noncomputable section

def dropAt (P : Addr) (K : Frag) : Frag := K.filter fun p => !(Nat.beq p.1 P)
theorem dropAt_get {P a : Addr} {o : Obj} : ∀ {K : Frag}, (dropAt P K).lookup a = some o → a ≠ P ∧ K.lookup a = some o
  | [], h => by cases h
  | (b, q) :: r, h => by
    unfold dropAt at h
    rw [List.filter_cons] at h
    by_cases hb : b = P
    · subst hb
      have h' : (dropAt b r).lookup a = some o := by simpa [dropAt] using h
      obtain ⟨h1, h2⟩ := dropAt_get h'
      refine ⟨h1, ?_⟩
      rw [List.lookup_cons, show (a == b) = false from by simpa using h1]; exact h2
    · have hb' : (!(Nat.beq (b, q).1 P)) = true := by
        cases e : Nat.beq b P with
        | true => exact absurd (Nat.eq_of_beq_eq_true e) hb
        | false => simp
      rw [if_pos hb', List.lookup_cons] at h
      rw [List.lookup_cons]
      cases e : (a == b) with
      | true => rw [e] at h; have : a = b := by simpa using e
                exact ⟨this ▸ hb, h⟩
      | false => rw [e] at h; exact dropAt_get h
theorem drop_in {P : Addr} {K : Frag} {s : Shared} (X : K.In s.heap) : ∀ h, Ext (baseOf s.heap P) h → (dropAt P K).In h := fun h e a o q =>
  let ⟨h1, h2⟩ := dropAt_get q
  e _ _ (base_ne h1 (X _ _ h2))

/-- parameters bound one by one -/
def Binds (fd : FuncData) (ps : List Str) : Prop := ∀ xs : List Value, xs.length = ps.length → bindArgs fd ⟨xs, []⟩ = pure (ps.zip xs)
def BindsV (c : Cx) (fd : FuncData) (p1 p2 : Str) : Prop := ∀ (x : Value) (xs : List Value) (A : Around) (Q : List (Str × Value) → Shared → Prop) (E : Value → Shared → Prop) (s : Shared), xs.length ≤ sizeLine → Q [(p1, x), (p2, .ref s.heap.objs.size)] { s with heap := s.heap.push { cls := .type "tuple", data := .seq xs.toArray } } → wpAny (model c.prog c.w) A (bindArgs fd ⟨x :: xs, []⟩) Q E s
theorem bindV_eq {fd : FuncData} {p1 p2 : Pos} (hp : fd.params = { posonlyargs := [], args := [⟨"text", none, p1⟩], vararg := some ⟨"pairs", none, p2⟩, kwonlyargs := [], kw_defaults := [], kwarg := none, defaults := [] }) (hd : fd.defaults = .none) (x : Value) (xs : List Value) :
    bindArgs fd ⟨x :: xs, []⟩ = newTuple xs >>= fun t => pure [(("text" : Str), x), (("pairs" : Str), t)] := by
  unfold bindArgs
  rw [hp, hd]
  cases xs with
  | nil => rfl
  | cons y ys => rfl
theorem BindsV.of {c : Cx} {fd : FuncData} {p1 p2 : Pos} (hp : fd.params = { posonlyargs := [], args := [⟨"text", none, p1⟩], vararg := some ⟨"pairs", none, p2⟩, kwonlyargs := [], kw_defaults := [], kwarg := none, defaults := [] }) (hd : fd.defaults = .none) : BindsV c fd "text" "pairs" := by
  intro x xs A Q E s hl hQ
  rw [bindV_eq hp hd]
  exact wpAny_bind (wpAny_newTuple (wpAny_pure hQ) hl)

theorem lexOk_of {prog : Program} {w : World} {s : Shared} {P cls fnRead : Addr} {mg mb : Str → Option Value} {d : CloDef} {pos : Pos} (S : StartOk s P mg mb) {ca bm : Addr} {fd : FuncData}
    (hcode : fd.code = .ref ca) (hc : CodeHd s.heap ca P) (hb : ∃ bm ob, mg "__builtins__" = some (.ref bm) ∧ bm ≠ builtinsNs ∧ s.heap.get? bm = some ob ∧ ob.cls = .type "module" ∧ ob.dict = some builtinsNs ∧ ob.data = .plain)
    (hm : mg "__builtins__" = some (.ref bm)) (h1 : bm ≠ mainGlobals) (h2 : bm ≠ P) (hq : (fd.qualname ++ ".<locals>.") ++ d.name = d.qual) (p1 : d.params.defaults = []) (p2 : d.params.kw_defaults = []) (p3 : ∀ env, annTrees d.params none env = [])
    (cf : ∀ (env : Env) (cl : Addr), env.cells.lookup ("left" : Str) = some cl → closureFor d.scope env = pure [(("left" : Str), cl)]) : LexOk (cxOf prog w s P cls fnRead mg mb d pos S) d ca pos fd where
  clo := rfl
  tab := rfl
  code := hcode
  hd := fun h e => by
    obtain ⟨o, vs, file, tf, flags, tg, inF, text, tt, e1, e2, e3, e4, e5, e6, e7, e8, e9, e10⟩ := hc
    exact ⟨o, vs, file, tf, flags, tg, inF, text, tt, e _ _ (base_ne e10 e1), e2, e3, e4, e5, e6, e7, e8, e9, e10⟩
  bm := fun h e => by
    obtain ⟨b, ob, q1, q2, q3, q4, q5, q6⟩ := hb
    rw [hm] at q1
    cases q1
    exact ⟨bm, ob, hm, q2, h1, h2, e _ _ (base_ne h2 q3), q4, q5, q6⟩
  gP := S.gP
  qual := hq
  p1 := p1
  p2 := p2
  p3 := p3
  cloFor := cf

/-- the call of the law, joined -/
theorem law_good {prog : Program} {w : World} {s : Shared} {P cls fnRead : Addr} {mg mb : Str → Option Value} {d : CloDef} {pos : Pos} (S : StartOk s P mg mb) {c₀ : Addr} (ht : s.heap.TableAt c₀ P #[]) {a l : Addr} {F : Fp} {n : Nat}
    (hF : FnS (cxOf prog w s P cls fnRead mg mb d pos S) n a F) (hn : n ≤ 100) {vs : List Value} {ps : List (Nat × Nat)} (hL : s.heap.IsList l vs.toArray) (hlP : l ≠ P) (R : All2 InpR ps vs) (hz : ps.length ≤ big) {m : Bool} {H : List O} (hr : F [.il ps] [.tab false] = some (.bool true, .tab m :: H))
    {c : ClaimW} {cl : Str → Option Addr} {mean : ExcName → Option Value} {args : List WData} (hra : ∀ cls, c.raises args cls = false) (hp : c.post args (.bool true) args = true) :
    wpAny (model prog w) callerA (call (.ref a) [.ref l]) (fun v s' => GoodWG c cl mean args s (.ok (.ret v)) s') (fun e s' => GoodWG c cl mean args s (.error e) s') s := by
  have J := start_inv (prog := prog) (w := w) (cls := cls) (fnRead := fnRead) (d := d) (pos := pos) S
  obtain ⟨o, e1, e2, n0, e3⟩ := hL
  have hv : VR (cxOf prog w s P cls fnRead mg mb d pos S) (baseOf s.heap P) [[P]] (.il ps) (.ref l) := .il (base_ne hlP e1) e2 e3 R hz
  refine wpAny_mono (hF.run [.il ps] [.ref l] _ _ _ _ J (.cons hv .nil) _ _ hr callerA ⟨rfl, by show 301 + n ≤ 900; omega, by show 4 + 20 * n ≤ 9000; omega⟩) (fun z s' ⟨I', as', T', J', R'⟩ => end_good S ht T' J' R' hra hp) fun _ _ f => f.elim

end
end Mine
-- part M33.lean
set_option autoImplicit false
set_option maxRecDepth 100000
set_option linter.unusedVariables false
namespace Mine
open PySem PySem.W PyProof.Rows
noncomputable section

/-! tables: what a def gives back at the arguments that are asked, each told once -/
theorem FnS.le {c : Cx} {n : Nat} {a : Addr} {F F' : Fp} (h : FnS c n a F) (hle : ∀ vs H r, F' vs H = some r → F vs H = some r) : FnS c n a F' where
  fn := h.fn
  run := fun vs xs I as H s J R v H' hr A hA => h.run vs xs I as H s J R v H' (hle _ _ _ hr) A hA

/-- a table's line: the arguments, texts or ints; the answer -/
inductive TK where
  | s (l : List Nat) | i (k : Nat)
inductive TR where
  | int (k : Nat) | str (l : List Nat) | lst (xs : List (List Nat))
def TK.v : TK → V
  | .s l => .str l
  | .i k => .int (.ofNat k)
def keyIs (k : TK) (v : V) : Bool := TK.casesOn k (fun l => Option.casesOn (isS v) false (fun m => strEq l m)) (fun a => Option.casesOn (isI v) false (fun j => Option.casesOn (natOf j) false (fun b => Nat.beq a b)))
theorem strEq_ok {l m : List Nat} (h : strEq l m = true) : l = m := by rw [strEq_eq] at h; exact eq_of_beq h
theorem keyIs_ok {k : TK} {v : V} (h : keyIs k v = true) : v = k.v := by
  cases k with
  | s l =>
    change (Option.casesOn (isS v) false (fun m => strEq l m) : Bool) = true at h
    cases e : isS v with
    | none => rw [e] at h; cases h
    | some m => rw [e] at h; rw [isS_some e, strEq_ok h]; rfl
  | i a =>
    change (Option.casesOn (isI v) false (fun j => Option.casesOn (natOf j) false (fun b => Nat.beq a b)) : Bool) = true at h
    cases e : isI v with
    | none => rw [e] at h; cases h
    | some j =>
      rw [e] at h
      change (Option.casesOn (natOf j) false (fun b => Nat.beq a b) : Bool) = true at h
      cases e2 : natOf j with
      | none => rw [e2] at h; cases h
      | some b => rw [e2] at h; rw [isI_some e, natOf_some e2, Nat.eq_of_beq_eq_true h]; rfl
def keysAre (ks : List TK) : List V → Bool := List.rec (fun vs => match vs with
  | [] => true
  | _ :: _ => false) (fun k _ ih vs => match vs with
  | [] => false
  | v :: vs => match keyIs k v with
    | true => ih vs
    | false => false) ks
theorem keysAre_ok : ∀ {ks : List TK} {vs : List V}, keysAre ks vs = true → vs = ks.map TK.v
  | [], [], _ => rfl
  | [], _ :: _, h => by cases h
  | _ :: _, [], h => by cases h
  | k :: ks, v :: vs, h => by
    change (match keyIs k v with | true => keysAre ks vs | false => false) = true at h
    cases e : keyIs k v with
    | false => rw [e] at h; cases h
    | true => rw [e] at h; rw [keyIs_ok e, keysAre_ok h]; rfl
abbrev Tb := List (List TK × TR)
def look (T : Tb) (vs : List V) : Option TR := List.rec none (fun p _ ih => match keysAre p.1 vs with
  | true => some p.2
  | false => ih) T
theorem look_some : ∀ {T : Tb} {vs : List V} {r : TR}, look T vs = some r → ∃ p ∈ T, vs = p.1.map TK.v ∧ p.2 = r
  | [], _, _, h => by cases h
  | p :: T, vs, r, h => by
    change (match keysAre p.1 vs with | true => some p.2 | false => look T vs) = some r at h
    cases e : keysAre p.1 vs with
    | true => rw [e] at h; cases h; exact ⟨p, List.mem_cons_self, keysAre_ok e, rfl⟩
    | false => rw [e] at h; obtain ⟨q, h1, h2⟩ := look_some h; exact ⟨q, List.mem_cons_of_mem _ h1, h2⟩
def tabOut (m : Bool) (rest : List O) : TR → V × List O
  | .int k => (.int (.ofNat k), .tab m :: rest)
  | .str l => (.str l, .tab m :: rest)
  | .lst xs => (.ref (rest.length + 1), .tab m :: (rest ++ [.list (xs.map V.str)]))
/-- one line holds: at the flag m, the flag behind it m' -/
def lineB (m' : Bool) (r : TR) (res : Option (V × List O)) : Bool := match res with
  | some (v, .tab b :: H) => (match b, m' with
    | true, true => true
    | false, false => true
    | _, _ => false) && (match r with
    | .int k => (match v with
      | .int (.ofNat j) => Nat.beq k j
      | _ => false)
    | .str l => (match v with
      | .str m => strEq l m
      | _ => false)
    | .lst xs => (match v with
      | .ref (j + 1) => (match asList (.tab b :: H) (j + 1) with
        | some ys => (match strsOf ys with
          | some zs => strsEq xs zs
          | none => false)
        | none => false)
      | _ => false))
  | _ => false
theorem strsOf_map {ys : List V} : ∀ {zs : List (List Nat)}, strsOf ys = some zs → ys = zs.map V.str := by
  induction ys with
  | nil => intro zs h; cases h; rfl
  | cons v ys ih =>
    intro zs h
    obtain ⟨l, e0, h⟩ := ob_some h
    obtain ⟨ts', e1, h⟩ := ob_some h
    cases h
    rw [isS_some e0, ih e1]; rfl
theorem strsEq_ok : ∀ {l m : List (List Nat)}, strsEq l m = true → l = m
  | [], [], _ => rfl
  | [], _ :: _, h => by cases h
  | _ :: _, [], h => by cases h
  | a :: l, b :: m, h => by
    change (match strEq a b with | true => strsEq l m | false => false) = true at h
    cases e : strEq a b with
    | false => rw [e] at h; cases h
    | true => rw [e] at h; rw [strEq_ok e, strsEq_ok h]
theorem lineB_ok {F : Fp} {ks : List TK} {m m' : Bool} {r : TR} (h : lineB m' r (F (ks.map TK.v) [.tab m]) = true) (rest : List O) : alone F (ks.map TK.v) (.tab m :: rest) = some (tabOut m' rest r) := by
  have hp : allPlain (ks.map TK.v) = true := by
    clear h
    induction ks with
    | nil => rfl
    | cons k ks ih =>
      show (match plain k.v with | true => allPlain (ks.map TK.v) | false => false) = true
      rw [ih]; cases k <;> rfl
  show gd (allPlain (ks.map TK.v)) (bnd (F (ks.map TK.v) [.tab m]) (aloneOut rest)) = _
  rw [hp]
  show bnd (F (ks.map TK.v) [.tab m]) (aloneOut rest) = _
  unfold lineB at h
  split at h
  · rename_i v b H e
    rw [Bool.and_eq_true] at h
    obtain ⟨h1, h2⟩ := h
    have hb : b = m' := by
      clear e h2
      cases b <;> cases m' <;> first | rfl | cases h1
    subst hb
    rw [e]
    show aloneOut rest v (.tab b :: H) = _
    split at h2
    · split at h2
      · rename_i k _ j
        rw [Nat.eq_of_beq_eq_true h2]; rfl
      · cases h2
    · split at h2
      · rename_i l _ m
        rw [strEq_ok h2]; rfl
      · cases h2
    · split at h2
      · rename_i j
        split at h2
        · rename_i ys e1
          split at h2
          · rename_i zs e2
            have e3 := strsOf_map e2
            have e4 := strsEq_ok h2
            subst e4
            show ob (asList (.tab b :: H) (j + 1)) (fun xs => gd (allPlain xs) (some (V.ref (rest.length + 1), O.tab b :: (rest ++ [O.list xs])))) = _
            rw [e1, e3]
            have hp2 : ∀ zs : List (List Nat), allPlain (zs.map V.str) = true := fun zs => by
              induction zs with
              | nil => rfl
              | cons z zs ih => exact ih
            show gd (allPlain _) _ = _
            rw [hp2]; rfl
          · cases h2
        · cases h2
      · cases h2
  · cases h
def linesB (F : Fp) (m m' : Bool) (T : Tb) : Bool := List.rec true (fun p _ ih => match lineB m' p.2 (F (p.1.map TK.v) [.tab m]) with
  | true => ih
  | false => false) T
theorem linesB_ok {F : Fp} {m m' : Bool} : ∀ {T : Tb}, linesB F m m' T = true → ∀ p ∈ T, lineB m' p.2 (F (p.1.map TK.v) [.tab m]) = true
  | [], _, _, h => nomatch h
  | q :: T, h, p, hp => by
    change (match lineB m' q.2 (F (q.1.map TK.v) [.tab m]) with | true => linesB F m m' T | false => false) = true at h
    cases e : lineB m' q.2 (F (q.1.map TK.v) [.tab m]) with
    | false => rw [e] at h; cases h
    | true =>
      rw [e] at h
      rcases List.mem_cons.mp hp with rfl | hp
      · exact e
      · exact linesB_ok h p hp
/-- the def as its tables tell it: one table for each flag -/
def tabF (f t : List V → Option TR) (mf mt : Bool) : Fp := fun vs H => match H with
  | .tab m :: rest => match m with
    | false => ob (f vs) fun r => some (tabOut mf rest r)
    | true => ob (t vs) fun r => some (tabOut mt rest r)
  | _ => none
/-- what a table's reader must keep -/
def Tells (F : Fp) (m m' : Bool) (L : List V → Option TR) : Prop := ∀ vs r, L vs = some r → ∀ rest, alone F vs (.tab m :: rest) = some (tabOut m' rest r)
theorem Tells.none (F : Fp) (m m' : Bool) : Tells F m m' fun _ => .none := fun _ _ h => nomatch h
theorem Tells.look {F : Fp} {m m' : Bool} {T : Tb} (h : linesB F m m' T = true) : Tells F m m' (look T) := fun vs r e rest => by
  obtain ⟨p, h1, rfl, rfl⟩ := look_some e
  exact lineB_ok (linesB_ok h p h1) rest
def orL (f g : List V → Option TR) : List V → Option TR := fun vs => match f vs with
  | some r => some r
  | none => g vs
theorem Tells.or {F : Fp} {m m' : Bool} {f g : List V → Option TR} (hf : Tells F m m' f) (hg : Tells F m m' g) : Tells F m m' (orL f g) := fun vs r e rest => by
  unfold orL at e
  split at e
  · rename_i q h; cases e; exact hf vs _ h rest
  · exact hg vs r e rest
theorem tabF_le {F : Fp} {f t : List V → Option TR} {mf mt : Bool} (hf : Tells F false mf f) (ht : Tells F true mt t) : ∀ vs H r, tabF f t mf mt vs H = some r → alone F vs H = some r := by
  intro vs H r h
  unfold tabF at h
  split at h
  · split at h
    · obtain ⟨q, h1, h2⟩ := ob_some h
      rw [hf vs q h1, h2]
    · obtain ⟨q, h1, h2⟩ := ob_some h
      rw [ht vs q h1, h2]
  · cases h

end
end Mine
-- part M34.lean
set_option autoImplicit false
set_option maxRecDepth 100000
set_option linter.unusedVariables false
namespace Mine
open PySem PySem.W PyProof.Rows
noncomputable section

/-! dicts of texts -/
abbrev knd (c : Cx) : PySem.KeyKind c.prog c.w Str := PySem.strKind c.prog c.w
def dget (xs : List (List Nat × V)) (k : List Nat) : Option V := List.rec none (fun p _ ih => match strEq p.1 k with
  | true => some p.2
  | false => ih) xs
theorem dget_spec {c : Cx} {I : Im} {as : As} {xs : List (List Nat × V)} {kvs : List (Str × Value)} (R : All2 (KvR c I as) xs kvs) (k : List Nat) :
    (∀ v, dget xs k = some v → ∃ x, valueAt kvs ⟨k.toArray⟩ = some x ∧ VR c I as v x) ∧ (dget xs k = none → valueAt kvs ⟨k.toArray⟩ = none ∧ (⟨k.toArray⟩ : Str) ∉ kvs.map (·.1)) := by
  induction R with
  | nil => exact ⟨fun v h => (by cases h), fun _ => ⟨rfl, (by simp)⟩⟩
  | @cons p q xs kvs h t ih =>
    obtain ⟨h1, h2, h3⟩ := h
    have hv : valueAt (q :: kvs) ⟨k.toArray⟩ = if q.1 = ⟨k.toArray⟩ then some q.2 else valueAt kvs ⟨k.toArray⟩ := by
      unfold valueAt
      rw [List.find?_cons]
      by_cases e : q.1 = ⟨k.toArray⟩
      · rw [decide_eq_true e, if_pos e]; rfl
      · rw [decide_eq_false e, if_neg e]
    have hd : dget (p :: xs) k = match strEq p.1 k with | true => some p.2 | false => dget xs k := rfl
    rw [hv, hd]
    cases e : strEq p.1 k with
    | true =>
      have e1 := strEq_ok e
      have e2 : q.1 = ⟨k.toArray⟩ := by rw [h1, e1]
      rw [if_pos e2]
      exact ⟨fun v hh => by cases hh; exact ⟨_, rfl, h3⟩, fun hh => by cases hh⟩
    | false =>
      have e2 : q.1 ≠ ⟨k.toArray⟩ := fun z => by
        rw [h1] at z
        have : (⟨p.1.toArray⟩ : Str) == ⟨k.toArray⟩ := by rw [z]; exact beq_self_eq_true _
        rw [strBeq, ← strEq_eq, e] at this
        cases this
      rw [if_neg e2]
      refine ⟨ih.1, fun hh => ⟨(ih.2 hh).1, ?_⟩⟩
      rw [List.map_cons, List.mem_cons, not_or]
      exact ⟨fun z => e2 z.symm, (ih.2 hh).2⟩
def pLenD : Fp := fun vs H => ob (one vs) fun a => ob (isR a) fun i => ob (asDict H i) fun xs => some (.int (Int.ofNat xs.length), H)
theorem BS.lenD (c : Cx) (n : Nat) : BS c n (.builtin "len") pLenD := by
  intro vs xs I as H s J Rs v H' hr A hA
  obtain ⟨b, h1, hr⟩ := ob_some hr
  obtain ⟨i, h2, hr⟩ := ob_some hr
  obtain ⟨es, q1, hr⟩ := ob_some hr
  cases hr
  rw [one_some h1, isR_some h2] at Rs
  obtain ⟨y, rfl, R1⟩ := all2_1 Rs
  obtain ⟨a, fp, rfl, ha⟩ := vr_ref R1
  obtain ⟨kvs, rfl, dm, r1, hl1, hs1⟩ := or_dict (J.obj ha (asDict_some q1))
  have hz := r1.length
  have hb : es.length ≤ 1000000 := hl1
  refine call_len_dict hs1 dm.dictOf (by rw [← hz]; omega) ⟨I, as, Tr.toks .., J.toks _, ?_⟩
  rw [← hz]; exact .int _ _
def pGetD : Bp := fun a b H => ob (isR a) fun i => ob (isS b) fun k => ob (asDict H i) fun xs => ob (dget xs k) fun v => some (v, H)
theorem ET.itemD {c : Cx} {n : Nat} {sc : Scope} {value slice : Expr} {pos : Pos} {f g : Ef} (hf : ET c n sc value f) (hg : ET c n sc slice g)
    (hs : ∀ o i, subscripted slice false o i = operate [o, i] (getItem o i)) : ET c n sc (.Subscript value slice pos) (eBin pGetD f g) := by
  intro env lo I as H s he L J v H' hr A hA
  obtain ⟨a, H1, e1, hr⟩ := bnd_some hr
  obtain ⟨b, H2, e2, hr⟩ := bnd_some hr
  refine Subscript_ ((hf env lo I as H s he L J).use e1 hA fun x s1 I1 as1 T1 J1 R1 => (hg env lo I1 as1 H1 s1 he (L.tr T1) J1).use e2 hA fun y s2 I2 as2 T2 J2 R2 => ?_)
  replace R1 := R1.tr T2
  have T := T1.trans T2
  clear e1 e2
  obtain ⟨i, h1, hr⟩ := ob_some hr
  obtain ⟨k, h2, hr⟩ := ob_some hr
  obtain ⟨xs, q1, hr⟩ := ob_some hr
  obtain ⟨w, q2, hr⟩ := ob_some hr
  cases hr
  rw [isR_some h1] at R1
  rw [isS_some h2] at R2
  obtain ⟨aa, fp, rfl, ha⟩ := vr_ref R1
  obtain ⟨t, rfl, _⟩ := vr_str R2
  obtain ⟨kvs, rfl, dm, r1, hl1, hs1⟩ := or_dict (J2.obj ha (asDict_some q1))
  obtain ⟨x, hx, hxr⟩ := (dget_spec r1 k).1 _ q2
  exact tail_any dm.dictOf.typeIs F.slot_dict_getitem.lookup (wpAny_getItem_of (strKind_is c.prog c.w _ t) dm.dictOf.mapOf hx ⟨I2, as2, T.trans (Tr.toks ..), J2.toks _, hxr⟩) (hs _ _)
def pNinD : Bp := fun a b H => ob (isS a) fun k => ob (isR b) fun i => ob (asDict H i) fun xs => some (.bool (match dget xs k with
  | some _ => false
  | none => true), H)
theorem PB.ninD (c : Cx) (n : Nat) : PB c n (compareOp .NotIn) pNinD := by
  intro a b x y I as H s J Ra Rb v H' hr A hA
  obtain ⟨k, h1, hr⟩ := ob_some hr
  obtain ⟨i, h2, hr⟩ := ob_some hr
  obtain ⟨xs, q1, hr⟩ := ob_some hr
  cases hr
  rw [isS_some h1] at Ra
  rw [isR_some h2] at Rb
  obtain ⟨t, rfl, _⟩ := vr_str Ra
  obtain ⟨aa, fp, rfl, ha⟩ := vr_ref Rb
  obtain ⟨kvs, rfl, dm, r1, hl1, hs1⟩ := or_dict (J.obj ha (asDict_some q1))
  refine wpAny_notIn_of (strKind_is c.prog c.w _ t) hs1 dm.dictOf.mapOf ⟨I, as, Tr.toks .., J.toks _, ?_⟩
  cases e : dget xs k with
  | some v => obtain ⟨x, hx, _⟩ := (dget_spec r1 k).1 _ e; rw [hx]; exact .bool _
  | none => rw [((dget_spec r1 k).2 e).1]; exact .bool _
/-- over the keys -/
def iKeys (f : Ef) : If := fun lo H => bnd (f lo H) fun v H1 => ob (isR v) fun i => ob (asDict H1 i) fun xs => some (.keys i 0 xs.length, H1)
theorem IS.keys {c : Cx} {n : Nat} {sc : Scope} {e : Expr} {f : Ef} (hf : ET c n sc e f) : IS c n sc e (iKeys f) := by
  intro env lo I as H s he L J it H' hr A hA fa hfa
  obtain ⟨v, H1, e1, hr⟩ := bnd_some hr
  obtain ⟨i, h1, hr⟩ := ob_some hr
  obtain ⟨xs, q1, hr⟩ := ob_some hr
  cases hr
  refine (hf env lo I as H s he L J).use e1 hA fun x s1 I1 as1 T1 J1 R1 => ?_
  rw [isR_some h1] at R1
  obtain ⟨a, fp, rfl, ha⟩ := vr_ref R1
  obtain ⟨kvs, rfl, dm, r1, hl1, hs1⟩ := or_dict (J1.obj ha (asDict_some q1))
  have hfr := fresh_off J1 (Nat.le_refl s1.heap.objs.size)
  have hnf : s1.heap.objs.size ∉ fa := fun q => absurd (Nat.lt_of_lt_of_le (hfa _ q) T1.size) (Nat.lt_irrefl _)
  refine wpAny_pyIter_dict hs1 dm ?_
  generalize hob : ({ cls := .type "dict_keyiterator", data := .fields #[.ref a, .int 0 0, .int kvs.length 0, .int xs.length 0] } : Obj) = ob_
  have hz : s1.heap.objs.size ≤ (s1.heap.push ob_).objs.size := by rw [Heap.size_push]; exact Nat.le_succ _
  have hk : ∀ b o, s1.heap.get? b = some o → (s1.heap.push ob_).get? b = some o := fun b o e => Heap.get?_push_of_some _ e
  refine ⟨s1.heap.objs.size, [s1.heap.objs.size], I1, as1, rfl, T1.trans (Tr.grow [] I1 as1 s1 s1.toks hz hk), J1.grow s1.toks hz hk, .keys ha ⟨ob_, Heap.get?_push_size _ (by rw [← hob]; rfl), by rw [← hob], by rw [← hob, r1.length]; rfl⟩ hfr.1 hfr.2 hnf, fun b hb => ?_⟩
  simp at hb; subst hb; exact T1.size

/-! a new key -/
section
variable {prog : Program} {w : World} {A : Around} {E : Value → Shared → Prop} {s : Shared} {K : Type} [DecidableEq K] {kn : PySem.KeyKind prog w K}
theorem dictSet_new {d : Addr} {kvs : List (K × Value)} {ep : Nat} {k : K} {key v : Value} {Q : Unit → Shared → Prop} (hkey : kn.is k key = true) (hm : s.heap.DictAt kn d kvs ep) (hnew : k ∉ kvs.map (·.1)) (hsz : kvs.length ≤ sizeLine)
    (hQ : ∀ h', h'.DictAt kn d (kvs ++ [(k, v)]) (ep + 1) → Heap.SameBut d s.heap h' → Q () { s with heap := h', toks := s.toks + 1 }) : wpAny (model prog w) A (dictSet d key v) Q E s := by
  obtain ⟨o, es, ho, hc, hd, hk, hp, hn⟩ := hm
  have hlen : es.size = kvs.length := by have := hp.length; simpa using this
  have hno : (es.findIdx? fun e => kn.is k e.key) = none := by
    have h1 := hp.findIdx k
    have h2 : (kvs.findIdx? fun kv => decide (kv.1 = k)) = none := by
      rw [List.findIdx?_eq_none_iff]
      intro x hx
      exact decide_eq_false fun e => hnew (e ▸ List.mem_map.mpr ⟨x, hx, rfl⟩)
    rw [h2] at h1
    rw [← h1]; obtain ⟨l⟩ := es; simp
  unfold dictSet
  refine wpAny_holding (wpAny_bind (kn.pyHash hkey ?_))
  unfold dictSetHashed
  refine wpAny_holding (wpAny_bind (wpAny_dictFind_of (s := { s with toks := s.toks + 1 }) hkey ho hd hk ?_))
  rw [hno]
  refine wpAny_bind (wpAny_rule (wpAny_updateDictKeys (hz := by rw [hlen]; exact hsz) (s := { s with toks := s.toks + 1 }) ho hd (hQ _ ⟨_, _, Heap.get?_update_self _ ho (Obj.isFreed_of_dict (Obj.data_mapDictKeys hd _)), hc.mapDictKeys _, Obj.data_mapDictKeys hd _, hk.push hkey _, ?_, ?_⟩ (Heap.SameBut.update ..))))
  · have := hp.append hkey (kn.hash k) v
    obtain ⟨l⟩ := es
    simpa using this
  · rw [List.map_append, List.nodup_append]
    exact ⟨hn, by simp, fun a ha b hb => by simp at hb; subst hb; exact fun e => hnew (e ▸ ha)⟩
theorem setItem_new {d : Addr} {kvs : List (K × Value)} {ep : Nat} {k : K} {key v : Value} {Q : Unit → Shared → Prop} (hkey : kn.is k key = true) (hm : s.heap.DictAt kn d kvs ep) (hnew : k ∉ kvs.map (·.1)) (hsz : kvs.length ≤ sizeLine)
    (hQ : ∀ h', h'.DictAt kn d (kvs ++ [(k, v)]) (ep + 1) → Heap.SameBut d s.heap h' → Q () { s with heap := h', toks := s.toks + 1 }) : wpAny (model prog w) A (setItem (.ref d) key v) Q E s := by
  have hT := hm.dictOf.typeIs
  unfold setItem
  refine wpAny_holding (wpAny_bind (wpAny_sequenceKey hT (by decide) ?_))
  refine wpAny_bind (wpAny_callSpecial?_slot (name := Str.ofString "__setitem__") hT PySem.slot_dict_setitem (wpAny_call_entry PySem.slot_dict_setitem hT PySem.entry_dict_setitem ?_ (PySem.args_dict_setitem _ _ _)))
  show wpAny _ _ (Builtin.Dict.notOrdered "__setitem__" ⟨[.ref d, key, v], []⟩ >>= _) _ _ s
  refine wpAny_bind (wpAny_notOrdered_dict hT ?_)
  show wpAny _ _ (dictSet d key v >>= _) _ _ s
  exact wpAny_bind (dictSet_new hkey hm hnew hsz fun h' hm' hs' => wpAny_pure ⟨.none, rfl, wpAny_pure (hQ h' hm' hs')⟩)
end

def setD (a b v : V) (H : List O) : Option (List O) := ob (isR a) fun r => ob (isS b) fun k => ob (asDict H r) fun xs => gd (Nat.blt xs.length big) (match dget xs k with
  | none => some (H.set r (.dict (xs ++ [(k, v)])))
  | some _ => none)
theorem setD_some {a b v : V} {H H' : List O} (h : setD a b v H = some H') : ∃ r k xs, a = .ref r ∧ b = .str k ∧ asDict H r = some xs ∧ xs.length < big ∧ dget xs k = none ∧ H' = H.set r (.dict (xs ++ [(k, v)])) := by
  obtain ⟨r, h1, h⟩ := ob_some h
  obtain ⟨k, h2, h⟩ := ob_some h
  obtain ⟨xs, q1, h⟩ := ob_some h
  obtain ⟨q2, h⟩ := gd_some h
  cases e : dget xs k with
  | some w => rw [e] at h; cases h
  | none => rw [e] at h; cases h; exact ⟨r, k, xs, isR_some h1, isS_some h2, q1, Nat.lt_of_succ_le (Nat.le_of_ble_eq_true q2), e, rfl⟩
def sSetD (f g h : Ef) : Sf := fun lo H => bnd (f lo H) fun v H1 => bnd (g lo H1) fun a H2 => bnd (h lo H2) fun b H3 => ob (setD a b v H3) fun H4 => some ((.next, lo), H4)
theorem ST.setD {c : Cx} {n : Nat} {sc : Scope} {o i e : Expr} {p pos : Pos} {f g h : Ef} (hf : ET c n sc e f) (hg : ET c n sc o g) (hh : ET c n sc i h) (hw : ∀ env, swapsWith e (some (.Subscript o i p)) pos.line env = pure false) :
    ST c n sc (.Assign [.Subscript o i p] e pos) (sSetD f g h) := by
  intro env lo I as H s he L J r H' hr A hA
  obtain ⟨v, H1, e1, hr⟩ := bnd_some hr
  obtain ⟨a, H2, e2, hr⟩ := bnd_some hr
  obtain ⟨b, H3, e3, hr⟩ := bnd_some hr
  obtain ⟨H4, e4, hr⟩ := ob_some hr
  cases hr
  refine wpAny_Assign_Subscript ((hf env lo I as H s he L J).use e1 hA fun x s1 I1 as1 T1 J1 R1 => (hg env lo I1 as1 H1 s1 he (L.tr T1) J1).use e2 hA fun y s2 I2 as2 T2 J2 R2 => (hh env lo I2 as2 H2 s2 he ((L.tr T1).tr T2) J2).use e3 hA fun z s3 I3 as3 T3 J3 R3 => ?_) (hw env)
  replace R1 := (R1.tr T2).tr T3
  replace R2 := R2.tr T3
  have L3 := ((L.tr T1).tr T2).tr T3
  have T := T1.trans (T2.trans T3)
  obtain ⟨r, k, xs, rfl, rfl, q1, q2, q3, rfl⟩ := setD_some e4
  obtain ⟨aa, fp, rfl, ha⟩ := vr_ref R2
  obtain ⟨t, rfl, hkl⟩ := vr_str R3
  obtain ⟨kvs, rfl, dm, r1, hl1, hs1⟩ := or_dict (J3.obj ha (asDict_some q1))
  have hz := r1.length
  have hnew := ((dget_spec r1 k).2 q3).2
  refine setItem_new (kn := knd c) (strKind_is c.prog c.w _ t) dm hnew (by rw [← hz]; exact Nat.le_trans hl1 big_le) fun h' hm' hs' => ?_
  have T4 := Tr.set (fa := []) I3 as3 s3 (s3.toks + 1) (mem_flat ha) hs'
  refine ⟨I3, as3, (T.trans T4).nil, J3.set (s3.toks + 1) ha (by simp) hs' (.dict (kvs := kvs ++ [(⟨k.toArray⟩, x)]) (by rw [List.length_append]; exact hm') (r1.append (.cons ⟨rfl, hkl, R1⟩ .nil)) (by rw [List.length_append]; exact q2) hs1), .next, L3.tr T4⟩

/-! {key: value} -/
def eDict1 (f g : Ef) : Ef := fun lo H => bnd (f lo H) fun a H1 => bnd (g lo H1) fun b H2 => ob (isS a) fun k => some (.ref H2.length, H2 ++ [.dict [(k, b)]])
theorem ET.dict1 {c : Cx} {n : Nat} {sc : Scope} {k e : Expr} {pos : Pos} {f g : Ef} (hf : ET c n sc k f) (hg : ET c n sc e g) : ET c n sc (.Dict [some k] [e] pos) (eDict1 f g) := by
  intro env lo I as H s he L J v H' hr A hA
  obtain ⟨a, H1, e1, hr⟩ := bnd_some hr
  obtain ⟨b, H2, e2, hr⟩ := bnd_some hr
  obtain ⟨l, h1, hr⟩ := ob_some hr
  cases hr
  have hfr := fresh_off J (Nat.le_refl s.heap.objs.size)
  have hz : s.heap.objs.size ≤ (s.heap.push { cls := .type "dict", data := .dict #[] }).objs.size := by rw [Heap.size_push]; exact Nat.le_succ _
  have hk : ∀ b o, s.heap.get? b = some o → (s.heap.push { cls := .type "dict", data := .dict #[] }).get? b = some o := fun b o e => Heap.get?_push_of_some _ e
  have T0 := Tr.grow [] I as s s.toks hz hk
  have J0 := J.grow s.toks hz hk
  have hd0 : (s.heap.push { cls := .type "dict", data := .dict #[] }).get? s.heap.objs.size = some { cls := .type "dict", data := .dict #[] } := Heap.get?_push_size _ rfl
  have hlt0 : s.heap.objs.size < (s.heap.push { cls := .type "dict", data := .dict #[] }).objs.size := by rw [Heap.size_push]; exact Nat.lt_succ_self _
  have hsh : (evalEachOpt [some k] env).zip ((evalEach [e] env).map fun (v : Sem Value) => (do let x ← v; standAt pos; pure x : Sem Value)) = [(eval k env, (do let x ← eval e env; standAt pos; pure x : Sem Value))].map (fun p => (some p.1, p.2)) := rfl
  rw [arm_eval_Dict, hsh, dictDisplay_pairs _ (by simp) (Nat.le_of_ble_eq_true rfl)]
  refine wpAny_bind (wpAny_standAt (wpAny_bind ?_))
  unfold subDict
  refine wpAny_bind (wpAny_alloc ?_)
  refine wpAny_bind (wpAny_holding ?_)
  rw [if_pos (Nat.le_of_ble_eq_true rfl)]
  generalize hS : ({ s with heap := s.heap.push { cls := .type "dict", data := .dict #[] } } : Shared) = s0 at T0 J0
  replace hd0 : s0.heap.get? s.heap.objs.size = some { cls := .type "dict", data := .dict #[] } := by rw [← hS]; exact hd0
  replace hlt0 : s.heap.objs.size < s0.heap.objs.size := by rw [← hS]; exact hlt0
  refine wpAny_bind (evalPairs_cons ((hf env lo I as H s0 he (L.tr T0) J0).use e1 hA fun x s1 I1 as1 T1 J1 R1 => wpAny_bind ((hg env lo I1 as1 H1 s1 he ((L.tr T0).tr T1) J1).use e2 hA fun y s2 I2 as2 T2 J2 R2 => wpAny_bind (wpAny_standAt (wpAny_pure (evalPairs_nil ?_))))))
  have T12 := T1.trans T2
  have d1 : s.heap.objs.size ∉ as2.flatten := fun q => by
    rcases T12.fresh _ q with q | q
    · exact hfr.1 q
    · exact absurd hlt0 (Nat.not_lt.mpr q)
  have d2 : I2 s.heap.objs.size = none := by
    cases eo : I2 s.heap.objs.size with
    | none => rfl
    | some o => rcases T12.immN _ _ eo with q | q | q
                · rw [hfr.2] at q; cases q
                · exact absurd hlt0 (Nat.not_lt.mpr q)
                · exact nomatch q
  have d3 : s2.heap.get? s.heap.objs.size = some { cls := .type "dict", data := .dict #[] } := T12.kept _ _ hd0 hfr.1 (by simp)
  replace R1 := R1.tr T2
  rw [isS_some h1] at R1
  obtain ⟨t, rfl, hl⟩ := vr_str R1
  refine wpAny_holding ?_
  have hm : s2.heap.DictAt (knd c) s.heap.objs.size [] 0 := ⟨_, #[], d3, ⟨rfl, rfl, rfl⟩, rfl, fun _ he => by simp at he, PySem.Pairs.nil, List.nodup_nil⟩
  refine wpAny_bind ?_
  rw [List.forIn_cons]
  refine wpAny_bind (wpAny_bind (dictSet_new (kn := knd c) (strKind_is c.prog c.w _ t) hm (by simp) (Nat.zero_le _) fun h' hm' hs' => wpAny_pure ?_))
  dsimp only
  rw [List.forIn_nil]
  refine wpAny_pure (wpAny_pure (wpAny_pure (wpAny_pure ?_)))
  have hsz' : s2.heap.objs.size ≤ h'.objs.size := by rw [hs'.1]; exact Nat.le_refl _
  have hk' : ∀ b o, b ∉ [s.heap.objs.size] → s2.heap.get? b = some o → h'.get? b = some o := fun b o hb e => (hs'.2 b (fun z => hb (by simp [z]))).trans e
  have J3 := J2.own (own := [s.heap.objs.size]) (h' := h') (s2.toks + 1) (fun z hz => by simp at hz; subst hz; exact ⟨d1, d2⟩) hsz' hk'
  have hlt2 : s.heap.objs.size < h'.objs.size := Nat.lt_of_lt_of_le (Nat.lt_of_lt_of_le hlt0 T12.size) hsz'
  have hsys : ((s.heap.objs.size : Nat) == sysModules) = false := by
    have := J.glob.lt
    have h3 : 3 < s.heap.objs.size := this
    rw [beq_eq_false_iff_ne]
    exact Nat.ne_of_gt (Nat.lt_trans (by decide : (1 : Nat) < 3) h3)
  obtain ⟨ex, hex⟩ := T12.pre
  refine ⟨I2, as2 ++ [[s.heap.objs.size]], ?_, J3.adopt d1 hlt2 d2 (.dict (kvs := [(⟨l.toArray⟩, y)]) hm' (.cons ⟨rfl, hl, R2.mono (fun _ _ e => e)⟩ .nil) (by show 1 ≤ 1000000; decide) hsys), J2.newRef _⟩
  refine ⟨T12.imm, fun b o q => ?_, ⟨ex ++ [[s.heap.objs.size]], by rw [hex, List.append_assoc]⟩, fun b hb => ?_, fun b o q h1 h2 => ?_, ?_⟩
  · rcases T12.immN b o q with q | q | q
    · exact .inl q
    · exact .inr (.inl (Nat.le_trans (Nat.le_of_lt hlt0) q))
    · exact .inr (.inr q)
  · rw [List.flatten_append, List.mem_append] at hb
    rcases hb with hb | hb
    · rcases T12.fresh b hb with q | q
      · exact .inl q
      · exact .inr (Nat.le_trans (Nat.le_of_lt hlt0) q)
    · simp at hb; subst hb; exact .inr (Nat.le_refl _)
  · exact hk' b o (by simp; exact Nat.ne_of_lt (Heap.lt_size q)) (T12.kept b o (T0.kept b o q h1 h2) h1 h2)
  · exact Nat.le_trans (Nat.le_of_lt hlt0) (Nat.le_trans T12.size hsz')

/-! += of a list -/
theorem iadd_list {prog : Program} {w : World} {A : Around} {E : Value → Shared → Prop} {s : Shared} {l b : Addr} {xs ys : Array Value} {n m : Nat} {Q : Value → Shared → Prop} (hl : s.heap.get? l = some { cls := .type "list", data := .seq xs n }) (hb : s.heap.get? b = some { cls := .type "list", data := .seq ys m }) (hs0 : ¬(!xs.isEmpty && Builtin.List.listTooLong (xs.size + ys.size)) = true) (hsz : xs.size + ys.size ≤ sizeLine)
    (h : Q (.ref l) { s with heap := s.heap.update l (Obj.mapSeq fun x => x ++ ys) }) : wpAny (model prog w) A (inplaceOp .Add (.ref l) (.ref b)) Q E s := by
  have ha : s.TypeIs (.ref l) "list" := ⟨_, hl, rfl⟩
  have hb' : s.TypeIs (.ref b) "list" := ⟨_, hb, rfl⟩
  have hq : isSeqSlot (some (.builtin "list.__iadd__")) = true := by decide +kernel
  have hfi : fillsInplaceSlot (.type "list") "add" (Operator.Add == .Add) = pure false := by
    unfold fillsInplaceSlot
    show (typeLookup (.type "list") (dunderI "add") >>= fun fi => pure (fi.isSome && !isSeqSlot fi)) = pure false
    rw [F.slot_list_iadd.lookup]
    show (pure (true && !isSeqSlot (some (.builtin "list.__iadd__"))) : Sem Bool) = _
    rw [hq]; rfl
  unfold inplaceOp
  refine wpAny_holding (wpAny_bind (wpAny_typeOf ha (wpAny_bind (wpAny_of_eq hfi ?_))))
  show wpAny _ A (if false = true then _ else _) Q E s
  rw [if_neg Bool.false_ne_true]
  refine wpAny_bind (wpAny_binaryOp1_none (nm := "add") ha hb' noFill_list_add ?_)
  refine wpAny_bind (wpAny_of_eq (PySem.seqSlot_of F.slot_list_iadd.lookup hq) ?_)
  refine wpAny_bind (wpAny_rule ?_)
  refine call_meets F.slot_list_iadd ha F.entry_list_iadd (F.args_list_iadd_2 _ _) (PySem.AutoSeq1.list___iadd___list_list_0 l xs n b ys m hs0 (Nat.le_trans (Nat.le_add_right _ _) hsz) (Nat.le_succ_of_le hsz)) ⟨hl, hb, h⟩
def pIaddL : Bp := fun a b H => ob (isR a) fun i => ob (isR b) fun j => ob (asList H i) fun xs => ob (asList H j) fun ys => gd (Nat.ble (xs ++ ys).length 1000) (some (.ref i, H.set i (.list (xs ++ ys))))
theorem PB.iaddL (c : Cx) (n : Nat) : PB c n (inplaceOp .Add) pIaddL := by
  intro a b x y I as H s J Ra Rb v H' hr A hA
  obtain ⟨i, h1, hr⟩ := ob_some hr
  obtain ⟨j, h2, hr⟩ := ob_some hr
  obtain ⟨xs, e1, hr⟩ := ob_some hr
  obtain ⟨ys, e2, hr⟩ := ob_some hr
  obtain ⟨e3, hr⟩ := gd_some hr
  cases hr
  rw [isR_some h1] at Ra
  rw [isR_some h2] at Rb
  obtain ⟨a, fp, rfl, ha⟩ := vr_ref Ra
  obtain ⟨b, fp', rfl, hb⟩ := vr_ref Rb
  have hbb := Nat.le_of_ble_eq_true e3
  obtain ⟨items, _, rfl, o1, r1, hl1⟩ := or_list (J.obj ha (asList_some e1))
  obtain ⟨items', _, rfl, o2, r2, hl2⟩ := or_list (J.obj hb (asList_some e2))
  have z1 := r1.length
  have z2 := r2.length
  have z3 : xs.length + ys.length ≤ 1000 := by rw [← List.length_append]; exact hbb
  have hs : Heap.SameBut a s.heap (s.heap.update a (Obj.mapSeq fun x => x ++ items'.toArray)) := Heap.SameBut.update ..
  obtain ⟨nn, e5⟩ : ∃ nn, (s.heap.update a (Obj.mapSeq fun x => x ++ items'.toArray)).get? a = some { cls := .type "list", data := .seq (items ++ items').toArray nn } := by
    rw [Heap.get?_update_self _ o1 (by rfl)]
    have e6 : (items ++ items').toArray = items.toArray ++ items'.toArray := by simp
    rw [e6]
    exact ⟨_, rfl⟩
  refine iadd_list o1 o2 ?_ (by simp only [List.size_toArray]; rw [← z1, ← z2]; exact Nat.le_trans z3 (by decide)) ⟨I, as, Tr.set I as s s.toks (mem_flat ha) hs, J.set s.toks ha (by simp) hs (.list e5 (r1.append r2) (Nat.le_trans hbb (by decide))), .ref ha⟩
  unfold Builtin.List.listTooLong
  simp only [List.size_toArray]
  rw [← z1, ← z2]
  simp [sizeLine_eq]
  intro _
  omega

end
end Mine
-- part M35.lean
set_option autoImplicit false
set_option maxRecDepth 100000
set_option linter.unusedVariables false
namespace Mine
open PySem PySem.W PyProof.Rows
noncomputable section

/-! sorted of the values of a dict of ints -/
def insZ (x : Int) (l : List Int) : List Int := List.rec [x] (fun y r ih => match intLt y x with
  | true => y :: ih
  | false => x :: y :: r) l
def sortZ (l : List Int) : List Int := List.rec [] (fun x _ ih => insZ x ih) l
theorem insZ_perm (x : Int) : ∀ l, (insZ x l).Perm (x :: l)
  | [] => .refl _
  | y :: r => by
    show (match intLt y x with | true => y :: insZ x r | false => x :: y :: r).Perm _
    cases intLt y x with
    | true => exact ((insZ_perm x r).cons y).trans (.swap _ _ _)
    | false => exact .refl _
theorem sortZ_perm : ∀ l, (sortZ l).Perm l
  | [] => .refl _
  | x :: r => (insZ_perm x _).trans ((sortZ_perm r).cons x)
theorem insZ_rises (x : Int) : ∀ l : List Int, l.Pairwise (· ≤ ·) → (insZ x l).Pairwise (· ≤ ·)
  | [], _ => by simp [insZ]
  | y :: r, h => by
    obtain ⟨h1, h2⟩ := List.pairwise_cons.mp h
    show (match intLt y x with | true => y :: insZ x r | false => x :: y :: r).Pairwise _
    rw [intLt_eq]
    by_cases hyx : y < x
    · rw [decide_eq_true hyx]
      refine List.pairwise_cons.mpr ⟨fun z hz => ?_, insZ_rises x r h2⟩
      rcases List.mem_cons.mp ((insZ_perm x r).mem_iff.mp hz) with rfl | hz
      · exact Int.le_of_lt hyx
      · exact h1 z hz
    · rw [decide_eq_false hyx]
      have hxy := Int.not_lt.mp hyx
      refine List.pairwise_cons.mpr ⟨fun z hz => ?_, h⟩
      rcases List.mem_cons.mp hz with rfl | hz
      · exact hxy
      · exact Int.le_trans hxy (h1 z hz)
theorem sortZ_rises : ∀ l, (sortZ l).Pairwise (· ≤ ·)
  | [] => .nil
  | x :: r => insZ_rises x _ (sortZ_rises r)
theorem eq_sortZ {ns ns' : List Int} (hp : ns'.Perm ns) (hs : ns'.Pairwise (· ≤ ·)) : ns' = sortZ ns :=
  List.Perm.eq_of_pairwise (fun _ _ _ _ a b => Int.le_antisymm a b) hs (sortZ_rises ns) (hp.trans (sortZ_perm ns).symm)
theorem ints_all2 {c : Cx} {I : Im} {as : As} : ∀ {ts : List Int} {vs : List Value}, IntsAre vs ts → All2 (VR c I as) (ts.map V.int) vs
  | [], _, .nil => .nil
  | t :: ts, _, .cons _ u r => .cons (.int _ u) (ints_all2 r)
theorem kvs_vals {c : Cx} {I : Im} {as : As} {xs : List (List Nat × V)} {kvs : List (Str × Value)} (R : All2 (KvR c I as) xs kvs) : All2 (VR c I as) (xs.map (·.2)) (kvs.map (·.2)) := by
  induction R with
  | nil => exact .nil
  | cons h _ ih => exact .cons h.2.2 ih
theorem items_eq {kvs : List (Str × Value)} {acc : Array Value} (h : ItemsOf (fun i v => ∃ k, kvs[i]? = some (k, v)) acc kvs.length) : acc.toList = kvs.map (·.2) := by
  apply List.ext_getElem?
  intro i
  rw [Array.getElem?_toList, List.getElem?_map]
  cases e : acc[i]? with
  | some v =>
    obtain ⟨k, hk⟩ := h.2 i v e
    rw [hk]; rfl
  | none =>
    have h1 := Array.getElem?_eq_none_iff.mp e
    rw [h.1] at h1
    rw [List.getElem?_eq_none_iff.mpr h1]; rfl
def eSortedV (f : Ef) : Ef := fun lo H => bnd (f lo H) fun v H1 => ob (isR v) fun i => ob (asDict H1 i) fun xs => gd (Nat.blt xs.length 64) (ob (intsOf (xs.map (·.2))) fun ns => some (.ref H1.length, H1 ++ [.list ((sortZ ns).map V.int)]))
theorem ET.sortedV {c : Cx} {n : Nat} {sc : Scope} {x : Str} {p pos apos pos' : Pos} {o : Expr} {f : Ef} (K : ScOk sc) (j : Nat) (h : sc.names[j]? = some (x, .globalImplicit)) (hv : c.mg x = none ∧ c.mb x = some (.builtin "sorted"))
    (hf : ET c n sc o f)
    (he : ∀ env, ∃ pl, eval (.Call (.Attribute o "values" apos) [] [] pos') env = (do
      let ov ← eval o env
      standAt apos.atName
      let (f, first) ← holding [ov] (getMethod ov (Str.ofString "values") pl)
      callWith pos' f first (backTo pos' (starEach [] env)) [])) :
    ET c n sc (.Call (.Name x p) [.Call (.Attribute o "values" apos) [] [] pos'] [] pos) (eSortedV f) := by
  intro env lo I as H s hE L J v H' hr A hA
  obtain ⟨a, H1, e1, hr⟩ := bnd_some hr
  obtain ⟨i, h1, hr⟩ := ob_some hr
  obtain ⟨xs, q1, hr⟩ := ob_some hr
  obtain ⟨q2, hr⟩ := gd_some hr
  obtain ⟨ns, q3, hr⟩ := ob_some hr
  cases hr
  have q2 : xs.length < 64 := Nat.lt_of_succ_le (Nat.le_of_ble_eq_true q2)
  obtain ⟨pl, heq⟩ := he env
  refine Call_ (load_builtin hE J (K.lk h) (K.db h) hv.1 hv.2 (Calls.callWith_builtin (by rfl) (evalArgs_any (by rfl) (args_cons ?_ (by rfl))))) (by rfl)
  refine MethodCall_ (pl := pl) ((hf env lo I as H s hE L J).use e1 hA fun y s1 I1 as1 T1 J1 R1 => ?_) heq
  rw [isR_some h1] at R1
  obtain ⟨d, fp, rfl, ha⟩ := vr_ref R1
  obtain ⟨kvs, rfl, dm, r1, hl1, hs1⟩ := or_dict (J1.obj ha (asDict_some q1))
  have hz := r1.length
  refine getMethod_builtin dm.dictOf.typeIs F.plainAttrs_dict F.slot_dict_values F.type_dict_values dm.dictOf.mapOf.noDict ?_
  refine Calls.callWith_builtin (by rfl) (evalArgs_any (by rfl) (args_nil ?_))
  refine call_meetsIn F.slot_dict_values dm.dictOf.typeIs F.entry_dict_values (F.args_dict_values_1 _) (meets_dict_values (PySem.strKind c.prog c.w) d hs1) ⟨⟨kvs, dm.dictOf⟩, ?_⟩
  have dm2 : (s1.heap.push { cls := .type "dict_values", data := .fields #[.ref d] }).DictAt (PySem.strKind c.prog c.w) d kvs xs.length := dm.push _
  have hv2 : (s1.heap.push { cls := .type "dict_values", data := .fields #[.ref d] }).IsValuesView s1.heap.objs.size d := ⟨_, Heap.get?_push_size _ rfl, rfl, rfl⟩
  refine args_nil ?_
  refine Calls.call_function_entry kind_sorted plain_sorted entry_sorted (args_sorted1 _) ?_
  unfold Builtin.«sorted»
  refine wpAny_bind (m := checkCount "sorted" 1 1 _) (wpAny_pure ?_)
  have hh : A.in1.handled = none := hA.handled
  have h16 : kvs.length ≤ sizeLine := by rw [sizeLine_eq]; omega
  refine wpAny_bind (kdu_collect (A := A.in1) (kdl_values (knd := PySem.strKind c.prog c.w) (d := d) (kvs := kvs) (ep := xs.length)) hA.handled ⟨hv2, dm2⟩ h16 fun h' tk acc hk hacc => ?_)
  rw [items_eq hacc]
  have hkv : (kvs.map (·.2)).length = xs.length := by rw [List.length_map, ← hz]
  refine wpAny_bind (wpAny_newList ?_ (by rw [hkv, hz]; exact h16))
  have hoL : (h'.push (seqObj "list" (kvs.map (·.2)).toArray 0)).get? h'.objs.size = some (seqObj "list" (kvs.map (·.2)).toArray 0) := Heap.get?_push_size _ rfl
  refine wpAny_bind (wpAny_holding (wpAny_call_entry slot_list_sort ⟨_, hoL, rfl⟩ entry_list_sort (list_sort_tree hoL (intsAre_of (kvs_vals r1) q3) (by rw [hkv]; exact q2) fun out ns' a1 a2 a3 => ⟨_, rfl, ?_⟩) (args_list_sort _)))
  obtain ⟨ee, hat⟩ := sortedHeap_at (vs := kvs.map (·.2)) (out := out) hoL
  have hk0 : ∀ b o, s1.heap.get? b = some o → h'.get? b = some o := fun b o e => hk b o (Heap.get?_push_of_some _ e)
  have hlt : s1.heap.objs.size < h'.objs.size := Heap.lt_size (hk _ _ (Heap.get?_push_size _ rfl))
  have hk2 : ∀ b o, s1.heap.get? b = some o → (sortedHeap (h'.push (seqObj "list" (kvs.map (·.2)).toArray 0)) h'.objs.size (kvs.map (·.2)) out).get? b = some o := fun b o e => by
    have hb := Heap.lt_size (hk0 b o e)
    rw [sortedHeap_old (Nat.ne_of_lt hb) (by rw [size_push']; exact Nat.lt_succ_of_lt hb), Heap.get?_push_ne _ _ _ (Nat.ne_of_lt hb)]
    exact hk0 b o e
  have hsz := Heap.lt_size hat
  have e := eq_sortZ a2 a3
  subst e
  have hlen : (sortZ ns).length ≤ big := by
    rw [(sortZ_perm ns).length_eq]
    have : ∀ {ys : List V} {ms : List Int}, intsOf ys = some ms → ms.length = ys.length := by
      intro ys
      induction ys with
      | nil => intro ms h; cases h; rfl
      | cons y ys ih =>
        intro ms h
        obtain ⟨l, e0, h⟩ := ob_some h
        obtain ⟨ts', e1, h⟩ := ob_some h
        cases h
        exact congrArg (· + 1) (ih e1)
    rw [this q3, List.length_map]; exact hl1
  have hle : s1.heap.objs.size ≤ h'.objs.size := Nat.le_of_lt hlt
  exact wpAny_pure ⟨_, rfl, I1, _, T1.trans (Tr.allocG _ _ _ _ tk hle (Nat.le_trans hle (Nat.le_of_lt hsz)) hk2), J1.allocG tk hle hsz (Nat.le_trans hle (Nat.le_of_lt hsz)) hk2 (.list (items := out.toList) (n := ee) (by simpa using hat) (ints_all2 a1) (by rw [List.length_map]; exact hlen)), J1.newRef _⟩

end
end Mine
-- part L1.lean
set_option autoImplicit false
set_option maxHeartbeats 0
set_option maxRecDepth 100000
set_option maxHeartbeats 0
set_option Elab.async false
set_option linter.unusedVariables false
namespace Mine
open PySem PySem.W PyProof.Rows
noncomputable section
def T : List Stmt := PySem.Challenge.pw_pg0119_01.main.body
structure Ads where
  a_substitution_cost : Addr
  a_levenshtein_distance : Addr
  areplace : Addr
  a_law_street : Addr
  a_law_onward : Addr
  alaw : Addr
  a_law_lexer : Addr
  aget_token : Addr
  apush_token : Addr
  a__init__ : Addr
structure Glob (c : Cx) (K : Frag) (d : CloDef) (ad : Ads) : Prop where
  c_MAX_STRING_SIZE : ∃ t, c.mg "_MAX_STRING_SIZE" = some (.int 40 t)
  c_MOVE_COST : ∃ t, c.mg "_MOVE_COST" = some (.int 2 t)
  c_CASE_COST : ∃ t, c.mg "_CASE_COST" = some (.int 1 t)
  b_abs : c.mg "abs" = none ∧ c.mb "abs" = some (.builtin "abs")
  b_iter : c.mg "iter" = none ∧ c.mb "iter" = some (.builtin "iter")
  b_len : c.mg "len" = none ∧ c.mb "len" = some (.builtin "len")
  b_list : c.mg "list" = none ∧ c.mb "list" = some (.type "list")
  b_max : c.mg "max" = none ∧ c.mb "max" = some (.builtin "max")
  b_min : c.mg "min" = none ∧ c.mb "min" = some (.builtin "min")
  b_range : c.mg "range" = none ∧ c.mb "range" = some (.type "range")
  b_sorted : c.mg "sorted" = none ∧ c.mb "sorted" = some (.builtin "sorted")
  f_substitution_cost : c.mg "_substitution_cost" = some (.ref ad.a_substitution_cost)
  f_levenshtein_distance : c.mg "_levenshtein_distance" = some (.ref ad.a_levenshtein_distance)
  freplace : c.mg "replace" = some (.ref ad.areplace)
  f_law_street : c.mg "_law_street" = some (.ref ad.a_law_street)
  f_law_onward : c.mg "_law_onward" = some (.ref ad.a_law_onward)
  flaw : c.mg "law" = some (.ref ad.alaw)
  f_law_lexer : c.mg "_law_lexer" = some (.ref ad.a_law_lexer)
  fcls : c.mg "_netrclex" = some (.ref c.cls)
  X : ClsOk c K
  D : CloOk d
  clo : c.clo = d.rel
  bm : BmOk c K "_read_char"
  n_instream : findIn K (.ref c.cls) "instream" = some none
  n_lineno : findIn K (.ref c.cls) "lineno" = some none
  n_pushback : findIn K (.ref c.cls) "pushback" = some none
  n_read : findIn K (.ref c.cls) "read" = some none
  n_whitespace : findIn K (.ref c.cls) "whitespace" = some none
  m_get_token : MethOk c K "get_token" ad.aget_token
  m_push_token : MethOk c K "push_token" ad.apush_token
  m___init__ : MethOk c K "__init__" ad.a__init__
  keep : keepIn K (.ref c.cls) = true
def B_substitution_cost : List Stmt := defBody (nthStmt T 8)
def C_substitution_cost : Scope := defScope (nthStmt T 8)
theorem K_substitution_cost : ScOk C_substitution_cost := ⟨rfl, by decide +kernel, by decide +kernel, by decide +kernel⟩
def F_substitution_cost : Sf :=
  (sCons (sIf (tOf (eBin pEq (eName 0) (eName 1))) (sCons (sRet (eV (.int 0)))
  sNil) sNil)
  (sCons (sIf (tOf (eBin pEq (eMeth isStr mLower (eName 0) aNil) (eMeth isStr mLower (eName 1) aNil))) (sCons (sRet (eV (.int 1)))
  sNil) sNil)
  (sCons (sRet (eV (.int 2)))
  sNil)))
def P_substitution_cost : Fp := fnOf 2 4 F_substitution_cost
theorem S_substitution_cost (c : Cx) (n : Nat) (KF : Frag) (d : CloDef) (ad : Ads) (G : Glob c KF d ad)  : SS c n C_substitution_cost B_substitution_cost F_substitution_cost :=
  have K := K_substitution_cost
  (SS.cons (ST.ite (TT.cmp (ET.nm K 0 rfl) (ET.nm K 1 rfl) (PB.eq c n) rfl) (SS.cons (ST.ret ET.intC)
  SS.nil) SS.nil)
  (SS.cons (ST.ite (TT.cmp (ET.meth (MS.lower c n) (ET.nm K 0 rfl) AT.nil rfl (fun env => ⟨_, rfl⟩)) (ET.meth (MS.lower c n) (ET.nm K 1 rfl) AT.nil rfl (fun env => ⟨_, rfl⟩)) (PB.eq c n) rfl) (SS.cons (ST.ret (ET.gi K 2 rfl 1 (G.c_CASE_COST).choose_spec))
  SS.nil) SS.nil)
  (SS.cons (ST.ret (ET.gi K 3 rfl 2 (G.c_MOVE_COST).choose_spec))
  SS.nil)))

def B_levenshtein_distance : List Stmt := defBody (nthStmt T 9)
def C_levenshtein_distance : Scope := defScope (nthStmt T 9)
theorem K_levenshtein_distance : ScOk C_levenshtein_distance := ⟨rfl, by decide +kernel, by decide +kernel, by decide +kernel⟩
def F_levenshtein_distance : Sf :=
  (sCons (sIf (tOf (eBin pEq (eName 0) (eName 1))) (sCons (sRet (eV (.int 0)))
  sNil) sNil)
  (sCons (sAsg 3 (eV (.int 0)))
  (sCons (whl (tAnd (tOf (eSlice (eName 0) (eName 3) (eV .none))) (tAnd (tOf (eSlice (eName 1) (eName 3) (eV .none))) (tAnd (tOf (eBin pEq (eBin pItem (eName 0) (eName 3)) (eBin pItem (eName 1) (eName 3)))) tTrue))) (sCons (sAug pIadd 3 (eV (.int 1)))
  sNil) 200)
  (sCons (sAsg 0 (eSlice (eName 0) (eName 3) (eV .none)))
  (sCons (sAsg 1 (eSlice (eName 1) (eName 3) (eV .none)))
  (sCons (sAsg 4 (eV (.int 0)))
  (sCons (whl (tAnd (tOf (eSlice (eName 0) (eV .none) (eOr (eName 4) (eV .none)))) (tAnd (tOf (eSlice (eName 1) (eV .none) (eOr (eName 4) (eV .none)))) (tAnd (tOf (eBin pEq (eBin pItem (eName 0) (eBin pSub (eName 4) (eV (.int 1)))) (eBin pItem (eName 1) (eBin pSub (eName 4) (eV (.int 1)))))) tTrue))) (sCons (sAug pSub 4 (eV (.int 1)))
  sNil) 200)
  (sCons (sAsg 0 (eSlice (eName 0) (eV .none) (eOr (eName 4) (eV .none))))
  (sCons (sAsg 1 (eSlice (eName 1) (eV .none) (eOr (eName 4) (eV .none))))
  (sCons (sIf (tOr (tNot (tOf (eName 0))) (tOr (tNot (tOf (eName 1))) tFalse)) (sCons (sRet (eBin pMul (eV (.int 2)) (eBin pAdd (eCall pLen (aCons (eName 0) aNil)) (eCall pLen (aCons (eName 1) aNil)))))
  sNil) sNil)
  (sCons (sIf (tOr (tOf (eBin pGt (eCall pLen (aCons (eName 0) aNil)) (eV (.int 40)))) (tOr (tOf (eBin pGt (eCall pLen (aCons (eName 1) aNil)) (eV (.int 40)))) tFalse)) (sCons (sRet (eBin pAdd (eName 2) (eV (.int 1))))
  sNil) sNil)
  (sCons (sIf (tOf (eBin pLt (eCall pLen (aCons (eName 1) aNil)) (eCall pLen (aCons (eName 0) aNil)))) (sCons (sSwap 0 1 (eName 1) (eName 0))
  sNil) sNil)
  (sCons (sIf (tOf (eBin pGt (eBin pMul (eBin pSub (eCall pLen (aCons (eName 1) aNil)) (eCall pLen (aCons (eName 0) aNil))) (eV (.int 2))) (eName 2))) (sCons (sRet (eBin pAdd (eName 2) (eV (.int 1))))
  sNil) sNil)
  (sCons (sAsg 5 (eListR (aCons (eV (.int 2)) (aCons (eBin pMul (eV (.int 2)) (eBin pAdd (eCall pLen (aCons (eName 0) aNil)) (eV (.int 1)))) (aCons (eV (.int 2)) aNil)))))
  (sCons (sAsg 6 (eV (.int 0)))
  (sCons (sFor 7 (iRange (aCons (eCall pLen (aCons (eName 1) aNil)) aNil)) (sCons (sAsg 8 (eBin pItem (eName 1) (eName 7)))
  (sCons (sAsg2 9 6 (eBin pMul (eName 7) (eV (.int 2))))
  (sCons (sAsg 10 (eV (.int 9223372036854775807)))
  (sCons (sFor 11 (iRange (aCons (eCall pLen (aCons (eName 0) aNil)) aNil)) (sCons (sAsg 12 (eBin pAdd (eName 9) (eCall P_substitution_cost (aCons (eName 8) (aCons (eBin pItem (eName 0) (eName 11)) aNil)))))
  (sCons (sAsg 9 (eBin pItem (eName 5) (eName 11)))
  (sCons (sAsg 13 (eBin pAdd (eCall pMin2 (aCons (eName 6) (aCons (eName 9) aNil))) (eV (.int 2))))
  (sCons (sAsg 6 (eCall pMin2 (aCons (eName 13) (aCons (eName 12) aNil))))
  (sCons (sSetI (eName 6) (eName 5) (eName 11))
  (sCons (sIf (tOf (eBin pLt (eName 6) (eName 10))) (sCons (sAsg 10 (eName 6))
  sNil) sNil)
  sNil)))))) 200)
  (sCons (sIf (tOf (eBin pGt (eName 10) (eName 2))) (sCons (sRet (eBin pAdd (eName 2) (eV (.int 1))))
  sNil) sNil)
  sNil))))) 200)
  (sCons (sRet (eName 6))
  sNil)))))))))))))))))
def P_levenshtein_distance : Fp := fnOf 3 21 F_levenshtein_distance
theorem S_levenshtein_distance (c : Cx) (n : Nat) (KF : Frag) (d : CloDef) (ad : Ads) (G : Glob c KF d ad) (h_substitution_cost : FnS c n ad.a_substitution_cost P_substitution_cost) : SS c n C_levenshtein_distance B_levenshtein_distance F_levenshtein_distance :=
  have K := K_levenshtein_distance
  (SS.cons (ST.ite (TT.cmp (ET.nm K 0 rfl) (ET.nm K 1 rfl) (PB.eq c n) rfl) (SS.cons (ST.ret ET.intC)
  SS.nil) SS.nil)
  (SS.cons (ST.asg (SN.nm K 3 rfl) ET.intC (fun _ => rfl))
  (SS.cons (ST.whl 200 (TT.and (TT.plain (ET.slice (ET.nm K 0 rfl) (OET.yes (ET.nm K 3 rfl)) OET.no) (fun _ => rfl)) (TT.and (TT.plain (ET.slice (ET.nm K 1 rfl) (OET.yes (ET.nm K 3 rfl)) OET.no) (fun _ => rfl)) (TT.and (TT.cmp (ET.item (ET.nm K 0 rfl) (ET.nm K 3 rfl) (fun _ _ => rfl)) (ET.item (ET.nm K 1 rfl) (ET.nm K 3 rfl) (fun _ _ => rfl)) (PB.eq c n) rfl) TT.andNil))) (SS.cons (ST.aug (SN.nm K 3 rfl) (LN.nm K 3 rfl) ET.intC (PB.iadd c n))
  SS.nil))
  (SS.cons (ST.asg (SN.nm K 0 rfl) (ET.slice (ET.nm K 0 rfl) (OET.yes (ET.nm K 3 rfl)) OET.no) (fun _ => rfl))
  (SS.cons (ST.asg (SN.nm K 1 rfl) (ET.slice (ET.nm K 1 rfl) (OET.yes (ET.nm K 3 rfl)) OET.no) (fun _ => rfl))
  (SS.cons (ST.asg (SN.nm K 4 rfl) ET.intC (fun _ => rfl))
  (SS.cons (ST.whl 200 (TT.and (TT.plain (ET.slice (ET.nm K 0 rfl) OET.no (OET.yes (ET.or (ET.nm K 4 rfl) ET.noneC))) (fun _ => rfl)) (TT.and (TT.plain (ET.slice (ET.nm K 1 rfl) OET.no (OET.yes (ET.or (ET.nm K 4 rfl) ET.noneC))) (fun _ => rfl)) (TT.and (TT.cmp (ET.item (ET.nm K 0 rfl) (ET.bin (ET.nm K 4 rfl) ET.intC (PB.sub c n)) (fun _ _ => rfl)) (ET.item (ET.nm K 1 rfl) (ET.bin (ET.nm K 4 rfl) ET.intC (PB.sub c n)) (fun _ _ => rfl)) (PB.eq c n) rfl) TT.andNil))) (SS.cons (ST.aug (SN.nm K 4 rfl) (LN.nm K 4 rfl) ET.intC (PB.isub c n))
  SS.nil))
  (SS.cons (ST.asg (SN.nm K 0 rfl) (ET.slice (ET.nm K 0 rfl) OET.no (OET.yes (ET.or (ET.nm K 4 rfl) ET.noneC))) (fun _ => rfl))
  (SS.cons (ST.asg (SN.nm K 1 rfl) (ET.slice (ET.nm K 1 rfl) OET.no (OET.yes (ET.or (ET.nm K 4 rfl) ET.noneC))) (fun _ => rfl))
  (SS.cons (ST.ite (TT.or (TT.not (TT.plain (ET.nm K 0 rfl) (fun _ => rfl))) (TT.or (TT.not (TT.plain (ET.nm K 1 rfl) (fun _ => rfl))) TT.orNil)) (SS.cons (ST.ret (ET.bin (ET.gi K 14 rfl 2 (G.c_MOVE_COST).choose_spec) (ET.bin (ET.cb K 15 rfl (BS.len c n) G.b_len (AT.cons (ET.nm K 0 rfl) AT.nil (fun _ => rfl)) rfl) (ET.cb K 15 rfl (BS.len c n) G.b_len (AT.cons (ET.nm K 1 rfl) AT.nil (fun _ => rfl)) rfl) (PB.add c n)) (PB.mul c n)))
  SS.nil) SS.nil)
  (SS.cons (ST.ite (TT.or (TT.cmp (ET.cb K 15 rfl (BS.len c n) G.b_len (AT.cons (ET.nm K 0 rfl) AT.nil (fun _ => rfl)) rfl) (ET.gi K 16 rfl 40 (G.c_MAX_STRING_SIZE).choose_spec) (PB.gt c n) rfl) (TT.or (TT.cmp (ET.cb K 15 rfl (BS.len c n) G.b_len (AT.cons (ET.nm K 1 rfl) AT.nil (fun _ => rfl)) rfl) (ET.gi K 16 rfl 40 (G.c_MAX_STRING_SIZE).choose_spec) (PB.gt c n) rfl) TT.orNil)) (SS.cons (ST.ret (ET.bin (ET.nm K 2 rfl) ET.intC (PB.add c n)))
  SS.nil) SS.nil)
  (SS.cons (ST.ite (TT.cmp (ET.cb K 15 rfl (BS.len c n) G.b_len (AT.cons (ET.nm K 1 rfl) AT.nil (fun _ => rfl)) rfl) (ET.cb K 15 rfl (BS.len c n) G.b_len (AT.cons (ET.nm K 0 rfl) AT.nil (fun _ => rfl)) rfl) (PB.lt c n) rfl) (SS.cons (ST.swap (SN.nm K 0 rfl) (SN.nm K 1 rfl) (ET.nm K 1 rfl) (ET.nm K 0 rfl) (fun _ => rfl) (fun env he => by show swappedStores _ _ _ = _; unfold swappedStores; simp only [Env.blockKind, Env.kindOf, he]; rfl))
  SS.nil) SS.nil)
  (SS.cons (ST.ite (TT.cmp (ET.bin (ET.bin (ET.cb K 15 rfl (BS.len c n) G.b_len (AT.cons (ET.nm K 1 rfl) AT.nil (fun _ => rfl)) rfl) (ET.cb K 15 rfl (BS.len c n) G.b_len (AT.cons (ET.nm K 0 rfl) AT.nil (fun _ => rfl)) rfl) (PB.sub c n)) (ET.gi K 14 rfl 2 (G.c_MOVE_COST).choose_spec) (PB.mul c n)) (ET.nm K 2 rfl) (PB.gt c n) rfl) (SS.cons (ST.ret (ET.bin (ET.nm K 2 rfl) ET.intC (PB.add c n)))
  SS.nil) SS.nil)
  (SS.cons (ST.asg (SN.nm K 5 rfl) (ET.lr K 17 18 rfl rfl G.b_list G.b_range (AT.cons (ET.gi K 14 rfl 2 (G.c_MOVE_COST).choose_spec) (AT.cons (ET.bin (ET.gi K 14 rfl 2 (G.c_MOVE_COST).choose_spec) (ET.bin (ET.cb K 15 rfl (BS.len c n) G.b_len (AT.cons (ET.nm K 0 rfl) AT.nil (fun _ => rfl)) rfl) ET.intC (PB.add c n)) (PB.mul c n)) (AT.cons (ET.gi K 14 rfl 2 (G.c_MOVE_COST).choose_spec) AT.nil (fun _ => rfl)) (fun _ => rfl)) (fun _ => rfl)) rfl) (fun _ => rfl))
  (SS.cons (ST.asg (SN.nm K 6 rfl) ET.intC (fun _ => rfl))
  (SS.cons (ST.for_ 200 (SN.nm K 7 rfl) (IS.rg K 18 rfl G.b_range (AT.cons (ET.cb K 15 rfl (BS.len c n) G.b_len (AT.cons (ET.nm K 1 rfl) AT.nil (fun _ => rfl)) rfl) AT.nil (fun _ => rfl)) rfl) (SS.cons (ST.asg (SN.nm K 8 rfl) (ET.item (ET.nm K 1 rfl) (ET.nm K 7 rfl) (fun _ _ => rfl)) (fun _ => rfl))
  (SS.cons (ST.asg2 (SN.nm K 9 rfl) (SN.nm K 6 rfl) (ET.bin (ET.nm K 7 rfl) (ET.gi K 14 rfl 2 (G.c_MOVE_COST).choose_spec) (PB.mul c n)) (fun _ => rfl))
  (SS.cons (ST.asg (SN.nm K 10 rfl) ET.intC (fun _ => rfl))
  (SS.cons (ST.for_ 200 (SN.nm K 11 rfl) (IS.rg K 18 rfl G.b_range (AT.cons (ET.cb K 15 rfl (BS.len c n) G.b_len (AT.cons (ET.nm K 0 rfl) AT.nil (fun _ => rfl)) rfl) AT.nil (fun _ => rfl)) rfl) (SS.cons (ST.asg (SN.nm K 12 rfl) (ET.bin (ET.nm K 9 rfl) (ET.cf K 19 rfl h_substitution_cost G.f_substitution_cost (AT.cons (ET.nm K 8 rfl) (AT.cons (ET.item (ET.nm K 0 rfl) (ET.nm K 11 rfl) (fun _ _ => rfl)) AT.nil (fun _ => rfl)) (fun _ => rfl)) rfl) (PB.add c n)) (fun _ => rfl))
  (SS.cons (ST.asg (SN.nm K 9 rfl) (ET.item (ET.nm K 5 rfl) (ET.nm K 11 rfl) (fun _ _ => rfl)) (fun _ => rfl))
  (SS.cons (ST.asg (SN.nm K 13 rfl) (ET.bin (ET.cb K 20 rfl (BS.min2 c n) G.b_min (AT.cons (ET.nm K 6 rfl) (AT.cons (ET.nm K 9 rfl) AT.nil (fun _ => rfl)) (fun _ => rfl)) rfl) (ET.gi K 14 rfl 2 (G.c_MOVE_COST).choose_spec) (PB.add c n)) (fun _ => rfl))
  (SS.cons (ST.asg (SN.nm K 6 rfl) (ET.cb K 20 rfl (BS.min2 c n) G.b_min (AT.cons (ET.nm K 13 rfl) (AT.cons (ET.nm K 12 rfl) AT.nil (fun _ => rfl)) (fun _ => rfl)) rfl) (fun _ => rfl))
  (SS.cons (ST.setI (ET.nm K 6 rfl) (ET.nm K 5 rfl) (ET.nm K 11 rfl) (fun _ => rfl))
  (SS.cons (ST.ite (TT.cmp (ET.nm K 6 rfl) (ET.nm K 10 rfl) (PB.lt c n) rfl) (SS.cons (ST.asg (SN.nm K 10 rfl) (ET.nm K 6 rfl) (fun _ => rfl))
  SS.nil) SS.nil)
  SS.nil)))))) (fun _ _ => rfl))
  (SS.cons (ST.ite (TT.cmp (ET.nm K 10 rfl) (ET.nm K 2 rfl) (PB.gt c n) rfl) (SS.cons (ST.ret (ET.bin (ET.nm K 2 rfl) ET.intC (PB.add c n)))
  SS.nil) SS.nil)
  SS.nil))))) (fun _ _ => rfl))
  (SS.cons (ST.ret (ET.nm K 6 rfl))
  SS.nil)))))))))))))))))

def Breplace : List Stmt := defBody (nthStmt T 3)
def Creplace : Scope := defScope (nthStmt T 3)
theorem Kreplace : ScOk Creplace := ⟨rfl, by decide +kernel, by decide +kernel, by decide +kernel⟩
def Freplace : Sf :=
  (sCons (whl (tOf (eName 1)) (sCons (sAsg 0 (eMeth isStr mJoin (eBin pItem (eName 1) (eV (.int 1))) (aCons (eMeth isStr mSplit (eName 0) (aCons (eBin pItem (eName 1) (eV (.int 0))) aNil)) aNil)))
  (sCons (sAsg 1 (eSlice (eName 1) (eV (.int 2)) (eV .none)))
  sNil)) 200)
  (sCons (sRet (eName 0))
  sNil))
def Preplace : Fp := fnOfV 2 Freplace
theorem Sreplace (c : Cx) (n : Nat) (KF : Frag) (d : CloDef) (ad : Ads) (G : Glob c KF d ad)  : SS c n Creplace Breplace Freplace :=
  have K := Kreplace
  (SS.cons (ST.whl 200 (TT.plain (ET.nm K 1 rfl) (fun _ => rfl)) (SS.cons (ST.asg (SN.nm K 0 rfl) (ET.meth (MS.join c n) (ET.item (ET.nm K 1 rfl) ET.intC (fun _ _ => rfl)) (AT.cons (ET.meth (MS.split c n) (ET.nm K 0 rfl) (AT.cons (ET.item (ET.nm K 1 rfl) ET.intC (fun _ _ => rfl)) AT.nil (fun _ => rfl)) rfl (fun env => ⟨_, rfl⟩)) AT.nil (fun _ => rfl)) rfl (fun env => ⟨_, rfl⟩)) (fun _ => rfl))
  (SS.cons (ST.asg (SN.nm K 1 rfl) (ET.slice (ET.nm K 1 rfl) (OET.yes ET.intC) OET.no) (fun _ => rfl))
  SS.nil)))
  (SS.cons (ST.ret (ET.nm K 0 rfl))
  SS.nil))

def B__init__ : List Stmt := defBody (nthStmt (clsBody (nthStmt T 1)) 0)
def C__init__ : Scope := defScope (nthStmt (clsBody (nthStmt T 1)) 0)
theorem K__init__ : ScOk C__init__ := ⟨rfl, by decide +kernel, by decide +kernel, by decide +kernel⟩
def F__init__ : Sf :=
  (sCons (sSetA [108, 105, 110, 101, 110, 111] (eV (.int 1)) (eName 0))
  (sCons (sSetA [105, 110, 115, 116, 114, 101, 97, 109] (eName 1) (eName 0))
  (sCons (sSetA [119, 104, 105, 116, 101, 115, 112, 97, 99, 101] (eV (.str [10, 9, 13, 32])) (eName 0))
  (sCons (sSetA [112, 117, 115, 104, 98, 97, 99, 107] (eListD aNil) (eName 0))
  sNil))))
def P__init__ : Fp := fnOf 2 2 F__init__
theorem S__init__ (c : Cx) (n : Nat) (KF : Frag) (d : CloDef) (ad : Ads) (G : Glob c KF d ad)  : SS c n C__init__ B__init__ F__init__ :=
  have K := K__init__
  (SS.cons (ST.setA G.X ET.intC (ET.nm K 0 rfl) (by decide +kernel) rfl G.n_lineno (fun _ => rfl))
  (SS.cons (ST.setA G.X (ET.nm K 1 rfl) (ET.nm K 0 rfl) (by decide +kernel) rfl G.n_instream (fun _ => rfl))
  (SS.cons (ST.setA G.X (ET.strC [10, 9, 13, 32] (by decide +kernel) rfl) (ET.nm K 0 rfl) (by decide +kernel) rfl G.n_whitespace (fun _ => rfl))
  (SS.cons (ST.setA G.X (ET.listD AT.nil) (ET.nm K 0 rfl) (by decide +kernel) rfl G.n_pushback (fun _ => rfl))
  SS.nil))))

def B_read_char : List Stmt := defBody (nthStmt (clsBody (nthStmt T 1)) 1)
def C_read_char : Scope := defScope (nthStmt (clsBody (nthStmt T 1)) 1)
theorem K_read_char : ScOk C_read_char := ⟨rfl, by decide +kernel, by decide +kernel, by decide +kernel⟩
def F_read_char : Sf :=
  (sCons (sAsg 1 (eMethC [114, 101, 97, 100] (eAttr [105, 110, 115, 116, 114, 101, 97, 109] (eName 0)) (eV (.int 1))))
  (sCons (sIf (tOf (eBin pEq (eName 1) (eV (.str [10])))) (sCons (sAugA pIadd [108, 105, 110, 101, 110, 111] (eName 0) (eV (.int 1)))
  sNil) sNil)
  (sCons (sRet (eName 1))
  sNil)))
def P_read_char : Fp := fnOf 1 2 F_read_char
theorem S_read_char (c : Cx) (n : Nat) (KF : Frag) (d : CloDef) (ad : Ads) (G : Glob c KF d ad)  : SS c (n + 1) C_read_char B_read_char F_read_char :=
  have K := K_read_char
  (SS.cons (ST.asg (SN.nm K 1 rfl) (ET.methC G.X G.D G.clo (by decide +kernel) G.n_read (ET.attr G.X (ET.nm K 0 rfl) (by decide +kernel) G.n_instream) ET.intC rfl (fun _ => rfl) (fun env => ⟨_, rfl⟩)) (fun _ => rfl))
  (SS.cons (ST.ite (TT.cmp (ET.nm K 1 rfl) (ET.strC [10] (by decide +kernel) rfl) (PB.eq c (n + 1)) rfl) (SS.cons (ST.augA G.X (ET.nm K 0 rfl) ET.intC (PB.iadd c (n + 1)) (by decide +kernel) rfl G.n_lineno)
  SS.nil) SS.nil)
  (SS.cons (ST.ret (ET.nm K 1 rfl))
  SS.nil)))

def Bget_token : List Stmt := defBody (nthStmt (clsBody (nthStmt T 1)) 2)
def Cget_token : Scope := defScope (nthStmt (clsBody (nthStmt T 1)) 2)
theorem Kget_token : ScOk Cget_token := ⟨rfl, by decide +kernel, by decide +kernel, by decide +kernel⟩
def Fget_token : Sf :=
  (sCons (sIf (tOf (eAttr [112, 117, 115, 104, 98, 97, 99, 107] (eName 0))) (sCons (sRet (eMeth isLst mPop (eAttr [112, 117, 115, 104, 98, 97, 99, 107] (eName 0)) (aCons (eV (.int 0)) aNil)))
  sNil) sNil)
  (sCons (sAsg 1 (eV (.str [])))
  (sCons (sAsg 2 (eCall pIter (aCons (eBm [95, 114, 101, 97, 100, 95, 99, 104, 97, 114] (eName 0)) (aCons (eV (.str [])) aNil))))
  (sCons (sForF P_read_char 3 (eName 2) (sCons (sIf (tOf (eBin pIn (eName 3) (eAttr [119, 104, 105, 116, 101, 115, 112, 97, 99, 101] (eName 0)))) (sCons sCont
  sNil) sNil)
  (sCons (sIf (tOf (eBin pEq (eName 3) (eV (.str [34])))) (sCons (sForF P_read_char 3 (eName 2) (sCons (sIf (tOf (eBin pEq (eName 3) (eV (.str [34])))) (sCons (sRet (eName 1))
  sNil) (sCons (sIf (tOf (eBin pEq (eName 3) (eV (.str [92])))) (sCons (sAsg 3 (eMethI P_read_char [95, 114, 101, 97, 100, 95, 99, 104, 97, 114] (eName 0) aNil))
  sNil) sNil)
  sNil))
  (sCons (sAug pIadd 1 (eName 3))
  sNil)) 100)
  sNil) (sCons (sIf (tOf (eBin pEq (eName 3) (eV (.str [92])))) (sCons (sAsg 3 (eMethI P_read_char [95, 114, 101, 97, 100, 95, 99, 104, 97, 114] (eName 0) aNil))
  sNil) sNil)
  (sCons (sAug pIadd 1 (eName 3))
  (sCons (sForF P_read_char 3 (eName 2) (sCons (sIf (tOf (eBin pIn (eName 3) (eAttr [119, 104, 105, 116, 101, 115, 112, 97, 99, 101] (eName 0)))) (sCons (sRet (eName 1))
  sNil) (sCons (sIf (tOf (eBin pEq (eName 3) (eV (.str [92])))) (sCons (sAsg 3 (eMethI P_read_char [95, 114, 101, 97, 100, 95, 99, 104, 97, 114] (eName 0) aNil))
  sNil) sNil)
  sNil))
  (sCons (sAug pIadd 1 (eName 3))
  sNil)) 100)
  sNil))))
  sNil)) 100)
  (sCons (sRet (eName 1))
  sNil)))))
def Pget_token : Fp := fnOf 1 5 Fget_token
theorem Sget_token (c : Cx) (n : Nat) (KF : Frag) (d : CloDef) (ad : Ads) (G : Glob c KF d ad) (h_read_char : FnC c n c.fnRead P_read_char) : SS c (n + 1) Cget_token Bget_token Fget_token :=
  have K := Kget_token
  (SS.cons (ST.ite (TT.plain (ET.attr G.X (ET.nm K 0 rfl) (by decide +kernel) G.n_pushback) (fun _ => rfl)) (SS.cons (ST.ret (ET.meth (MS.pop c (n + 1)) (ET.attr G.X (ET.nm K 0 rfl) (by decide +kernel) G.n_pushback) (AT.cons ET.intC AT.nil (fun _ => rfl)) rfl (fun env => ⟨_, rfl⟩)))
  SS.nil) SS.nil)
  (SS.cons (ST.asg (SN.nm K 1 rfl) (ET.strC [] (by decide +kernel) rfl) (fun _ => rfl))
  (SS.cons (ST.asg (SN.nm K 2 rfl) (ET.cb K 4 rfl (BS.iter c (n + 1)) G.b_iter (AT.cons (ET.bmeth G.X G.bm (ET.nm K 0 rfl) (by decide +kernel)) (AT.cons (ET.strC [] (by decide +kernel) rfl) AT.nil (fun _ => rfl)) (fun _ => rfl)) rfl) (fun _ => rfl))
  (SS.cons (ST.forF 100 h_read_char (SN.nm K 3 rfl) (ET.nm K 2 rfl) (SS.cons (ST.ite (TT.cmp (ET.nm K 3 rfl) (ET.attr G.X (ET.nm K 0 rfl) (by decide +kernel) G.n_whitespace) (PB.in_ c (n + 1)) rfl) (SS.cons ST.cont
  SS.nil) SS.nil)
  (SS.cons (ST.ite (TT.cmp (ET.nm K 3 rfl) (ET.strC [34] (by decide +kernel) rfl) (PB.eq c (n + 1)) rfl) (SS.cons (ST.forF 100 h_read_char (SN.nm K 3 rfl) (ET.nm K 2 rfl) (SS.cons (ST.ite (TT.cmp (ET.nm K 3 rfl) (ET.strC [34] (by decide +kernel) rfl) (PB.eq c (n + 1)) rfl) (SS.cons (ST.ret (ET.nm K 1 rfl))
  SS.nil) (SS.cons (ST.ite (TT.cmp (ET.nm K 3 rfl) (ET.strC [92] (by decide +kernel) rfl) (PB.eq c (n + 1)) rfl) (SS.cons (ST.asg (SN.nm K 3 rfl) (ET.methI G.X (h_read_char.toS.up (Nat.le_succ n)) G.bm.toMethOk (by decide +kernel) (ET.nm K 0 rfl) AT.nil rfl (fun env => ⟨_, rfl⟩)) (fun _ => rfl))
  SS.nil) SS.nil)
  SS.nil))
  (SS.cons (ST.aug (SN.nm K 1 rfl) (LN.nm K 1 rfl) (ET.nm K 3 rfl) (PB.iadd c (n + 1)))
  SS.nil)) (fun _ _ => rfl))
  SS.nil) (SS.cons (ST.ite (TT.cmp (ET.nm K 3 rfl) (ET.strC [92] (by decide +kernel) rfl) (PB.eq c (n + 1)) rfl) (SS.cons (ST.asg (SN.nm K 3 rfl) (ET.methI G.X (h_read_char.toS.up (Nat.le_succ n)) G.bm.toMethOk (by decide +kernel) (ET.nm K 0 rfl) AT.nil rfl (fun env => ⟨_, rfl⟩)) (fun _ => rfl))
  SS.nil) SS.nil)
  (SS.cons (ST.aug (SN.nm K 1 rfl) (LN.nm K 1 rfl) (ET.nm K 3 rfl) (PB.iadd c (n + 1)))
  (SS.cons (ST.forF 100 h_read_char (SN.nm K 3 rfl) (ET.nm K 2 rfl) (SS.cons (ST.ite (TT.cmp (ET.nm K 3 rfl) (ET.attr G.X (ET.nm K 0 rfl) (by decide +kernel) G.n_whitespace) (PB.in_ c (n + 1)) rfl) (SS.cons (ST.ret (ET.nm K 1 rfl))
  SS.nil) (SS.cons (ST.ite (TT.cmp (ET.nm K 3 rfl) (ET.strC [92] (by decide +kernel) rfl) (PB.eq c (n + 1)) rfl) (SS.cons (ST.asg (SN.nm K 3 rfl) (ET.methI G.X (h_read_char.toS.up (Nat.le_succ n)) G.bm.toMethOk (by decide +kernel) (ET.nm K 0 rfl) AT.nil rfl (fun env => ⟨_, rfl⟩)) (fun _ => rfl))
  SS.nil) SS.nil)
  SS.nil))
  (SS.cons (ST.aug (SN.nm K 1 rfl) (LN.nm K 1 rfl) (ET.nm K 3 rfl) (PB.iadd c (n + 1)))
  SS.nil)) (fun _ _ => rfl))
  SS.nil))))
  SS.nil)) (fun _ _ => rfl))
  (SS.cons (ST.ret (ET.nm K 1 rfl))
  SS.nil)))))

def Bpush_token : List Stmt := defBody (nthStmt (clsBody (nthStmt T 1)) 3)
def Cpush_token : Scope := defScope (nthStmt (clsBody (nthStmt T 1)) 3)
theorem Kpush_token : ScOk Cpush_token := ⟨rfl, by decide +kernel, by decide +kernel, by decide +kernel⟩
def Fpush_token : Sf :=
  (sCons (sExpr (eMeth isLst mAppend (eAttr [112, 117, 115, 104, 98, 97, 99, 107] (eName 0)) (aCons (eName 1) aNil)))
  sNil)
def Ppush_token : Fp := fnOf 2 2 Fpush_token
theorem Spush_token (c : Cx) (n : Nat) (KF : Frag) (d : CloDef) (ad : Ads) (G : Glob c KF d ad)  : SS c n Cpush_token Bpush_token Fpush_token :=
  have K := Kpush_token
  (SS.cons (ST.expr (ET.meth (MS.append c n) (ET.attr G.X (ET.nm K 0 rfl) (by decide +kernel) G.n_pushback) (AT.cons (ET.nm K 1 rfl) AT.nil (fun _ => rfl)) rfl (fun env => ⟨_, rfl⟩)) (inter_off K.kind) (fun _ => rfl))
  SS.nil)

def B_law_lexer : List Stmt := defBody (nthStmt T 11)
def C_law_lexer : Scope := defScope (nthStmt T 11)
theorem K_law_lexer : ScOk C_law_lexer := ⟨rfl, by decide +kernel, by decide +kernel, by decide +kernel⟩
def F1_law_lexer : Sf := sAsg 3 (eCall pList (aCons (eName 0) aNil))
def F2_law_lexer : Sf := sAsg 1 (eMake P__init__ (aCons (eV .none) aNil))
def F_law_lexer : Sf := sLex F1_law_lexer F2_law_lexer 3 1 [114, 101, 97, 100] P__init__
def P_law_lexer : Fp := fnOf 1 6 F_law_lexer
def cloD : CloDef := cloOf "_law_lexer.<locals>._law_next" (nthStmt B_law_lexer 2)
def posD : Pos := posOfS (nthStmt B_law_lexer 2)
theorem cloD_ok : CloOk cloD where
  kind := rfl
  co := rfl
  gen := rfl
  nocell := by decide +kernel
  lk := by decide +kernel
  lp := by decide +kernel
  bind := fun _ _ _ _ _ _ => rfl
  body := ⟨_, _, _, _, _, _, _, _, _, _, rfl, fun env => ⟨_, rfl⟩⟩
theorem B_law_lexer_eq : B_law_lexer = lexText cloD "_netrclex" B_law_lexer := by kernel_rfl
theorem S_law_lexer (c : Cx) (n : Nat) (KF : Frag) (ad : Ads) (G : Glob c KF cloD ad) {ca : Addr} {fd : FuncData} (Lx : LexOk c cloD ca posD fd) (hI : FnC c n ad.a__init__ P__init__) :
    ∀ env lo I as H s, EOk env C_law_lexer → env.code = fd.code → env.qual = fd.qualname ++ ".<locals>." → LR c env lo I as s → Inv c I as H s → Ho c (n + 1) (fAddrs env) (execs B_law_lexer env) (fun I as _ b fl => FlR c I as b.1 fl) I as s (F_law_lexer lo H) := by
  have K := K_law_lexer
  have h1 : ST c (n + 1) C_law_lexer (nthStmt B_law_lexer 0) F1_law_lexer := ST.asg (SN.cl K 3 rfl) (ET.ct K 4 rfl (BS.list c (n + 1)) G.b_list (AT.cons (ET.nm K 0 rfl) AT.nil (fun _ => rfl)) rfl) (fun _ => rfl)
  have h2 : ST c (n + 1) C_law_lexer (nthStmt B_law_lexer 1) F2_law_lexer := ST.asg (SN.nm K 1 rfl) (ET.make G.X hI G.m___init__ G.keep (AT.cons ET.noneC AT.nil (fun _ => rfl)) (K.lk (i := 5) rfl) (K.db (i := 5) rfl) G.fcls (fun _ => rfl) (fun _ => rfl)) (fun _ => rfl)
  have e3 : C_law_lexer.names[3]? = some (("left" : Str), NameKind.cell) := rfl
  have e1 : C_law_lexer.names[1]? = some (("stream" : Str), NameKind.local) := rfl
  have e2 : C_law_lexer.names[2]? = some (cloD.name, NameKind.local) := by kernel_rfl
  have e5 : C_law_lexer.names[5]? = some (("_netrclex" : Str), NameKind.globalImplicit) := rfl
  have hne : ("stream" : Str) ≠ cloD.name := by decide +kernel
  rw [B_law_lexer_eq]
  exact lex_body (il := 3) (is := 1) (ix := 2) (ig := 5) (nl := [114, 101, 97, 100]) G.X K Lx hI G.m___init__ G.keep h1 h2 e3 e1 e2 e5 G.fcls hne (by decide +kernel) (by show 4 ≤ 1000000; decide) G.n_read (fun _ => rfl)

def B_law_street : List Stmt := defBody (nthStmt T 12)
def C_law_street : Scope := defScope (nthStmt T 12)
theorem K_law_street : ScOk C_law_street := ⟨rfl, by decide +kernel, by decide +kernel, by decide +kernel⟩
def F_law_street : Sf :=
  (sCons (sAsg 1 (eV (.str [])))
  (sCons (sFor 2 (iRange (aCons (eV (.int 3)) aNil)) (sCons (sAug pIadd 1 (eIf (tOf (eBin pMod (eBin pItem (eName 0) (eName 2)) (eV (.int 2)))) (eBin pItem (eBin pItem (eListD (aCons (eV (.str [97, 98, 99])) (aCons (eV (.str [65, 66, 67])) aNil))) (eBin pMod (eBin pDiv (eBin pItem (eName 0) (eName 2)) (eV (.int 2))) (eV (.int 2)))) (eName 2)) (eV (.str [46]))))
  sNil) 200)
  (sCons (sAsg 3 (eBin pMod (eBin pItem (eName 0) (eV (.int 3))) (eV (.int 4))))
  (sCons (sRet (eBin pAdd (eBin pAdd (eSlice (eName 1) (eV .none) (eName 3)) (eV (.str [42]))) (eSlice (eName 1) (eName 3) (eV .none))))
  sNil))))
def P_law_street : Fp := fnOf 1 5 F_law_street
theorem S_law_street (c : Cx) (n : Nat) (KF : Frag) (d : CloDef) (ad : Ads) (G : Glob c KF d ad)  : SS c n C_law_street B_law_street F_law_street :=
  have K := K_law_street
  (SS.cons (ST.asg (SN.nm K 1 rfl) (ET.strC [] (by decide +kernel) rfl) (fun _ => rfl))
  (SS.cons (ST.for_ 200 (SN.nm K 2 rfl) (IS.rg K 4 rfl G.b_range (AT.cons ET.intC AT.nil (fun _ => rfl)) rfl) (SS.cons (ST.aug (SN.nm K 1 rfl) (LN.nm K 1 rfl) (ET.ifExp (TT.plain (ET.bin (ET.item (ET.nm K 0 rfl) (ET.nm K 2 rfl) (fun _ _ => rfl)) ET.intC (PB.mod c n)) (fun _ => rfl)) (ET.item (ET.item (ET.listD (AT.cons (ET.strC [97, 98, 99] (by decide +kernel) rfl) (AT.cons (ET.strC [65, 66, 67] (by decide +kernel) rfl) AT.nil (fun _ => rfl)) (fun _ => rfl))) (ET.bin (ET.bin (ET.item (ET.nm K 0 rfl) (ET.nm K 2 rfl) (fun _ _ => rfl)) ET.intC (PB.div c n)) ET.intC (PB.mod c n)) (fun _ _ => rfl)) (ET.nm K 2 rfl) (fun _ _ => rfl)) (ET.strC [46] (by decide +kernel) rfl)) (PB.iadd c n))
  SS.nil) (fun _ _ => rfl))
  (SS.cons (ST.asg (SN.nm K 3 rfl) (ET.bin (ET.item (ET.nm K 0 rfl) ET.intC (fun _ _ => rfl)) ET.intC (PB.mod c n)) (fun _ => rfl))
  (SS.cons (ST.ret (ET.bin (ET.bin (ET.slice (ET.nm K 1 rfl) OET.no (OET.yes (ET.nm K 3 rfl))) (ET.strC [42] (by decide +kernel) rfl) (PB.add c n)) (ET.slice (ET.nm K 1 rfl) (OET.yes (ET.nm K 3 rfl)) OET.no) (PB.add c n)))
  SS.nil))))

def B_law_onward : List Stmt := defBody (nthStmt T 13)
def C_law_onward : Scope := defScope (nthStmt T 13)
theorem K_law_onward : ScOk C_law_onward := ⟨rfl, by decide +kernel, by decide +kernel, by decide +kernel⟩
def F_law_onward (xreplace : Fp): Sf :=
  (sCons (sAsg 1 (eMeth isStr mFind (eName 0) (aCons (eV (.str [42])) aNil)))
  (sCons (sAsg 2 (eListD aNil))
  (sCons (sIf (tOf (eBin pLt (eName 1) (eV (.int 3)))) (sCons (sAsg 3 (eBin pItem (eName 0) (eBin pAdd (eName 1) (eV (.int 1)))))
  (sCons (sAsg 4 (eBin pItem (eV (.str [65, 66, 67, 97, 98, 99, 46])) (eMeth isStr mFind (eV (.str [97, 98, 99, 65, 66, 67, 46])) (aCons (eName 3) aNil))))
  (sCons (sExpr (eMeth isLst mAppend (eName 2) (aCons (eCall xreplace (aCons (eName 0) (aCons (eBin pAdd (eV (.str [42])) (eName 3)) (aCons (eBin pAdd (eName 3) (eV (.str [42]))) aNil)))) aNil)))
  (sCons (sExpr (eMeth isLst mAppend (eName 2) (aCons (eCall xreplace (aCons (eName 0) (aCons (eBin pAdd (eV (.str [42])) (eName 3)) (aCons (eBin pAdd (eV (.str [42])) (eName 4)) aNil)))) aNil)))
  sNil)))) sNil)
  (sCons (sIf (tOf (eBin pGt (eName 1) (eV (.int 0)))) (sCons (sAsg 5 (eBin pItem (eName 0) (eBin pSub (eName 1) (eV (.int 1)))))
  (sCons (sExpr (eMeth isLst mAppend (eName 2) (aCons (eCall xreplace (aCons (eName 0) (aCons (eBin pAdd (eName 5) (eV (.str [42]))) (aCons (eBin pAdd (eV (.str [42])) (eName 5)) aNil)))) aNil)))
  sNil)) sNil)
  (sCons (sRet (eName 2))
  sNil)))))
def P_law_onward (xreplace : Fp): Fp := fnOf 1 7 (F_law_onward xreplace)
theorem S_law_onward {xreplace : Fp}(c : Cx) (n : Nat) (KF : Frag) (d : CloDef) (ad : Ads) (G : Glob c KF d ad) (hreplace : FnS c n ad.areplace xreplace) : SS c n C_law_onward B_law_onward (F_law_onward xreplace) :=
  have K := K_law_onward
  (SS.cons (ST.asg (SN.nm K 1 rfl) (ET.meth (MS.find c n) (ET.nm K 0 rfl) (AT.cons (ET.strC [42] (by decide +kernel) rfl) AT.nil (fun _ => rfl)) rfl (fun env => ⟨_, rfl⟩)) (fun _ => rfl))
  (SS.cons (ST.asg (SN.nm K 2 rfl) (ET.listD AT.nil) (fun _ => rfl))
  (SS.cons (ST.ite (TT.cmp (ET.nm K 1 rfl) ET.intC (PB.lt c n) rfl) (SS.cons (ST.asg (SN.nm K 3 rfl) (ET.item (ET.nm K 0 rfl) (ET.bin (ET.nm K 1 rfl) ET.intC (PB.add c n)) (fun _ _ => rfl)) (fun _ => rfl))
  (SS.cons (ST.asg (SN.nm K 4 rfl) (ET.item (ET.strC [65, 66, 67, 97, 98, 99, 46] (by decide +kernel) rfl) (ET.meth (MS.find c n) (ET.strC [97, 98, 99, 65, 66, 67, 46] (by decide +kernel) rfl) (AT.cons (ET.nm K 3 rfl) AT.nil (fun _ => rfl)) rfl (fun env => ⟨_, rfl⟩)) (fun _ _ => rfl)) (fun _ => rfl))
  (SS.cons (ST.expr (ET.meth (MS.append c n) (ET.nm K 2 rfl) (AT.cons (ET.cf K 6 rfl hreplace G.freplace (AT.cons (ET.nm K 0 rfl) (AT.cons (ET.bin (ET.strC [42] (by decide +kernel) rfl) (ET.nm K 3 rfl) (PB.add c n)) (AT.cons (ET.bin (ET.nm K 3 rfl) (ET.strC [42] (by decide +kernel) rfl) (PB.add c n)) AT.nil (fun _ => rfl)) (fun _ => rfl)) (fun _ => rfl)) rfl) AT.nil (fun _ => rfl)) rfl (fun env => ⟨_, rfl⟩)) (inter_off K.kind) (fun _ => rfl))
  (SS.cons (ST.expr (ET.meth (MS.append c n) (ET.nm K 2 rfl) (AT.cons (ET.cf K 6 rfl hreplace G.freplace (AT.cons (ET.nm K 0 rfl) (AT.cons (ET.bin (ET.strC [42] (by decide +kernel) rfl) (ET.nm K 3 rfl) (PB.add c n)) (AT.cons (ET.bin (ET.strC [42] (by decide +kernel) rfl) (ET.nm K 4 rfl) (PB.add c n)) AT.nil (fun _ => rfl)) (fun _ => rfl)) (fun _ => rfl)) rfl) AT.nil (fun _ => rfl)) rfl (fun env => ⟨_, rfl⟩)) (inter_off K.kind) (fun _ => rfl))
  SS.nil)))) SS.nil)
  (SS.cons (ST.ite (TT.cmp (ET.nm K 1 rfl) ET.intC (PB.gt c n) rfl) (SS.cons (ST.asg (SN.nm K 5 rfl) (ET.item (ET.nm K 0 rfl) (ET.bin (ET.nm K 1 rfl) ET.intC (PB.sub c n)) (fun _ _ => rfl)) (fun _ => rfl))
  (SS.cons (ST.expr (ET.meth (MS.append c n) (ET.nm K 2 rfl) (AT.cons (ET.cf K 6 rfl hreplace G.freplace (AT.cons (ET.nm K 0 rfl) (AT.cons (ET.bin (ET.nm K 5 rfl) (ET.strC [42] (by decide +kernel) rfl) (PB.add c n)) (AT.cons (ET.bin (ET.strC [42] (by decide +kernel) rfl) (ET.nm K 5 rfl) (PB.add c n)) AT.nil (fun _ => rfl)) (fun _ => rfl)) (fun _ => rfl)) rfl) AT.nil (fun _ => rfl)) rfl (fun env => ⟨_, rfl⟩)) (inter_off K.kind) (fun _ => rfl))
  SS.nil)) SS.nil)
  (SS.cons (ST.ret (ET.nm K 2 rfl))
  SS.nil)))))

def Blaw : List Stmt := defBody (nthStmt T 14)
def Claw : Scope := defScope (nthStmt T 14)
theorem Klaw : ScOk Claw := ⟨rfl, by decide +kernel, by decide +kernel, by decide +kernel⟩
def Flaw (xreplace : Fp) (x_law_onward : Fp) (x_levenshtein_distance : Fp): Sf :=
  (sCons (sAsg 1 (eBin pAdd (eSliceS (eName 0) (eV .none) (eV (.int 4))) (eSlice (eListD (aCons (eV (.int 1)) (aCons (eV (.int 0)) (aCons (eV (.int 3)) (aCons (eV (.int 0)) aNil))))) (eCall pLenS (aCons (eName 0) aNil)) (eV .none))))
  (sCons (sAsg 2 (eCall P_law_street (aCons (eName 1) aNil)))
  (sCons (sAsg 3 (eCall P_law_lexer (aCons (eBin pAdd (eBin pAdd (eV (.str [32, 32])) (eName 2)) (eV (.str [10]))) aNil)))
  (sCons (sAsg 4 (eDict1 (eName 2) (eV (.int 0))))
  (sCons (sAsg 5 (eListD aNil))
  (sCons (sAsg 6 (eMethI Pget_token [103, 101, 116, 95, 116, 111, 107, 101, 110] (eName 3) aNil))
  (sCons (whl (tOf (eName 6)) (sCons (sExpr (eMeth isLst mAppend (eName 5) (aCons (eBin pGetD (eName 4) (eName 6)) aNil)))
  (sCons (sFor 7 (iVal (eCall x_law_onward (aCons (eName 6) aNil))) (sCons (sIf (tOf (eBin pNinD (eName 7) (eName 4))) (sCons (sSetD (eBin pAdd (eBin pGetD (eName 4) (eName 6)) (eV (.int 1))) (eName 4) (eName 7))
  (sCons (sExpr (eMethI Ppush_token [112, 117, 115, 104, 95, 116, 111, 107, 101, 110] (eName 3) (aCons (eName 7) aNil)))
  sNil)) sNil)
  sNil) 200)
  (sCons (sAsg 6 (eMethI Pget_token [103, 101, 116, 95, 116, 111, 107, 101, 110] (eName 3) aNil))
  sNil))) 200)
  (sCons (sAsg 8 (eCall pLen (aCons (eComp [none, none] 1 (iVal (eSlice (eName 1) (eV .none) (eV (.int 3)))) (cIf (tOf (eBin pMod (eName 1) (eV (.int 2)))) (cEmit (eName 1))) 200) aNil)))
  (sCons (sIf (tOr (tOf (eBin pNeL (eCall pLenD (aCons (eName 4) aNil)) (eBin pMul (eV (.int 4)) (eBin pPow (eV (.int 2)) (eName 8))))) (tOr (tOf (eBin pNeL (eName 5) (eSortedV (eName 4)))) tFalse)) (sCons (sRet (eV (.bool false)))
  sNil) sNil)
  (sCons (sAsg 9 (eCall xreplace (aCons (eName 2) (aCons (eV (.str [42])) (aCons (eV (.str [])) aNil)))))
  (sCons (sFor 6 (iKeys (eName 4)) (sCons (sAsg 10 (eCall xreplace (aCons (eName 6) (aCons (eV (.str [42])) (aCons (eV (.str [])) aNil)))))
  (sCons (sAsg 11 (eListD (aCons (eMeth isStr mFind (eName 2) (aCons (eV (.str [42])) aNil)) (aCons (eMeth isStr mFind (eName 6) (aCons (eV (.str [42])) aNil)) aNil))))
  (sCons (sAsg 12 (eCall pAbs (aCons (eBin pSub (eBin pItem (eName 11) (eV (.int 0))) (eBin pItem (eName 11) (eV (.int 1)))) aNil)))
  (sCons (sAug pIaddL 11 (eComp [none, none, some 10, some 9] 1 (iRange (aCons (eV (.int 3)) aNil)) (cIf (tOf (eBin pNeL (eBin pItem (eName 2) (eName 1)) (eBin pItem (eName 3) (eName 1)))) (cEmit (eName 1))) 200))
  (sCons (sAsg 13 (eBin pSub (eBin pMul (eV (.int 2)) (eBin pSub (eCall pMaxL (aCons (eName 11) aNil)) (eCall pMinL (aCons (eName 11) aNil)))) (eName 12)))
  (sCons (sIf (tOf (eBin pNeL (eBin pGetD (eName 4) (eName 6)) (eBin pAdd (eCall x_levenshtein_distance (aCons (eName 9) (aCons (eName 10) (aCons (eV (.int 6)) aNil)))) (eName 13)))) (sCons (sRet (eV (.bool false)))
  sNil) sNil)
  sNil)))))) 200)
  (sCons (sRet (eV (.bool true)))
  sNil))))))))))))
def Plaw (xreplace : Fp) (x_law_onward : Fp) (x_levenshtein_distance : Fp): Fp := fnOf 1 25 (Flaw xreplace x_law_onward x_levenshtein_distance)
theorem Slaw {xreplace : Fp} {x_law_onward : Fp} {x_levenshtein_distance : Fp}(c : Cx) (n : Nat) (KF : Frag) (d : CloDef) (ad : Ads) (G : Glob c KF d ad) (hreplace : FnS c n ad.areplace xreplace) (h_law_street : FnS c n ad.a_law_street P_law_street) (h_law_onward : FnS c n ad.a_law_onward x_law_onward) (h_law_lexer : FnS c n ad.a_law_lexer P_law_lexer) (hget_token : FnS c n ad.aget_token Pget_token) (hpush_token : FnS c n ad.apush_token Ppush_token) (h_levenshtein_distance : FnS c n ad.a_levenshtein_distance x_levenshtein_distance) : SS c n Claw Blaw (Flaw xreplace x_law_onward x_levenshtein_distance) :=
  have K := Klaw
  (SS.cons (ST.asg (SN.nm K 1 rfl) (ET.bin (ET.sliceS (ET.nm K 0 rfl) OET.no (OET.yes ET.intC)) (ET.slice (ET.listD (AT.cons ET.intC (AT.cons ET.intC (AT.cons ET.intC (AT.cons ET.intC AT.nil (fun _ => rfl)) (fun _ => rfl)) (fun _ => rfl)) (fun _ => rfl))) (OET.yes (ET.cb K 14 rfl (BS.lenS c n) G.b_len (AT.cons (ET.nm K 0 rfl) AT.nil (fun _ => rfl)) rfl)) OET.no) (PB.add c n)) (fun _ => rfl))
  (SS.cons (ST.asg (SN.nm K 2 rfl) (ET.cf K 15 rfl h_law_street G.f_law_street (AT.cons (ET.nm K 1 rfl) AT.nil (fun _ => rfl)) rfl) (fun _ => rfl))
  (SS.cons (ST.asg (SN.nm K 3 rfl) (ET.cf K 16 rfl h_law_lexer G.f_law_lexer (AT.cons (ET.bin (ET.bin (ET.strC [32, 32] (by decide +kernel) rfl) (ET.nm K 2 rfl) (PB.add c n)) (ET.strC [10] (by decide +kernel) rfl) (PB.add c n)) AT.nil (fun _ => rfl)) rfl) (fun _ => rfl))
  (SS.cons (ST.asg (SN.nm K 4 rfl) (ET.dict1 (ET.nm K 2 rfl) ET.intC) (fun _ => rfl))
  (SS.cons (ST.asg (SN.nm K 5 rfl) (ET.listD AT.nil) (fun _ => rfl))
  (SS.cons (ST.asg (SN.nm K 6 rfl) (ET.methI G.X hget_token G.m_get_token (by decide +kernel) (ET.nm K 3 rfl) AT.nil rfl (fun env => ⟨_, rfl⟩)) (fun _ => rfl))
  (SS.cons (ST.whl 200 (TT.plain (ET.nm K 6 rfl) (fun _ => rfl)) (SS.cons (ST.expr (ET.meth (MS.append c n) (ET.nm K 5 rfl) (AT.cons (ET.itemD (ET.nm K 4 rfl) (ET.nm K 6 rfl) (fun _ _ => rfl)) AT.nil (fun _ => rfl)) rfl (fun env => ⟨_, rfl⟩)) (inter_off K.kind) (fun _ => rfl))
  (SS.cons (ST.for_ 200 (SN.nm K 7 rfl) (IS.val (ET.cf K 17 rfl h_law_onward G.f_law_onward (AT.cons (ET.nm K 6 rfl) AT.nil (fun _ => rfl)) rfl)) (SS.cons (ST.ite (TT.cmp (ET.nm K 7 rfl) (ET.nm K 4 rfl) (PB.ninD c n) rfl) (SS.cons (ST.setD (ET.bin (ET.itemD (ET.nm K 4 rfl) (ET.nm K 6 rfl) (fun _ _ => rfl)) ET.intC (PB.add c n)) (ET.nm K 4 rfl) (ET.nm K 7 rfl) (fun _ => rfl))
  (SS.cons (ST.expr (ET.methI G.X hpush_token G.m_push_token (by decide +kernel) (ET.nm K 3 rfl) (AT.cons (ET.nm K 7 rfl) AT.nil (fun _ => rfl)) rfl (fun env => ⟨_, rfl⟩)) (inter_off K.kind) (fun _ => rfl))
  SS.nil)) SS.nil)
  SS.nil) (fun _ _ => rfl))
  (SS.cons (ST.asg (SN.nm K 6 rfl) (ET.methI G.X hget_token G.m_get_token (by decide +kernel) (ET.nm K 3 rfl) AT.nil rfl (fun env => ⟨_, rfl⟩)) (fun _ => rfl))
  SS.nil))))
  (SS.cons (ST.asg (SN.nm K 8 rfl) (ET.cb K 14 rfl (BS.len c n) G.b_len (AT.cons (ET.comp' [none, none] 1 200 (by decide +kernel) (IS.val (ET.slice (ET.nm K 1 rfl) OET.no (OET.yes ET.intC))) (fun _ _ => rfl) rfl (fun K => (CT.one (TT.plain (ET.bin (ET.nm K 1 rfl) ET.intC (PB.mod c n)) (fun _ => rfl)) (CI.emit rfl (ET.nm K 1 rfl))))) AT.nil (fun _ => rfl)) rfl) (fun _ => rfl))
  (SS.cons (ST.ite (TT.or (TT.cmp (ET.cb K 14 rfl (BS.lenD c n) G.b_len (AT.cons (ET.nm K 4 rfl) AT.nil (fun _ => rfl)) rfl) (ET.bin ET.intC (ET.bin ET.intC (ET.nm K 8 rfl) (PB.pow c n)) (PB.mul c n)) (PB.neL c n) rfl) (TT.or (TT.cmp (ET.nm K 5 rfl) (ET.sortedV K 18 rfl G.b_sorted (ET.nm K 4 rfl) (fun env => ⟨_, rfl⟩)) (PB.neL c n) rfl) TT.orNil)) (SS.cons (ST.ret ET.boolC)
  SS.nil) SS.nil)
  (SS.cons (ST.asg (SN.cl K 9 rfl) (ET.cf K 19 rfl hreplace G.freplace (AT.cons (ET.nm K 2 rfl) (AT.cons (ET.strC [42] (by decide +kernel) rfl) (AT.cons (ET.strC [] (by decide +kernel) rfl) AT.nil (fun _ => rfl)) (fun _ => rfl)) (fun _ => rfl)) rfl) (fun _ => rfl))
  (SS.cons (ST.for_ 200 (SN.nm K 6 rfl) (IS.keys (ET.nm K 4 rfl)) (SS.cons (ST.asg (SN.cl K 10 rfl) (ET.cf K 19 rfl hreplace G.freplace (AT.cons (ET.nm K 6 rfl) (AT.cons (ET.strC [42] (by decide +kernel) rfl) (AT.cons (ET.strC [] (by decide +kernel) rfl) AT.nil (fun _ => rfl)) (fun _ => rfl)) (fun _ => rfl)) rfl) (fun _ => rfl))
  (SS.cons (ST.asg (SN.nm K 11 rfl) (ET.listD (AT.cons (ET.meth (MS.find c n) (ET.nm K 2 rfl) (AT.cons (ET.strC [42] (by decide +kernel) rfl) AT.nil (fun _ => rfl)) rfl (fun env => ⟨_, rfl⟩)) (AT.cons (ET.meth (MS.find c n) (ET.nm K 6 rfl) (AT.cons (ET.strC [42] (by decide +kernel) rfl) AT.nil (fun _ => rfl)) rfl (fun env => ⟨_, rfl⟩)) AT.nil (fun _ => rfl)) (fun _ => rfl))) (fun _ => rfl))
  (SS.cons (ST.asg (SN.nm K 12 rfl) (ET.cb K 20 rfl (BS.abs c n) G.b_abs (AT.cons (ET.bin (ET.item (ET.nm K 11 rfl) ET.intC (fun _ _ => rfl)) (ET.item (ET.nm K 11 rfl) ET.intC (fun _ _ => rfl)) (PB.sub c n)) AT.nil (fun _ => rfl)) rfl) (fun _ => rfl))
  (SS.cons (ST.aug (SN.nm K 11 rfl) (LN.nm K 11 rfl) (ET.comp' [none, none, some 10, some 9] 1 200 (by decide +kernel) (IS.rg K 21 rfl G.b_range (AT.cons ET.intC AT.nil (fun _ => rfl)) rfl) (fun _ _ => rfl) rfl (fun K => (CT.one (TT.cmp (ET.item (ET.cl K 2 rfl) (ET.nm K 1 rfl) (fun _ _ => rfl)) (ET.item (ET.cl K 3 rfl) (ET.nm K 1 rfl) (fun _ _ => rfl)) (PB.neL c n) rfl) (CI.emit rfl (ET.nm K 1 rfl))))) (PB.iaddL c n))
  (SS.cons (ST.asg (SN.nm K 13 rfl) (ET.bin (ET.bin ET.intC (ET.bin (ET.cb K 22 rfl (BS.maxL c n) G.b_max (AT.cons (ET.nm K 11 rfl) AT.nil (fun _ => rfl)) rfl) (ET.cb K 23 rfl (BS.minL c n) G.b_min (AT.cons (ET.nm K 11 rfl) AT.nil (fun _ => rfl)) rfl) (PB.sub c n)) (PB.mul c n)) (ET.nm K 12 rfl) (PB.sub c n)) (fun _ => rfl))
  (SS.cons (ST.ite (TT.cmp (ET.itemD (ET.nm K 4 rfl) (ET.nm K 6 rfl) (fun _ _ => rfl)) (ET.bin (ET.cf K 24 rfl h_levenshtein_distance G.f_levenshtein_distance (AT.cons (ET.cl K 9 rfl) (AT.cons (ET.cl K 10 rfl) (AT.cons ET.intC AT.nil (fun _ => rfl)) (fun _ => rfl)) (fun _ => rfl)) rfl) (ET.nm K 13 rfl) (PB.add c n)) (PB.neL c n) rfl) (SS.cons (ST.ret ET.boolC)
  SS.nil) SS.nil)
  SS.nil)))))) (fun _ _ => rfl))
  (SS.cons (ST.ret ET.boolC)
  SS.nil))))))))))))


end
end Mine
-- part E1.lean
set_option autoImplicit false
set_option maxRecDepth 100000
set_option maxHeartbeats 0
set_option Elab.async false
set_option linter.unusedVariables false
namespace Mine
open PySem PySem.W PyProof.Rows
noncomputable section
theorem cloD_for (env : Env) (cl : Addr) (h : env.cells.lookup ("left" : Str) = some cl) : closureFor cloD.scope env = pure [(("left" : Str), cl)] := by
  have hn : cloD.scope.names = [(("size" : Str), NameKind.local), (("left" : Str), NameKind.free)] := by kernel_rfl
  rw [closureFor_eq (fun x hx => by
    rw [hn] at hx
    simp at hx
    subst hx
    exact ⟨cl, h⟩), hn]
  unfold clOf
  rw [if_neg (by decide)]
  unfold clOf
  rw [if_pos (by decide), h]
  rfl
theorem X_substitution_cost : TextOk C_substitution_cost ["ch_a", "ch_b"] := ⟨rfl, rfl, rfl, by decide +kernel, by decide +kernel, by decide +kernel, by decide +kernel⟩
theorem X_levenshtein_distance : TextOk C_levenshtein_distance ["a", "b", "max_cost"] := ⟨rfl, rfl, rfl, by decide +kernel, by decide +kernel, by decide +kernel, by decide +kernel⟩
theorem Xreplace : TextOk Creplace ["text", "pairs"] := ⟨rfl, rfl, rfl, by decide +kernel, by decide +kernel, by decide +kernel, by decide +kernel⟩
theorem X__init__ : TextOk C__init__ ["self", "fp"] := ⟨rfl, rfl, rfl, by decide +kernel, by decide +kernel, by decide +kernel, by decide +kernel⟩
theorem X_read_char : TextOk C_read_char ["self"] := ⟨rfl, rfl, rfl, by decide +kernel, by decide +kernel, by decide +kernel, by decide +kernel⟩
theorem Xget_token : TextOk Cget_token ["self"] := ⟨rfl, rfl, rfl, by decide +kernel, by decide +kernel, by decide +kernel, by decide +kernel⟩
theorem Xpush_token : TextOk Cpush_token ["self", "token"] := ⟨rfl, rfl, rfl, by decide +kernel, by decide +kernel, by decide +kernel, by decide +kernel⟩
theorem X_law_lexer : TextOk C_law_lexer ["line"] := ⟨rfl, rfl, rfl, by decide +kernel, by decide +kernel, by decide +kernel, by decide +kernel⟩
theorem X_law_street : TextOk C_law_street ["numbers"] := ⟨rfl, rfl, rfl, by decide +kernel, by decide +kernel, by decide +kernel, by decide +kernel⟩
theorem X_law_onward : TextOk C_law_onward ["street"] := ⟨rfl, rfl, rfl, by decide +kernel, by decide +kernel, by decide +kernel, by decide +kernel⟩
theorem Xlaw : TextOk Claw ["script"] := ⟨rfl, rfl, rfl, by decide +kernel, by decide +kernel, by decide +kernel, by decide +kernel⟩
theorem chain1 {c : Cx} {K : Frag} {ad : Ads} (G : Glob c K cloD ad) {ca : Addr} {f1 f2 f3 f4 f5 f6 f7 f8 f9 f10 f11 : FuncData}
    (d1 : DefOk c ad.a_substitution_cost C_substitution_cost ["ch_a", "ch_b"] B_substitution_cost f1) (b1 : Binds f1 ["ch_a", "ch_b"])
    (d2 : DefOk c ad.a_levenshtein_distance C_levenshtein_distance ["a", "b", "max_cost"] B_levenshtein_distance f2) (b2 : Binds f2 ["a", "b", "max_cost"])
    (d3 : DefOk c ad.areplace Creplace ["text", "pairs"] Breplace f3) (b3 : BindsV c f3 "text" "pairs")
    (d4 : DefOk c ad.a__init__ C__init__ ["self", "fp"] B__init__ f4) (b4 : Binds f4 ["self", "fp"])
    (d5 : DefOk c c.fnRead C_read_char ["self"] B_read_char f5) (b5 : Binds f5 ["self"])
    (d6 : DefOk c ad.aget_token Cget_token ["self"] Bget_token f6) (b6 : Binds f6 ["self"])
    (d7 : DefOk c ad.apush_token Cpush_token ["self", "token"] Bpush_token f7) (b7 : Binds f7 ["self", "token"])
    (d8 : DefOk c ad.a_law_lexer C_law_lexer ["line"] B_law_lexer f8) (b8 : Binds f8 ["line"]) (Lx : LexOk c cloD ca posD f8)
    (d9 : DefOk c ad.a_law_street C_law_street ["numbers"] B_law_street f9) (b9 : Binds f9 ["numbers"])
    (d10 : DefOk c ad.a_law_onward C_law_onward ["street"] B_law_onward f10) (b10 : Binds f10 ["street"])
    (d11 : DefOk c ad.alaw Claw ["script"] Blaw f11) (b11 : Binds f11 ["script"])
    {tl to_ tr : Fp} (el : ∀ vs H r, tl vs H = some r → alone P_levenshtein_distance vs H = some r) (eo : ∀ vs H r, to_ vs H = some r → alone (P_law_onward (alone Preplace)) vs H = some r) (er : ∀ vs H r, tr vs H = some r → alone Preplace vs H = some r) :
    FnS c 6 ad.alaw (Plaw tr to_ tl) := by
  have h1 : FnS c 1 ad.a_substitution_cost P_substitution_cost := FnS.of d1 b1 (S_substitution_cost c 0 K cloD ad G)
  have h2 : FnS c 2 ad.a_levenshtein_distance P_levenshtein_distance := FnS.of d2 b2 (S_levenshtein_distance c 1 K cloD ad G h1)
  have h3 : FnS c 1 ad.areplace Preplace := FnS.ofV d3 b3 (Sreplace c 0 K cloD ad G)
  have h4 : FnC c 1 ad.a__init__ P__init__ := FnC.of d4 b4 (S__init__ c 0 K cloD ad G)
  have h5 : FnC c 2 c.fnRead P_read_char := FnC.of d5 b5 (S_read_char c 0 K cloD ad G)
  have h6 : FnC c 4 ad.aget_token Pget_token := FnC.of d6 b6 (Sget_token c 2 K cloD ad G h5)
  have h7 : FnC c 1 ad.apush_token Ppush_token := FnC.of d7 b7 (Spush_token c 0 K cloD ad G)
  have h8 : FnS c 3 ad.a_law_lexer P_law_lexer := FnS.ofW d8 b8 (S_law_lexer c 1 K ad G Lx h4)
  have h9 : FnS c 1 ad.a_law_street P_law_street := FnS.of d9 b9 (S_law_street c 0 K cloD ad G)
  have h10 : FnS c 2 ad.a_law_onward (P_law_onward (alone Preplace)) := FnS.of d10 b10 (S_law_onward c 1 K cloD ad G h3.alone)
  exact FnS.of d11 b11 (Slaw c 5 K cloD ad G ((h3.alone.le er).up (by decide)) (h9.up (by decide)) ((h10.alone.le eo).up (by decide)) (h8.up (by decide)) (h6.toS.up (by decide)) (h7.toS.up (by decide)) ((h2.alone.le el).up (by decide)))

end
end Mine
-- part R1f.lean
set_option autoImplicit false
set_option maxRecDepth 100000
set_option maxHeartbeats 0
set_option Elab.async false
set_option linter.unusedVariables false
namespace Mine
open PySem PySem.W PyProof.Rows
noncomputable section
def chk (r : Option (V × List O)) : Bool := match r with
  | some (.bool true, .tab _ :: _) => true
  | _ => false
theorem chk_ok {r : Option (V × List O)} (h : chk r = true) : ∃ m H, r = some (.bool true, .tab m :: H) := by
  unfold chk at h
  split at h
  · exact ⟨_, _, rfl⟩
  · cases h
def chkF (r : Option ((Fl × List V) × List O)) : Bool := match r with
  | some ((.ret (.bool true), _), .tab _ :: _) => true
  | _ => false
theorem chkF_ok {r : Option ((Fl × List V) × List O)} (h : chkF r = true) : chk (outOf r) = true := by
  unfold chkF at h
  split at h
  · rfl
  · cases h
def S0 : Sf := (sAsg 1 (eBin pAdd (eSliceS (eName 0) (eV .none) (eV (.int 4))) (eSlice (eListD (aCons (eV (.int 1)) (aCons (eV (.int 0)) (aCons (eV (.int 3)) (aCons (eV (.int 0)) aNil))))) (eCall pLenS (aCons (eName 0) aNil)) (eV .none))))
def Frest (xreplace x_law_onward x_levenshtein_distance : Fp) : Sf :=
  (sCons (sAsg 2 (eCall P_law_street (aCons (eName 1) aNil)))
  (sCons (sAsg 3 (eCall P_law_lexer (aCons (eBin pAdd (eBin pAdd (eV (.str [32, 32])) (eName 2)) (eV (.str [10]))) aNil)))
  (sCons (sAsg 4 (eDict1 (eName 2) (eV (.int 0))))
  (sCons (sAsg 5 (eListD aNil))
  (sCons (sAsg 6 (eMethI Pget_token [103, 101, 116, 95, 116, 111, 107, 101, 110] (eName 3) aNil))
  (sCons (whl (tOf (eName 6)) (sCons (sExpr (eMeth isLst mAppend (eName 5) (aCons (eBin pGetD (eName 4) (eName 6)) aNil)))
  (sCons (sFor 7 (iVal (eCall x_law_onward (aCons (eName 6) aNil))) (sCons (sIf (tOf (eBin pNinD (eName 7) (eName 4))) (sCons (sSetD (eBin pAdd (eBin pGetD (eName 4) (eName 6)) (eV (.int 1))) (eName 4) (eName 7))
  (sCons (sExpr (eMethI Ppush_token [112, 117, 115, 104, 95, 116, 111, 107, 101, 110] (eName 3) (aCons (eName 7) aNil)))
  sNil)) sNil)
  sNil) 200)
  (sCons (sAsg 6 (eMethI Pget_token [103, 101, 116, 95, 116, 111, 107, 101, 110] (eName 3) aNil))
  sNil))) 200)
  (sCons (sAsg 8 (eCall pLen (aCons (eComp [none, none] 1 (iVal (eSlice (eName 1) (eV .none) (eV (.int 3)))) (cIf (tOf (eBin pMod (eName 1) (eV (.int 2)))) (cEmit (eName 1))) 200) aNil)))
  (sCons (sIf (tOr (tOf (eBin pNeL (eCall pLenD (aCons (eName 4) aNil)) (eBin pMul (eV (.int 4)) (eBin pPow (eV (.int 2)) (eName 8))))) (tOr (tOf (eBin pNeL (eName 5) (eSortedV (eName 4)))) tFalse)) (sCons (sRet (eV (.bool false)))
  sNil) sNil)
  (sCons (sAsg 9 (eCall xreplace (aCons (eName 2) (aCons (eV (.str [42])) (aCons (eV (.str [])) aNil)))))
  (sCons (sFor 6 (iKeys (eName 4)) (sCons (sAsg 10 (eCall xreplace (aCons (eName 6) (aCons (eV (.str [42])) (aCons (eV (.str [])) aNil)))))
  (sCons (sAsg 11 (eListD (aCons (eMeth isStr mFind (eName 2) (aCons (eV (.str [42])) aNil)) (aCons (eMeth isStr mFind (eName 6) (aCons (eV (.str [42])) aNil)) aNil))))
  (sCons (sAsg 12 (eCall pAbs (aCons (eBin pSub (eBin pItem (eName 11) (eV (.int 0))) (eBin pItem (eName 11) (eV (.int 1)))) aNil)))
  (sCons (sAug pIaddL 11 (eComp [none, none, some 10, some 9] 1 (iRange (aCons (eV (.int 3)) aNil)) (cIf (tOf (eBin pNeL (eBin pItem (eName 2) (eName 1)) (eBin pItem (eName 3) (eName 1)))) (cEmit (eName 1))) 200))
  (sCons (sAsg 13 (eBin pSub (eBin pMul (eV (.int 2)) (eBin pSub (eCall pMaxL (aCons (eName 11) aNil)) (eCall pMinL (aCons (eName 11) aNil)))) (eName 12)))
  (sCons (sIf (tOf (eBin pNeL (eBin pGetD (eName 4) (eName 6)) (eBin pAdd (eCall x_levenshtein_distance (aCons (eName 9) (aCons (eName 10) (aCons (eV (.int 6)) aNil)))) (eName 13)))) (sCons (sRet (eV (.bool false)))
  sNil) sNil)
  sNil)))))) 200)
  (sCons (sRet (eV (.bool true)))
  sNil)))))))))))
theorem Flaw_eq (xreplace x_law_onward x_levenshtein_distance : Fp) : Flaw xreplace x_law_onward x_levenshtein_distance = sCons S0 (Frest xreplace x_law_onward x_levenshtein_distance) := rfl
theorem sCons_next {f g : Sf} {lo lo1 : List V} {H H1 : List O} (h : f lo H = some ((.next, lo1), H1)) : sCons f g lo H = g lo1 H1 := by
  show bnd (f lo H) _ = _
  rw [h]
theorem fnOf_run {k m : Nat} {f : Sf} {vs : List V} {H : List O} {r : Option ((Fl × List V) × List O)} (hk : Nat.beq vs.length k = true) (h : f (loOf m vs) H = r) : fnOf k m f vs H = outOf r := by
  show gd (Nat.beq vs.length k) (outOf (f (loOf m vs) H)) = _
  rw [hk, h]
theorem run_of {tr to_ tl : Fp} {ps : List (Nat × Nat)} {lo1 : List V} {H1 : List O} (h0 : S0 (loOf 25 [.il ps]) [.tab false] = some ((.next, lo1), H1)) (h : chkF (Frest tr to_ tl lo1 H1) = true) : chk (Plaw tr to_ tl [.il ps] [.tab false]) = true := by
  have e : Flaw tr to_ tl (loOf 25 [.il ps]) [.tab false] = Frest tr to_ tl lo1 H1 := by
    rw [Flaw_eq]
    exact sCons_next h0
  unfold Plaw
  rw [fnOf_run rfl e]
  exact chkF_ok h
def lo1 (v : V) : List V := [v, .ref 4, .unb, .unb, .unb, .unb, .unb, .unb, .unb, .unb, .unb, .unb, .unb, .unb, .unb, .unb, .unb, .unb, .unb, .unb, .unb, .unb, .unb, .unb, .unb]
def dflt : List V := [.int 1, .int 0, .int 3, .int 0]

theorem s0_0 : S0 (loOf 25 [.il []]) [.tab false] = some ((.next, lo1 (.il [])), [.tab false, .list [], .list dflt, .list [.int 1, .int 0, .int 3, .int 0], .list [.int 1, .int 0, .int 3, .int 0]]) := by kernel_rfl
theorem s0_1 (a : Nat × Nat) : S0 (loOf 25 [.il [a]]) [.tab false] = some ((.next, lo1 (.il [a])), [.tab false, .list [inpV a], .list dflt, .list [.int 0, .int 3, .int 0], .list [inpV a, .int 0, .int 3, .int 0]]) := by kernel_rfl
theorem s0_2 (a b : Nat × Nat) : S0 (loOf 25 [.il [a, b]]) [.tab false] = some ((.next, lo1 (.il [a, b])), [.tab false, .list [inpV a, inpV b], .list dflt, .list [.int 3, .int 0], .list [inpV a, inpV b, .int 3, .int 0]]) := by kernel_rfl
theorem s0_3 (a b d : Nat × Nat) : S0 (loOf 25 [.il [a, b, d]]) [.tab false] = some ((.next, lo1 (.il [a, b, d])), [.tab false, .list [inpV a, inpV b, inpV d], .list dflt, .list [.int 0], .list [inpV a, inpV b, inpV d, .int 0]]) := by kernel_rfl
theorem s0_4 (a b d e : Nat × Nat) : S0 (loOf 25 [.il [a, b, d, e]]) [.tab false] = some ((.next, lo1 (.il [a, b, d, e])), [.tab false, .list [inpV a, inpV b, inpV d, inpV e], .list dflt, .list [], .list [inpV a, inpV b, inpV d, inpV e]]) := by kernel_rfl
theorem s0_5 (a b d e f : Nat × Nat) (r : List (Nat × Nat)) : S0 (loOf 25 [.il (a :: b :: d :: e :: f :: r)]) [.tab false] = some ((.next, lo1 (.il (a :: b :: d :: e :: f :: r))), [.tab false, .list [inpV a, inpV b, inpV d, inpV e], .list dflt, .list [], .list [inpV a, inpV b, inpV d, inpV e]]) := by kernel_rfl
def bit (q k : Nat) : Nat := q / 2 ^ (2 - k) % 2
def opts (q k : Nat) : List Nat := match Nat.beq (bit q k) 1 with
  | true => [97 + k, 65 + k]
  | false => [46]
def plc (q : Nat) : List (List Nat) := (opts q 0).flatMap fun a => (opts q 1).flatMap fun b => (opts q 2).map fun d => [a, b, d]
def stt (w : List Nat) (k : Nat) : List Nat := w.take k ++ 42 :: w.drop k
def flipC (c : Nat) : Nat := match Nat.beq c 46 with
  | true => 46
  | false => match Nat.blt c 97 with
    | true => c + 32
    | false => c - 32
def flp (w : List Nat) (k : Nat) : List Nat := w.take k ++ flipC (nth 46 w k) :: w.drop (k + 1)
def onw (w : List Nat) (k : Nat) : List (List Nat) := (match Nat.blt k 3 with
  | true => [stt w (k + 1), stt (flp w k) k]
  | false => []) ++ (match Nat.blt 0 k with
  | true => [stt w (k - 1)]
  | false => [])
def ham (a c : List Nat) : Nat := (List.zipWith (fun x y => match Nat.beq x y with
  | true => 0
  | false => 1) a c).foldr (· + ·) 0
def tO (q : Nat) : Tb := (plc q).flatMap fun w => [0, 1, 2, 3].map fun k => ([.s (stt w k)], .lst (onw w k))
def tR (q : Nat) : Tb := (plc q).flatMap fun w => [0, 1, 2, 3].map fun k => ([.s (stt w k), .s [42], .s []], .str w)
def tL (q : Nat) : Tb := (plc q).flatMap fun a => (plc q).map fun d => ([.s a, .s d, .i 6], .int (ham a d))
theorem okO0 : linesB (P_law_onward (alone Preplace)) true true (tO 0) = true := by decide +kernel
theorem okR0 : linesB Preplace true true (tR 0) = true := by decide +kernel
theorem okL0 : linesB P_levenshtein_distance true true (tL 0) = true := by decide +kernel
theorem okO1 : linesB (P_law_onward (alone Preplace)) true true (tO 1) = true := by decide +kernel
theorem okR1 : linesB Preplace true true (tR 1) = true := by decide +kernel
theorem okL1 : linesB P_levenshtein_distance true true (tL 1) = true := by decide +kernel
theorem okO2 : linesB (P_law_onward (alone Preplace)) true true (tO 2) = true := by decide +kernel
theorem okR2 : linesB Preplace true true (tR 2) = true := by decide +kernel
theorem okL2 : linesB P_levenshtein_distance true true (tL 2) = true := by decide +kernel
theorem okO3 : linesB (P_law_onward (alone Preplace)) true true (tO 3) = true := by decide +kernel
theorem okR3 : linesB Preplace true true (tR 3) = true := by decide +kernel
theorem okL3 : linesB P_levenshtein_distance true true (tL 3) = true := by decide +kernel
theorem okO4 : linesB (P_law_onward (alone Preplace)) true true (tO 4) = true := by decide +kernel
theorem okR4 : linesB Preplace true true (tR 4) = true := by decide +kernel
theorem okL4 : linesB P_levenshtein_distance true true (tL 4) = true := by decide +kernel
theorem okO5 : linesB (P_law_onward (alone Preplace)) true true (tO 5) = true := by decide +kernel
theorem okR5 : linesB Preplace true true (tR 5) = true := by decide +kernel
theorem okL5 : linesB P_levenshtein_distance true true (tL 5) = true := by decide +kernel
theorem okO6 : linesB (P_law_onward (alone Preplace)) true true (tO 6) = true := by decide +kernel
theorem okR6 : linesB Preplace true true (tR 6) = true := by decide +kernel
theorem okL6 : linesB P_levenshtein_distance true true (tL 6) = true := by decide +kernel
theorem okO7 : linesB (P_law_onward (alone Preplace)) true true (tO 7) = true := by decide +kernel
theorem okR7 : linesB Preplace true true (tR 7) = true := by decide +kernel
theorem okL7 : linesB P_levenshtein_distance true true (tL 7) = true := by decide +kernel
def fO (T : Tb) : Fp := tabF (fun _ => none) (look T) false true
def FF (q : Nat) : Sf := Frest (fO (tR q)) (fO (tO q)) (fO (tL q))
def go (q : Nat) (v : V) (a b d : O) (x y z u : V) : Bool := chkF (FF q (lo1 v) [.tab false, a, b, d, .list [x, y, z, u]])
def allN (n : Nat) (f : Nat → Bool) : Bool := Nat.rec true (fun j ih => match f j with
  | true => ih
  | false => false) n
theorem allN_ok : ∀ {n : Nat} {f : Nat → Bool}, allN n f = true → ∀ j, j < n → f j = true
  | 0, _, _, j, hj => absurd hj (Nat.not_lt_zero j)
  | n + 1, f, h, j, hj => by
    change (match f n with | true => allN n f | false => false) = true at h
    cases e : f n with
    | false => rw [e] at h; cases h
    | true =>
      rw [e] at h
      rcases Nat.lt_succ_iff_lt_or_eq.mp hj with q | rfl
      · exact allN_ok h j q
      · exact e
theorem r0 (v : V) (a b d : O) : go 5 v a b d (.int 1) (.int 0) (.int 3) (.int 0) = true := by kernel_rfl
theorem r1_0 (v : V) (a b d : O) : go 1 v a b d (.inp 0 2) (.int 0) (.int 3) (.int 0) = true := by kernel_rfl
theorem r1_1 (v : V) (a b d : O) : go 5 v a b d (.inp 1 4) (.int 0) (.int 3) (.int 0) = true := by kernel_rfl
theorem r1_2 (v : V) (a b d : O) : go 5 v a b d (.inp 3 4) (.int 0) (.int 3) (.int 0) = true := by kernel_rfl
theorem r2_0_0 (v : V) (a b d : O) : go 1 v a b d (.inp 0 2) (.inp 0 2) (.int 3) (.int 0) = true := by kernel_rfl
theorem r2_0_1 (v : V) (a b d : O) : go 3 v a b d (.inp 0 2) (.inp 1 4) (.int 3) (.int 0) = true := by kernel_rfl
theorem r2_0_2 (v : V) (a b d : O) : go 3 v a b d (.inp 0 2) (.inp 3 4) (.int 3) (.int 0) = true := by kernel_rfl
theorem r2_1_0 (v : V) (a b d : O) : go 5 v a b d (.inp 1 4) (.inp 0 2) (.int 3) (.int 0) = true := by kernel_rfl
theorem r2_1_1 (v : V) (a b d : O) : go 7 v a b d (.inp 1 4) (.inp 1 4) (.int 3) (.int 0) = true := by kernel_rfl
theorem r2_1_2 (v : V) (a b d : O) : go 7 v a b d (.inp 1 4) (.inp 3 4) (.int 3) (.int 0) = true := by kernel_rfl
theorem r2_2_0 (v : V) (a b d : O) : go 5 v a b d (.inp 3 4) (.inp 0 2) (.int 3) (.int 0) = true := by kernel_rfl
theorem r2_2_1 (v : V) (a b d : O) : go 7 v a b d (.inp 3 4) (.inp 1 4) (.int 3) (.int 0) = true := by kernel_rfl
theorem r2_2_2 (v : V) (a b d : O) : go 7 v a b d (.inp 3 4) (.inp 3 4) (.int 3) (.int 0) = true := by kernel_rfl
theorem r3_0_0_0 (v : V) (a b d : O) : go 0 v a b d (.inp 0 2) (.inp 0 2) (.inp 0 2) (.int 0) = true := by kernel_rfl
theorem r4_0_0_0 (v : V) (a b d : O) : allN 4 (fun u => go 0 v a b d (.inp 0 2) (.inp 0 2) (.inp 0 2) (.inp u 4)) = true := by kernel_rfl
theorem r3_0_0_1 (v : V) (a b d : O) : go 1 v a b d (.inp 0 2) (.inp 0 2) (.inp 1 4) (.int 0) = true := by kernel_rfl
theorem r4_0_0_1 (v : V) (a b d : O) : allN 4 (fun u => go 1 v a b d (.inp 0 2) (.inp 0 2) (.inp 1 4) (.inp u 4)) = true := by kernel_rfl
theorem r3_0_0_2 (v : V) (a b d : O) : go 1 v a b d (.inp 0 2) (.inp 0 2) (.inp 3 4) (.int 0) = true := by kernel_rfl
theorem r4_0_0_2 (v : V) (a b d : O) : allN 4 (fun u => go 1 v a b d (.inp 0 2) (.inp 0 2) (.inp 3 4) (.inp u 4)) = true := by kernel_rfl
theorem r3_0_1_0 (v : V) (a b d : O) : go 2 v a b d (.inp 0 2) (.inp 1 4) (.inp 0 2) (.int 0) = true := by kernel_rfl
theorem r4_0_1_0 (v : V) (a b d : O) : allN 4 (fun u => go 2 v a b d (.inp 0 2) (.inp 1 4) (.inp 0 2) (.inp u 4)) = true := by kernel_rfl
theorem r3_0_1_1 (v : V) (a b d : O) : go 3 v a b d (.inp 0 2) (.inp 1 4) (.inp 1 4) (.int 0) = true := by kernel_rfl
theorem r4_0_1_1 (v : V) (a b d : O) : allN 4 (fun u => go 3 v a b d (.inp 0 2) (.inp 1 4) (.inp 1 4) (.inp u 4)) = true := by kernel_rfl
theorem r3_0_1_2 (v : V) (a b d : O) : go 3 v a b d (.inp 0 2) (.inp 1 4) (.inp 3 4) (.int 0) = true := by kernel_rfl
theorem r4_0_1_2 (v : V) (a b d : O) : allN 4 (fun u => go 3 v a b d (.inp 0 2) (.inp 1 4) (.inp 3 4) (.inp u 4)) = true := by kernel_rfl
theorem r3_0_2_0 (v : V) (a b d : O) : go 2 v a b d (.inp 0 2) (.inp 3 4) (.inp 0 2) (.int 0) = true := by kernel_rfl
theorem r4_0_2_0 (v : V) (a b d : O) : allN 4 (fun u => go 2 v a b d (.inp 0 2) (.inp 3 4) (.inp 0 2) (.inp u 4)) = true := by kernel_rfl
theorem r3_0_2_1 (v : V) (a b d : O) : go 3 v a b d (.inp 0 2) (.inp 3 4) (.inp 1 4) (.int 0) = true := by kernel_rfl
theorem r4_0_2_1 (v : V) (a b d : O) : allN 4 (fun u => go 3 v a b d (.inp 0 2) (.inp 3 4) (.inp 1 4) (.inp u 4)) = true := by kernel_rfl
theorem r3_0_2_2 (v : V) (a b d : O) : go 3 v a b d (.inp 0 2) (.inp 3 4) (.inp 3 4) (.int 0) = true := by kernel_rfl
theorem r4_0_2_2 (v : V) (a b d : O) : allN 4 (fun u => go 3 v a b d (.inp 0 2) (.inp 3 4) (.inp 3 4) (.inp u 4)) = true := by kernel_rfl
theorem r3_1_0_0 (v : V) (a b d : O) : go 4 v a b d (.inp 1 4) (.inp 0 2) (.inp 0 2) (.int 0) = true := by kernel_rfl
theorem r4_1_0_0 (v : V) (a b d : O) : allN 4 (fun u => go 4 v a b d (.inp 1 4) (.inp 0 2) (.inp 0 2) (.inp u 4)) = true := by kernel_rfl
theorem r3_1_0_1 (v : V) (a b d : O) : go 5 v a b d (.inp 1 4) (.inp 0 2) (.inp 1 4) (.int 0) = true := by kernel_rfl
theorem r4_1_0_1 (v : V) (a b d : O) : allN 4 (fun u => go 5 v a b d (.inp 1 4) (.inp 0 2) (.inp 1 4) (.inp u 4)) = true := by kernel_rfl
theorem r3_1_0_2 (v : V) (a b d : O) : go 5 v a b d (.inp 1 4) (.inp 0 2) (.inp 3 4) (.int 0) = true := by kernel_rfl
theorem r4_1_0_2 (v : V) (a b d : O) : allN 4 (fun u => go 5 v a b d (.inp 1 4) (.inp 0 2) (.inp 3 4) (.inp u 4)) = true := by kernel_rfl
theorem r3_1_1_0 (v : V) (a b d : O) : go 6 v a b d (.inp 1 4) (.inp 1 4) (.inp 0 2) (.int 0) = true := by kernel_rfl
theorem r4_1_1_0 (v : V) (a b d : O) : allN 4 (fun u => go 6 v a b d (.inp 1 4) (.inp 1 4) (.inp 0 2) (.inp u 4)) = true := by kernel_rfl
theorem r3_1_1_1 (v : V) (a b d : O) : go 7 v a b d (.inp 1 4) (.inp 1 4) (.inp 1 4) (.int 0) = true := by kernel_rfl
theorem r4_1_1_1 (v : V) (a b d : O) : allN 4 (fun u => go 7 v a b d (.inp 1 4) (.inp 1 4) (.inp 1 4) (.inp u 4)) = true := by kernel_rfl
theorem r3_1_1_2 (v : V) (a b d : O) : go 7 v a b d (.inp 1 4) (.inp 1 4) (.inp 3 4) (.int 0) = true := by kernel_rfl
theorem r4_1_1_2 (v : V) (a b d : O) : allN 4 (fun u => go 7 v a b d (.inp 1 4) (.inp 1 4) (.inp 3 4) (.inp u 4)) = true := by kernel_rfl
theorem r3_1_2_0 (v : V) (a b d : O) : go 6 v a b d (.inp 1 4) (.inp 3 4) (.inp 0 2) (.int 0) = true := by kernel_rfl
theorem r4_1_2_0 (v : V) (a b d : O) : allN 4 (fun u => go 6 v a b d (.inp 1 4) (.inp 3 4) (.inp 0 2) (.inp u 4)) = true := by kernel_rfl
theorem r3_1_2_1 (v : V) (a b d : O) : go 7 v a b d (.inp 1 4) (.inp 3 4) (.inp 1 4) (.int 0) = true := by kernel_rfl
theorem r4_1_2_1 (v : V) (a b d : O) : allN 4 (fun u => go 7 v a b d (.inp 1 4) (.inp 3 4) (.inp 1 4) (.inp u 4)) = true := by kernel_rfl
theorem r3_1_2_2 (v : V) (a b d : O) : go 7 v a b d (.inp 1 4) (.inp 3 4) (.inp 3 4) (.int 0) = true := by kernel_rfl
theorem r4_1_2_2 (v : V) (a b d : O) : allN 4 (fun u => go 7 v a b d (.inp 1 4) (.inp 3 4) (.inp 3 4) (.inp u 4)) = true := by kernel_rfl
theorem r3_2_0_0 (v : V) (a b d : O) : go 4 v a b d (.inp 3 4) (.inp 0 2) (.inp 0 2) (.int 0) = true := by kernel_rfl
theorem r4_2_0_0 (v : V) (a b d : O) : allN 4 (fun u => go 4 v a b d (.inp 3 4) (.inp 0 2) (.inp 0 2) (.inp u 4)) = true := by kernel_rfl
theorem r3_2_0_1 (v : V) (a b d : O) : go 5 v a b d (.inp 3 4) (.inp 0 2) (.inp 1 4) (.int 0) = true := by kernel_rfl
theorem r4_2_0_1 (v : V) (a b d : O) : allN 4 (fun u => go 5 v a b d (.inp 3 4) (.inp 0 2) (.inp 1 4) (.inp u 4)) = true := by kernel_rfl
theorem r3_2_0_2 (v : V) (a b d : O) : go 5 v a b d (.inp 3 4) (.inp 0 2) (.inp 3 4) (.int 0) = true := by kernel_rfl
theorem r4_2_0_2 (v : V) (a b d : O) : allN 4 (fun u => go 5 v a b d (.inp 3 4) (.inp 0 2) (.inp 3 4) (.inp u 4)) = true := by kernel_rfl
theorem r3_2_1_0 (v : V) (a b d : O) : go 6 v a b d (.inp 3 4) (.inp 1 4) (.inp 0 2) (.int 0) = true := by kernel_rfl
theorem r4_2_1_0 (v : V) (a b d : O) : allN 4 (fun u => go 6 v a b d (.inp 3 4) (.inp 1 4) (.inp 0 2) (.inp u 4)) = true := by kernel_rfl
theorem r3_2_1_1 (v : V) (a b d : O) : go 7 v a b d (.inp 3 4) (.inp 1 4) (.inp 1 4) (.int 0) = true := by kernel_rfl
theorem r4_2_1_1 (v : V) (a b d : O) : allN 4 (fun u => go 7 v a b d (.inp 3 4) (.inp 1 4) (.inp 1 4) (.inp u 4)) = true := by kernel_rfl
theorem r3_2_1_2 (v : V) (a b d : O) : go 7 v a b d (.inp 3 4) (.inp 1 4) (.inp 3 4) (.int 0) = true := by kernel_rfl
theorem r4_2_1_2 (v : V) (a b d : O) : allN 4 (fun u => go 7 v a b d (.inp 3 4) (.inp 1 4) (.inp 3 4) (.inp u 4)) = true := by kernel_rfl
theorem r3_2_2_0 (v : V) (a b d : O) : go 6 v a b d (.inp 3 4) (.inp 3 4) (.inp 0 2) (.int 0) = true := by kernel_rfl
theorem r4_2_2_0 (v : V) (a b d : O) : allN 4 (fun u => go 6 v a b d (.inp 3 4) (.inp 3 4) (.inp 0 2) (.inp u 4)) = true := by kernel_rfl
theorem r3_2_2_1 (v : V) (a b d : O) : go 7 v a b d (.inp 3 4) (.inp 3 4) (.inp 1 4) (.int 0) = true := by kernel_rfl
theorem r4_2_2_1 (v : V) (a b d : O) : allN 4 (fun u => go 7 v a b d (.inp 3 4) (.inp 3 4) (.inp 1 4) (.inp u 4)) = true := by kernel_rfl
theorem r3_2_2_2 (v : V) (a b d : O) : go 7 v a b d (.inp 3 4) (.inp 3 4) (.inp 3 4) (.int 0) = true := by kernel_rfl
theorem r4_2_2_2 (v : V) (a b d : O) : allN 4 (fun u => go 7 v a b d (.inp 3 4) (.inp 3 4) (.inp 3 4) (.inp u 4)) = true := by kernel_rfl
end
end Mine
-- part Q1f.lean
set_option autoImplicit false
set_option maxRecDepth 100000
set_option maxHeartbeats 0
set_option Elab.async false
set_option linter.unusedVariables false
namespace Mine
open PySem PySem.W PyProof.Rows
noncomputable section
def Ok (ps : List (Nat × Nat)) : Prop := ∃ tr to_ tl : Fp, (∀ vs H r, tl vs H = some r → alone P_levenshtein_distance vs H = some r) ∧ (∀ vs H r, to_ vs H = some r → alone (P_law_onward (alone Preplace)) vs H = some r) ∧ (∀ vs H r, tr vs H = some r → alone Preplace vs H = some r) ∧ chk (Plaw tr to_ tl [.il ps] [.tab false]) = true
/-- what the tables of one pattern must tell -/
def TabsOk (q : Nat) : Prop := linesB P_levenshtein_distance true true (tL q) = true ∧ linesB (P_law_onward (alone Preplace)) true true (tO q) = true ∧ linesB Preplace true true (tR q) = true
theorem ok_of {q : Nat} {ps : List (Nat × Nat)} {v : V} {a b d : O} {x y z u : V} (h : TabsOk q) (h0 : S0 (loOf 25 [.il ps]) [.tab false] = some ((.next, lo1 v), [.tab false, a, b, d, .list [x, y, z, u]])) (hr : go q v a b d x y z u = true) : Ok ps := by
  obtain ⟨i1, i2, i3⟩ := h
  exact ⟨fO (tR q), fO (tO q), fO (tL q), tabF_le (Tells.none _ _ false) (Tells.look i1), tabF_le (Tells.none _ _ false) (Tells.look i2), tabF_le (Tells.none _ _ false) (Tells.look i3), run_of h0 hr⟩
theorem tabs0 : TabsOk 0 := ⟨okL0, okO0, okR0⟩
theorem tabs1 : TabsOk 1 := ⟨okL1, okO1, okR1⟩
theorem tabs2 : TabsOk 2 := ⟨okL2, okO2, okR2⟩
theorem tabs3 : TabsOk 3 := ⟨okL3, okO3, okR3⟩
theorem tabs4 : TabsOk 4 := ⟨okL4, okO4, okR4⟩
theorem tabs5 : TabsOk 5 := ⟨okL5, okO5, okR5⟩
theorem tabs6 : TabsOk 6 := ⟨okL6, okO6, okR6⟩
theorem tabs7 : TabsOk 7 := ⟨okL7, okO7, okR7⟩
abbrev Kd (p : Nat × Nat) : Prop := p = (0, 2) ∨ p = (1, 4) ∨ p = (3, 4)
theorem four_of {q : Nat} {p1 p2 p3 : Nat × Nat} {x y z : V} (h : TabsOk q) (hr : ∀ (v : V) (a b d : O), allN 4 (fun u => go q v a b d x y z (.inp u 4)) = true) (e1 : inpV p1 = x) (e2 : inpV p2 = y) (e3 : inpV p3 = z) (u : Nat) (hu : u < 4) : ∀ rest, Ok (p1 :: p2 :: p3 :: (u, 4) :: rest) := by
  subst e1 e2 e3
  intro rest
  cases rest with
  | nil => exact ok_of h (s0_4 _ _ _ _) (allN_ok (hr _ _ _ _) u hu)
  | cons _ _ => exact ok_of h (s0_5 _ _ _ _ _ _) (allN_ok (hr _ _ _ _) u hu)
theorem four (p1 : Nat × Nat) (p2 : Nat × Nat) (p3 : Nat × Nat) (h1 : Kd p1) (h2 : Kd p2) (h3 : Kd p3) (u : Nat) (hu : u < 4) (rest : List (Nat × Nat)) : Ok (p1 :: p2 :: p3 :: (u, 4) :: rest) := by
  rcases h1 with rfl | rfl | rfl
  · rcases h2 with rfl | rfl | rfl
    · rcases h3 with rfl | rfl | rfl
      · exact four_of (x := .inp 0 2) (y := .inp 0 2) (z := .inp 0 2) tabs0 r4_0_0_0 rfl rfl rfl u hu rest
      · exact four_of (x := .inp 0 2) (y := .inp 0 2) (z := .inp 1 4) tabs1 r4_0_0_1 rfl rfl rfl u hu rest
      · exact four_of (x := .inp 0 2) (y := .inp 0 2) (z := .inp 3 4) tabs1 r4_0_0_2 rfl rfl rfl u hu rest
    · rcases h3 with rfl | rfl | rfl
      · exact four_of (x := .inp 0 2) (y := .inp 1 4) (z := .inp 0 2) tabs2 r4_0_1_0 rfl rfl rfl u hu rest
      · exact four_of (x := .inp 0 2) (y := .inp 1 4) (z := .inp 1 4) tabs3 r4_0_1_1 rfl rfl rfl u hu rest
      · exact four_of (x := .inp 0 2) (y := .inp 1 4) (z := .inp 3 4) tabs3 r4_0_1_2 rfl rfl rfl u hu rest
    · rcases h3 with rfl | rfl | rfl
      · exact four_of (x := .inp 0 2) (y := .inp 3 4) (z := .inp 0 2) tabs2 r4_0_2_0 rfl rfl rfl u hu rest
      · exact four_of (x := .inp 0 2) (y := .inp 3 4) (z := .inp 1 4) tabs3 r4_0_2_1 rfl rfl rfl u hu rest
      · exact four_of (x := .inp 0 2) (y := .inp 3 4) (z := .inp 3 4) tabs3 r4_0_2_2 rfl rfl rfl u hu rest
  · rcases h2 with rfl | rfl | rfl
    · rcases h3 with rfl | rfl | rfl
      · exact four_of (x := .inp 1 4) (y := .inp 0 2) (z := .inp 0 2) tabs4 r4_1_0_0 rfl rfl rfl u hu rest
      · exact four_of (x := .inp 1 4) (y := .inp 0 2) (z := .inp 1 4) tabs5 r4_1_0_1 rfl rfl rfl u hu rest
      · exact four_of (x := .inp 1 4) (y := .inp 0 2) (z := .inp 3 4) tabs5 r4_1_0_2 rfl rfl rfl u hu rest
    · rcases h3 with rfl | rfl | rfl
      · exact four_of (x := .inp 1 4) (y := .inp 1 4) (z := .inp 0 2) tabs6 r4_1_1_0 rfl rfl rfl u hu rest
      · exact four_of (x := .inp 1 4) (y := .inp 1 4) (z := .inp 1 4) tabs7 r4_1_1_1 rfl rfl rfl u hu rest
      · exact four_of (x := .inp 1 4) (y := .inp 1 4) (z := .inp 3 4) tabs7 r4_1_1_2 rfl rfl rfl u hu rest
    · rcases h3 with rfl | rfl | rfl
      · exact four_of (x := .inp 1 4) (y := .inp 3 4) (z := .inp 0 2) tabs6 r4_1_2_0 rfl rfl rfl u hu rest
      · exact four_of (x := .inp 1 4) (y := .inp 3 4) (z := .inp 1 4) tabs7 r4_1_2_1 rfl rfl rfl u hu rest
      · exact four_of (x := .inp 1 4) (y := .inp 3 4) (z := .inp 3 4) tabs7 r4_1_2_2 rfl rfl rfl u hu rest
  · rcases h2 with rfl | rfl | rfl
    · rcases h3 with rfl | rfl | rfl
      · exact four_of (x := .inp 3 4) (y := .inp 0 2) (z := .inp 0 2) tabs4 r4_2_0_0 rfl rfl rfl u hu rest
      · exact four_of (x := .inp 3 4) (y := .inp 0 2) (z := .inp 1 4) tabs5 r4_2_0_1 rfl rfl rfl u hu rest
      · exact four_of (x := .inp 3 4) (y := .inp 0 2) (z := .inp 3 4) tabs5 r4_2_0_2 rfl rfl rfl u hu rest
    · rcases h3 with rfl | rfl | rfl
      · exact four_of (x := .inp 3 4) (y := .inp 1 4) (z := .inp 0 2) tabs6 r4_2_1_0 rfl rfl rfl u hu rest
      · exact four_of (x := .inp 3 4) (y := .inp 1 4) (z := .inp 1 4) tabs7 r4_2_1_1 rfl rfl rfl u hu rest
      · exact four_of (x := .inp 3 4) (y := .inp 1 4) (z := .inp 3 4) tabs7 r4_2_1_2 rfl rfl rfl u hu rest
    · rcases h3 with rfl | rfl | rfl
      · exact four_of (x := .inp 3 4) (y := .inp 3 4) (z := .inp 0 2) tabs6 r4_2_2_0 rfl rfl rfl u hu rest
      · exact four_of (x := .inp 3 4) (y := .inp 3 4) (z := .inp 1 4) tabs7 r4_2_2_1 rfl rfl rfl u hu rest
      · exact four_of (x := .inp 3 4) (y := .inp 3 4) (z := .inp 3 4) tabs7 r4_2_2_2 rfl rfl rfl u hu rest
theorem three (p1 : Nat × Nat) (p2 : Nat × Nat) (p3 : Nat × Nat) (h1 : Kd p1) (h2 : Kd p2) (h3 : Kd p3) : Ok [p1, p2, p3] := by
  rcases h1 with rfl | rfl | rfl
  · rcases h2 with rfl | rfl | rfl
    · rcases h3 with rfl | rfl | rfl
      · exact ok_of tabs0 (s0_3 _ _ _) (r3_0_0_0 _ _ _ _)
      · exact ok_of tabs1 (s0_3 _ _ _) (r3_0_0_1 _ _ _ _)
      · exact ok_of tabs1 (s0_3 _ _ _) (r3_0_0_2 _ _ _ _)
    · rcases h3 with rfl | rfl | rfl
      · exact ok_of tabs2 (s0_3 _ _ _) (r3_0_1_0 _ _ _ _)
      · exact ok_of tabs3 (s0_3 _ _ _) (r3_0_1_1 _ _ _ _)
      · exact ok_of tabs3 (s0_3 _ _ _) (r3_0_1_2 _ _ _ _)
    · rcases h3 with rfl | rfl | rfl
      · exact ok_of tabs2 (s0_3 _ _ _) (r3_0_2_0 _ _ _ _)
      · exact ok_of tabs3 (s0_3 _ _ _) (r3_0_2_1 _ _ _ _)
      · exact ok_of tabs3 (s0_3 _ _ _) (r3_0_2_2 _ _ _ _)
  · rcases h2 with rfl | rfl | rfl
    · rcases h3 with rfl | rfl | rfl
      · exact ok_of tabs4 (s0_3 _ _ _) (r3_1_0_0 _ _ _ _)
      · exact ok_of tabs5 (s0_3 _ _ _) (r3_1_0_1 _ _ _ _)
      · exact ok_of tabs5 (s0_3 _ _ _) (r3_1_0_2 _ _ _ _)
    · rcases h3 with rfl | rfl | rfl
      · exact ok_of tabs6 (s0_3 _ _ _) (r3_1_1_0 _ _ _ _)
      · exact ok_of tabs7 (s0_3 _ _ _) (r3_1_1_1 _ _ _ _)
      · exact ok_of tabs7 (s0_3 _ _ _) (r3_1_1_2 _ _ _ _)
    · rcases h3 with rfl | rfl | rfl
      · exact ok_of tabs6 (s0_3 _ _ _) (r3_1_2_0 _ _ _ _)
      · exact ok_of tabs7 (s0_3 _ _ _) (r3_1_2_1 _ _ _ _)
      · exact ok_of tabs7 (s0_3 _ _ _) (r3_1_2_2 _ _ _ _)
  · rcases h2 with rfl | rfl | rfl
    · rcases h3 with rfl | rfl | rfl
      · exact ok_of tabs4 (s0_3 _ _ _) (r3_2_0_0 _ _ _ _)
      · exact ok_of tabs5 (s0_3 _ _ _) (r3_2_0_1 _ _ _ _)
      · exact ok_of tabs5 (s0_3 _ _ _) (r3_2_0_2 _ _ _ _)
    · rcases h3 with rfl | rfl | rfl
      · exact ok_of tabs6 (s0_3 _ _ _) (r3_2_1_0 _ _ _ _)
      · exact ok_of tabs7 (s0_3 _ _ _) (r3_2_1_1 _ _ _ _)
      · exact ok_of tabs7 (s0_3 _ _ _) (r3_2_1_2 _ _ _ _)
    · rcases h3 with rfl | rfl | rfl
      · exact ok_of tabs6 (s0_3 _ _ _) (r3_2_2_0 _ _ _ _)
      · exact ok_of tabs7 (s0_3 _ _ _) (r3_2_2_1 _ _ _ _)
      · exact ok_of tabs7 (s0_3 _ _ _) (r3_2_2_2 _ _ _ _)
theorem two (p1 : Nat × Nat) (p2 : Nat × Nat) (h1 : Kd p1) (h2 : Kd p2) : Ok [p1, p2] := by
  rcases h1 with rfl | rfl | rfl
  · rcases h2 with rfl | rfl | rfl
    · exact ok_of tabs1 (s0_2 _ _) (r2_0_0 _ _ _ _)
    · exact ok_of tabs3 (s0_2 _ _) (r2_0_1 _ _ _ _)
    · exact ok_of tabs3 (s0_2 _ _) (r2_0_2 _ _ _ _)
  · rcases h2 with rfl | rfl | rfl
    · exact ok_of tabs5 (s0_2 _ _) (r2_1_0 _ _ _ _)
    · exact ok_of tabs7 (s0_2 _ _) (r2_1_1 _ _ _ _)
    · exact ok_of tabs7 (s0_2 _ _) (r2_1_2 _ _ _ _)
  · rcases h2 with rfl | rfl | rfl
    · exact ok_of tabs5 (s0_2 _ _) (r2_2_0 _ _ _ _)
    · exact ok_of tabs7 (s0_2 _ _) (r2_2_1 _ _ _ _)
    · exact ok_of tabs7 (s0_2 _ _) (r2_2_2 _ _ _ _)
theorem one_ (p1 : Nat × Nat) (h1 : Kd p1) : Ok [p1] := by
  rcases h1 with rfl | rfl | rfl
  · exact ok_of tabs1 (s0_1 _) (r1_0 _ _ _ _)
  · exact ok_of tabs5 (s0_1 _) (r1_1 _ _ _ _)
  · exact ok_of tabs5 (s0_1 _) (r1_2 _ _ _ _)
theorem zero_ : Ok [] := ok_of tabs5 s0_0 (r0 _ _ _ _)
def Fits (ps : List (Nat × Nat)) (ns : List Int) : Prop := All2 (fun (p : Nat × Nat) (j : Int) => 0 < p.2 ∧ j % (p.2 : Int) = (p.1 : Int)) ps ns
theorem fit1 (j : Int) (M : Nat) (h : 0 < M) : 0 < (((j % (M : Int)).toNat, M) : Nat × Nat).2 ∧ j % ((((j % (M : Int)).toNat, M) : Nat × Nat).2 : Int) = ((((j % (M : Int)).toNat, M) : Nat × Nat).1 : Int) :=
  ⟨h, by show j % (M : Int) = (((j % (M : Int)).toNat : Nat) : Int); rw [Int.toNat_of_nonneg (Int.emod_nonneg _ (by omega))]⟩
theorem lt1 (j : Int) (M : Nat) (h : 0 < M) : (j % (M : Int)).toNat < M := by
  have h1 := Int.emod_lt_of_pos j (show (0 : Int) < (M : Int) by omega)
  have h2 := Int.emod_nonneg j (show (M : Int) ≠ 0 by omega)
  omega
theorem fits_rest : ∀ ns : List Int, Fits (ns.map fun _ => (0, 1)) ns
  | [] => .nil
  | j :: ns => .cons (show 0 < (1 : Nat) ∧ j % ((1 : Nat) : Int) = ((0 : Nat) : Int) from ⟨by decide, by omega⟩) (fits_rest ns)
theorem kind_of (x : Int) : ∃ p : Nat × Nat, Kd p ∧ (0 < p.2 ∧ x % (p.2 : Int) = (p.1 : Int)) := by
  have h1 := Int.emod_lt_of_pos x (show (0 : Int) < 4 by omega)
  have h2 := Int.emod_nonneg x (show (4 : Int) ≠ 0 by omega)
  by_cases h : x % 4 = 1
  · exact ⟨(1, 4), .inr (.inl rfl), by decide, h⟩
  · by_cases h' : x % 4 = 3
    · exact ⟨(3, 4), .inr (.inr rfl), by decide, h'⟩
    · exact ⟨(0, 2), .inl rfl, by decide, (by omega : x % 2 = 0)⟩
theorem law_runs : ∀ ns : List Int, ∃ ps, Fits ps ns ∧ Ok ps
  | [] => ⟨[], .nil, zero_⟩
  | [x] => by
    obtain ⟨p, h1, hx⟩ := kind_of x
    exact ⟨_, .cons hx .nil, one_ p h1⟩
  | [x, y] => by
    obtain ⟨p, h1, hx⟩ := kind_of x
    obtain ⟨p', h2, hy⟩ := kind_of y
    exact ⟨_, .cons hx (.cons hy .nil), two p p' h1 h2⟩
  | [x, y, z] => by
    obtain ⟨p, h1, hx⟩ := kind_of x
    obtain ⟨p', h2, hy⟩ := kind_of y
    obtain ⟨p'', h3, hz⟩ := kind_of z
    exact ⟨_, .cons hx (.cons hy (.cons hz .nil)), three p p' p'' h1 h2 h3⟩
  | x :: y :: z :: u :: r => by
    obtain ⟨p, h1, hx⟩ := kind_of x
    obtain ⟨p', h2, hy⟩ := kind_of y
    obtain ⟨p'', h3, hz⟩ := kind_of z
    exact ⟨_, .cons hx (.cons hy (.cons hz (.cons (fit1 u 4 (by decide)) (fits_rest r)))), four p p' p'' h1 h2 h3 _ (lt1 u 4 (by decide)) _⟩
theorem fits_inp {ps : List (Nat × Nat)} {ns : List Int} (h : All2 (fun (p : Nat × Nat) (j : Int) => 0 < p.2 ∧ j % (p.2 : Int) = (p.1 : Int)) ps ns) : ∀ {vs : List Value}, IntsAre vs ns → All2 InpR ps vs := by
  induction h with
  | nil => intro vs q; cases q; exact .nil
  | cons h _ ih => intro vs q; cases q with | cons _ t q => exact .cons ⟨_, t, rfl, h.1, h.2⟩ (ih q)
theorem fits_len {ps : List (Nat × Nat)} {ns : List Int} (h : Fits ps ns) : ps.length = ns.length := h.length

end
end Mine
-- part H1.lean
open PySem PySem.W PySem.W.X PySem.W.ZRun PyProof.Rows
set_option Elab.async false
set_option maxRecDepth 100000 in
set_option maxHeartbeats 0 in
theorem PySem.Challenge.cw_pg0119_01_holds : PySem.Challenge.rw_pg0119_01.Holds := by
  w_on; o_law; z_head; (case hw => w_witness2)
  k_fill
  intro w s₀ s₁ mg mb G y fa o pm cd doc dV kV ho hd hcd hD hmg hg args vals as L hpre hlay hrd hwl hlo
  z_open y L KX ZH ZN ZT
  refine Ground.open G ?_
  intro T B D TE TW
  wrow_args hpre hlay hrd hwl hlo
  obtain ⟨hat, hsz⟩ := script_at L
  have htk := script_toks L ZT
  rw [ZN] at hat hsz
  subst hat
  x_fa T KX hmg
  all_lens
  have tb := tab_of (x := "_law_lexer") (c := 83) (P := 79) T KX rfl rfl
  have S : Mine.StartOk s₁ 79 mg mb := ⟨T.g, T.b, T.nolimit, by decide, by decide, by decide, tb.2, hg⟩
  let c := Mine.cxOf PySem.Challenge.rw_pg0119_01.row.prog w s₁ 79 52 35 mg mb Mine.cloD Mine.posD S
  let K := Mine.dropAt 79 (PySem.Challenge.cw_pg0119_01_holds.heap_134 w.params)
  let ad : Mine.Ads := ⟨70, 77, 63, 91, 98, 103, 84, 42, 49, 28⟩
  have GL : Mine.Glob c K Mine.cloD ad := ⟨⟨_, mg_of (n := "_MAX_STRING_SIZE") KX T.g rfl⟩,
    ⟨_, mg_of (n := "_MOVE_COST") KX T.g rfl⟩,
    ⟨_, mg_of (n := "_CASE_COST") KX T.g rfl⟩,
    ⟨mg_none_of (n := "abs") KX T.g rfl, (T.builtins "abs" (by decide)).trans rfl⟩,
    ⟨mg_none_of (n := "iter") KX T.g rfl, (T.builtins "iter" (by decide)).trans rfl⟩,
    ⟨mg_none_of (n := "len") KX T.g rfl, (T.builtins "len" (by decide)).trans rfl⟩,
    ⟨mg_none_of (n := "list") KX T.g rfl, (T.builtins "list" (by decide)).trans rfl⟩,
    ⟨mg_none_of (n := "max") KX T.g rfl, (T.builtins "max" (by decide)).trans rfl⟩,
    ⟨mg_none_of (n := "min") KX T.g rfl, (T.builtins "min" (by decide)).trans rfl⟩,
    ⟨mg_none_of (n := "range") KX T.g rfl, (T.builtins "range" (by decide)).trans rfl⟩,
    ⟨mg_none_of (n := "sorted") KX T.g rfl, (T.builtins "sorted" (by decide)).trans rfl⟩,
    mg_of (n := "_substitution_cost") KX T.g rfl,
    mg_of (n := "_levenshtein_distance") KX T.g rfl,
    mg_of (n := "replace") KX T.g rfl,
    mg_of (n := "_law_street") KX T.g rfl,
    mg_of (n := "_law_onward") KX T.g rfl,
    mg_of (n := "law") KX T.g rfl,
    mg_of (n := "_law_lexer") KX T.g rfl,
    mg_of (n := "_netrclex") KX T.g rfl,
    ⟨Mine.drop_in KX, by kernel_rfl, by kernel_rfl, by kernel_rfl, by kernel_rfl, by kernel_rfl, by kernel_rfl, by kernel_rfl⟩,
    Mine.cloD_ok,
    rfl,
    ⟨⟨by kernel_rfl, by kernel_rfl⟩, by kernel_rfl, by kernel_rfl, by kernel_rfl, by kernel_rfl⟩,
    by kernel_rfl,
    by kernel_rfl,
    by kernel_rfl,
    by kernel_rfl,
    by kernel_rfl,
    ⟨by kernel_rfl, by kernel_rfl⟩,
    ⟨by kernel_rfl, by kernel_rfl⟩,
    ⟨by kernel_rfl, by kernel_rfl⟩,
    by kernel_rfl⟩
  have F1 : Mine.FnAt s₁.heap 79 70 Mine.C_substitution_cost Mine.B_substitution_cost _ := ⟨⟨_, kt_at ZH (a := 70) rfl, rfl⟩, by decide, ⟨69, _, _, _, rfl, kt_at ZH (a := 69) rfl, by decide, rfl, rfl⟩, rfl, rfl, rfl, rfl, rfl⟩
  have F2 : Mine.FnAt s₁.heap 79 77 Mine.C_levenshtein_distance Mine.B_levenshtein_distance _ := ⟨⟨_, kt_at ZH (a := 77) rfl, rfl⟩, by decide, ⟨76, _, _, _, rfl, kt_at ZH (a := 76) rfl, by decide, rfl, rfl⟩, rfl, rfl, rfl, rfl, rfl⟩
  have F3 : Mine.FnAt s₁.heap 79 63 Mine.Creplace Mine.Breplace _ := ⟨⟨_, kt_at ZH (a := 63) rfl, rfl⟩, by decide, ⟨62, _, _, _, rfl, kt_at ZH (a := 62) rfl, by decide, rfl, rfl⟩, rfl, rfl, rfl, rfl, rfl⟩
  have F4 : Mine.FnAt s₁.heap 79 28 Mine.C__init__ Mine.B__init__ _ := ⟨⟨_, kt_at ZH (a := 28) rfl, rfl⟩, by decide, ⟨27, _, _, _, rfl, kt_at ZH (a := 27) rfl, by decide, rfl, rfl⟩, rfl, rfl, rfl, rfl, rfl⟩
  have F5 : Mine.FnAt s₁.heap 79 35 Mine.C_read_char Mine.B_read_char _ := ⟨⟨_, kt_at ZH (a := 35) rfl, rfl⟩, by decide, ⟨34, _, _, _, rfl, kt_at ZH (a := 34) rfl, by decide, rfl, rfl⟩, rfl, rfl, rfl, rfl, rfl⟩
  have F6 : Mine.FnAt s₁.heap 79 42 Mine.Cget_token Mine.Bget_token _ := ⟨⟨_, kt_at ZH (a := 42) rfl, rfl⟩, by decide, ⟨41, _, _, _, rfl, kt_at ZH (a := 41) rfl, by decide, rfl, rfl⟩, rfl, rfl, rfl, rfl, rfl⟩
  have F7 : Mine.FnAt s₁.heap 79 49 Mine.Cpush_token Mine.Bpush_token _ := ⟨⟨_, kt_at ZH (a := 49) rfl, rfl⟩, by decide, ⟨48, _, _, _, rfl, kt_at ZH (a := 48) rfl, by decide, rfl, rfl⟩, rfl, rfl, rfl, rfl, rfl⟩
  have F8 : Mine.FnAt s₁.heap 79 84 Mine.C_law_lexer Mine.B_law_lexer _ := ⟨⟨_, kt_at ZH (a := 84) rfl, rfl⟩, by decide, ⟨83, _, _, _, rfl, kt_at ZH (a := 83) rfl, by decide, rfl, rfl⟩, rfl, rfl, rfl, rfl, rfl⟩
  have F9 : Mine.FnAt s₁.heap 79 91 Mine.C_law_street Mine.B_law_street _ := ⟨⟨_, kt_at ZH (a := 91) rfl, rfl⟩, by decide, ⟨90, _, _, _, rfl, kt_at ZH (a := 90) rfl, by decide, rfl, rfl⟩, rfl, rfl, rfl, rfl, rfl⟩
  have F10 : Mine.FnAt s₁.heap 79 98 Mine.C_law_onward Mine.B_law_onward _ := ⟨⟨_, kt_at ZH (a := 98) rfl, rfl⟩, by decide, ⟨97, _, _, _, rfl, kt_at ZH (a := 97) rfl, by decide, rfl, rfl⟩, rfl, rfl, rfl, rfl, rfl⟩
  have F11 : Mine.FnAt s₁.heap 79 103 Mine.Claw Mine.Blaw _ := ⟨⟨_, kt_at ZH (a := 103) rfl, rfl⟩, by decide, ⟨102, _, _, _, rfl, kt_at ZH (a := 102) rfl, by decide, rfl, rfl⟩, rfl, rfl, rfl, rfl, rfl⟩
  clear hd hcd hD ho y ZH
  have ht : s₁.heap.TableAt 83 79 #[] := by
    obtain ⟨o', vs', file, tf, flags, tg, inF, text, tt, e1, e2, e3, e4, _⟩ := tb.1
    exact ⟨⟨o', vs', e1, e2, e3, e4⟩, tb.2⟩
  rename_i hcond _ hL _ _ hI hlen
  obtain ⟨ps, hf, tr, to_, tl, el, eo, er, hr⟩ := (show ∀ {vs : List Value} {ns : List Int}, IntsAre vs ns → ∃ ps, Mine.Fits ps ns ∧ Mine.Ok ps from fun {_ ns} _ => Mine.law_runs ns) hI
  obtain ⟨m, H, hr⟩ := Mine.chk_ok hr
  have CH := Mine.chain1 (c := c) (K := K) (ad := ad) GL (ca := 83) (F1.ok S Mine.X_substitution_cost)
    (by intro xs hx; rcases xs with _ | ⟨a1, _ | ⟨a2, _ | ⟨_, _⟩⟩⟩; all_goals first | rfl | cases hx)
    (F2.ok S Mine.X_levenshtein_distance)
    (by intro xs hx; rcases xs with _ | ⟨a1, _ | ⟨a2, _ | ⟨a3, _ | ⟨_, _⟩⟩⟩⟩; all_goals first | rfl | cases hx)
    (F3.ok S Mine.Xreplace)
    (Mine.BindsV.of rfl rfl)
    (F4.ok S Mine.X__init__)
    (by intro xs hx; rcases xs with _ | ⟨a1, _ | ⟨a2, _ | ⟨_, _⟩⟩⟩; all_goals first | rfl | cases hx)
    (F5.ok S Mine.X_read_char)
    (by intro xs hx; rcases xs with _ | ⟨a1, _ | ⟨_, _⟩⟩; all_goals first | rfl | cases hx)
    (F6.ok S Mine.Xget_token)
    (by intro xs hx; rcases xs with _ | ⟨a1, _ | ⟨_, _⟩⟩; all_goals first | rfl | cases hx)
    (F7.ok S Mine.Xpush_token)
    (by intro xs hx; rcases xs with _ | ⟨a1, _ | ⟨a2, _ | ⟨_, _⟩⟩⟩; all_goals first | rfl | cases hx)
    (F8.ok S Mine.X_law_lexer)
    (by intro xs hx; rcases xs with _ | ⟨a1, _ | ⟨_, _⟩⟩; all_goals first | rfl | cases hx)
    (Mine.lexOk_of S rfl tb.1 T.bmain (mg_of (n := "__builtins__") KX T.g rfl) (by decide) (by decide) (by kernel_rfl) rfl rfl (fun _ => rfl) Mine.cloD_for)
    (F9.ok S Mine.X_law_street)
    (by intro xs hx; rcases xs with _ | ⟨a1, _ | ⟨_, _⟩⟩; all_goals first | rfl | cases hx)
    (F10.ok S Mine.X_law_onward)
    (by intro xs hx; rcases xs with _ | ⟨a1, _ | ⟨_, _⟩⟩; all_goals first | rfl | cases hx)
    (F11.ok S Mine.Xlaw)
    (by intro xs hx; rcases xs with _ | ⟨a1, _ | ⟨_, _⟩⟩; all_goals first | rfl | cases hx)
    el eo er
  clear F1 F2 F3 F4 F5 F6 F7 F8 F9 F10 F11
  have hz := Mine.fits_len hf
  exact Mine.law_good S ht CH (by decide) hL (by decide) (Mine.fits_inp hf hI) (by
    rw [hz]
    show _ ≤ 1000000
    omega) hr (fun _ => rfl) (by kernel_rfl)
