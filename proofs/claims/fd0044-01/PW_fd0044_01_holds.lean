import PyProof.Rows.All
import Wide.All
import OpenK.AllK
import Wide.FinOn
import PySem.Challenge.RW_fd0044_01
set_option Elab.async false
set_option linter.all false

section
open PySem PySem.W PyProof.Rows PySem.Calls
namespace Mine

theorem ltle {a b : Nat} (h : a < b) (h' : b ≤ a) : False := Nat.lt_irrefl _ (Nat.lt_of_lt_of_le h h')
/-- abstract values: no tokens, ids in the place of addresses -/
inductive AV where
  | none
  | bool (b : Bool)
  | int (i : Int)
  | str (x : Str)
  | obj (i : Nat)
  | raw (v : Value)

inductive AO where
  | inst (C : Addr) (fs : List (Str × AV))
  | list (xs : List AV)
  | args (xs : List AV)
  | range (n : Int)
  | cell (v : Option AV)

/-- where ids lie -/
structure Loc where
  n : Nat
  a : Nat → Addr
  d : Nat → Addr

structure St where
  H : Nat → Option AO
  n : Nat
  loc : List (Str × AV)

def VRel (ρ : Loc) : AV → Value → Prop
  | .none, v => v = .none
  | .bool b, v => v = .bool b
  | .int i, v => ∃ t, v = .int i t
  | .str x, v => ∃ t, v = .str x t
  | .obj i, v => i < ρ.n ∧ v = .ref (ρ.a i)
  | .raw r, v => v = r
def VRels (ρ : Loc) : List AV → List Value → Prop
  | [], [] => True
  | x :: xs, v :: vs => VRel ρ x v ∧ VRels ρ xs vs
  | _, _ => False
def OVRel (ρ : Loc) : Option AV → Option Value → Prop
  | none, none => True
  | some x, some v => VRel ρ x v
  | _, _ => False
def FRel (ρ : Loc) : List (Str × AV) → List DictEntry → Prop
  | [], [] => True
  | x :: xs, e :: es => (∃ t, e.key = .str x.1 t) ∧ VRel ρ x.2 e.val ∧ FRel ρ xs es
  | _, _ => False

def Ext (ρ ρ' : Loc) : Prop := ρ.n ≤ ρ'.n ∧ ∀ i, i < ρ.n → ρ'.a i = ρ.a i ∧ ρ'.d i = ρ.d i
theorem Ext.refl (ρ : Loc) : Ext ρ ρ := ⟨Nat.le_refl _, fun _ _ => ⟨rfl, rfl⟩⟩
theorem Ext.trans {ρ₁ ρ₂ ρ₃ : Loc} (x : Ext ρ₁ ρ₂) (y : Ext ρ₂ ρ₃) : Ext ρ₁ ρ₃ :=
  ⟨Nat.le_trans x.1 y.1, fun i h => by
    obtain ⟨a1, a2⟩ := x.2 i h
    obtain ⟨b1, b2⟩ := y.2 i (Nat.lt_of_lt_of_le h x.1)
    exact ⟨b1.trans a1, b2.trans a2⟩⟩

theorem VRel.ext {ρ ρ' : Loc} (h : Ext ρ ρ') : ∀ {x : AV} {v : Value}, VRel ρ x v → VRel ρ' x v
  | .none, _, q => q
  | .bool _, _, q => q
  | .int _, _, q => q
  | .str _, _, q => q
  | .obj i, _, q => ⟨Nat.lt_of_lt_of_le q.1 h.1, by rw [(h.2 i q.1).1]; exact q.2⟩
  | .raw _, _, q => q
theorem VRels.ext {ρ ρ' : Loc} (h : Ext ρ ρ') : ∀ {xs : List AV} {vs : List Value}, VRels ρ xs vs → VRels ρ' xs vs
  | [], [], _ => trivial
  | _ :: _, _ :: _, q => ⟨q.1.ext h, VRels.ext h q.2⟩
  | [], _ :: _, q => q.elim
  | _ :: _, [], q => q.elim
theorem OVRel.ext {ρ ρ' : Loc} (h : Ext ρ ρ') : ∀ {x : Option AV} {v : Option Value}, OVRel ρ x v → OVRel ρ' x v
  | none, none, _ => trivial
  | some _, some _, q => VRel.ext h q
  | none, some _, q => q.elim
  | some _, none, q => q.elim
theorem FRel.ext {ρ ρ' : Loc} (h : Ext ρ ρ') : ∀ {xs : List (Str × AV)} {es : List DictEntry}, FRel ρ xs es → FRel ρ' xs es
  | [], [], _ => trivial
  | _ :: _, _ :: _, q => ⟨q.1, q.2.1.ext h, FRel.ext h q.2.2⟩
  | [], _ :: _, q => q.elim
  | _ :: _, [], q => q.elim
theorem VRels.length {ρ : Loc} : ∀ {xs : List AV} {vs : List Value}, VRels ρ xs vs → vs.length = xs.length
  | [], [], _ => rfl
  | _ :: _, _ :: _, q => by rw [List.length_cons, List.length_cons, VRels.length q.2]
  | [], _ :: _, q => q.elim
  | _ :: _, [], q => q.elim
theorem FRel.length {ρ : Loc} : ∀ {xs : List (Str × AV)} {es : List DictEntry}, FRel ρ xs es → es.length = xs.length
  | [], [], _ => rfl
  | _ :: _, _ :: _, q => by rw [List.length_cons, List.length_cons, FRel.length q.2.2]
  | [], _ :: _, q => q.elim
  | _ :: _, [], q => q.elim
theorem VRels.append {ρ : Loc} : ∀ {xs ys : List AV} {vs us : List Value}, VRels ρ xs vs → VRels ρ ys us → VRels ρ (xs ++ ys) (vs ++ us)
  | [], _, [], _, _, q => q
  | _ :: _, _, _ :: _, _, p, q => ⟨p.1, VRels.append p.2 q⟩
  | [], _, _ :: _, _, p, _ => p.elim
  | _ :: _, _, [], _, p, _ => p.elim
theorem VRels.get {ρ : Loc} : ∀ {xs : List AV} {vs : List Value} {k : Nat} {x : AV}, VRels ρ xs vs → xs[k]? = some x → ∃ v, vs[k]? = some v ∧ VRel ρ x v
  | [], _, _, _, _, e => by simp at e
  | _ :: _, v :: _, 0, _, q, e => ⟨v, rfl, by cases e; exact q.1⟩
  | _ :: xs, _ :: vs, k + 1, x, q, e => by
    obtain ⟨v, hv, r⟩ := VRels.get (k := k) q.2 (by simpa using e)
    exact ⟨v, by simpa using hv, r⟩
  | _ :: _, [], _, _, q, _ => q.elim
theorem VRels.take {ρ : Loc} : ∀ {xs : List AV} {vs : List Value} (k : Nat), VRels ρ xs vs → VRels ρ (xs.take k) (vs.take k)
  | [], [], _, _ => by simp [VRels]
  | _ :: _, _ :: _, 0, _ => trivial
  | _ :: _, _ :: _, k + 1, q => ⟨q.1, VRels.take k q.2⟩
  | [], _ :: _, _, q => q.elim
  | _ :: _, [], _, q => q.elim
theorem VRels.drop {ρ : Loc} : ∀ {xs : List AV} {vs : List Value} (k : Nat), VRels ρ xs vs → VRels ρ (xs.drop k) (vs.drop k)
  | [], [], _, _ => by simp [VRels]
  | _ :: _, _ :: _, 0, q => q
  | _ :: _, _ :: _, k + 1, q => VRels.drop k q.2
  | [], _ :: _, _, q => q.elim
  | _ :: _, [], _, q => q.elim
theorem VRels.set {ρ : Loc} {y : AV} {u : Value} (r : VRel ρ y u) : ∀ {xs : List AV} {vs : List Value} (k : Nat), VRels ρ xs vs → VRels ρ (xs.set k y) (vs.set k u)
  | [], [], _, _ => by simp [VRels]
  | _ :: _, _ :: _, 0, q => ⟨r, q.2⟩
  | _ :: _, _ :: _, k + 1, q => ⟨q.1, VRels.set r k q.2⟩
  | [], _ :: _, _, q => q.elim
  | _ :: _, [], _, q => q.elim

def IsLs (h : Heap) (a : Addr) (vs : List Value) : Prop := ∃ o, h.get? a = some o ∧ ∃ n, o = { cls := .type "list", data := .seq vs.toArray n }
theorem IsLs.plain {h : Heap} {a : Addr} {vs : List Value} (x : IsLs h a vs) : h.PlainList a vs.toArray := by
  obtain ⟨o, ho, n, rfl⟩ := x
  exact ⟨n, ho⟩
theorem IsLs.of {h : Heap} {a : Addr} {vs : List Value} (x : h.PlainList a vs.toArray) : IsLs h a vs := x.elim fun n e => ⟨_, e, n, rfl⟩
theorem IsLs.isList {h : Heap} {a : Addr} {vs : List Value} (x : IsLs h a vs) : h.IsList a vs.toArray := x.plain.isList

def ORel (ρ : Loc) (h : Heap) (i : Nat) : AO → Prop
  | .inst C fs => h.get? (ρ.a i) = some (instObj C (ρ.d i)) ∧ ∃ es n, h.get? (ρ.d i) = some (dictOf es n) ∧ FRel ρ fs es
  | .list xs => ∃ vs : List Value, IsLs h (ρ.a i) vs ∧ VRels ρ xs vs
  | .args xs => ∃ vs : List Value, h.IsList (ρ.a i) vs.toArray ∧ VRels ρ xs vs
  | .range n => ∃ t u v, IsRange h (ρ.a i) 0 n 1 t u v
  | .cell x => ∃ v, h.IsCell (ρ.a i) v ∧ OVRel ρ x v

def NsRel (ρ : Loc) (h : Heap) (L : Addr) (loc : List (Str × AV)) : Prop :=
  ∃ m, h.Ns L m ∧ ∀ x v, loc.lookup x = some v → ∃ u, m x = some u ∧ VRel ρ v u

theorem ORel.keeps {ρ : Loc} {h h' : Heap} {i : Nat} (k : ∀ b o, h.get? b = some o → h'.get? b = some o) : ∀ {o : AO}, ORel ρ h i o → ORel ρ h' i o
  | .inst _ _, ⟨a, es, n, b, r⟩ => ⟨k _ _ a, es, n, k _ _ b, r⟩
  | .list _, ⟨vs, ⟨o, a, r⟩, q⟩ => ⟨vs, ⟨o, k _ _ a, r⟩, q⟩
  | .args _, ⟨vs, ⟨o, a, r⟩, q⟩ => ⟨vs, ⟨o, k _ _ a, r⟩, q⟩
  | .range _, ⟨t, u, v, a⟩ => ⟨t, u, v, k _ _ a⟩
  | .cell _, ⟨v, ⟨o, a, r⟩, q⟩ => ⟨v, ⟨o, k _ _ a, r⟩, q⟩
theorem NsRel.keeps {ρ : Loc} {h h' : Heap} {L : Addr} {loc : List (Str × AV)} (k : ∀ b o, h.get? b = some o → h'.get? b = some o) : NsRel ρ h L loc → NsRel ρ h' L loc
  | ⟨m, a, q⟩ => ⟨m, a.keeps k, q⟩
theorem ORel.ext {ρ ρ' : Loc} {h : Heap} {i : Nat} (e : Ext ρ ρ') (hi : i < ρ.n) : ∀ {o : AO}, ORel ρ h i o → ORel ρ' h i o
  | .inst _ _, ⟨a, es, n, b, r⟩ => ⟨by rw [(e.2 i hi).1, (e.2 i hi).2]; exact a, es, n, by rw [(e.2 i hi).2]; exact b, r.ext e⟩
  | .list _, ⟨vs, a, q⟩ => ⟨vs, by rw [(e.2 i hi).1]; exact a, q.ext e⟩
  | .args _, ⟨vs, a, q⟩ => ⟨vs, by rw [(e.2 i hi).1]; exact a, q.ext e⟩
  | .range _, ⟨t, u, v, a⟩ => ⟨t, u, v, by rw [(e.2 i hi).1]; exact a⟩
  | .cell _, ⟨v, a, q⟩ => ⟨v, by rw [(e.2 i hi).1]; exact a, q.ext e⟩
theorem NsRel.ext {ρ ρ' : Loc} {h : Heap} {L : Addr} {loc : List (Str × AV)} (e : Ext ρ ρ') : NsRel ρ h L loc → NsRel ρ' h L loc
  | ⟨m, a, q⟩ => ⟨m, a, fun x v hx => let ⟨u, hu, r⟩ := q x v hx; ⟨u, hu, r.ext e⟩⟩

/-- the thing at an id's own address is no dict -/
theorem ORel.ndict {ρ : Loc} {h : Heap} {i : Nat} : ∀ {o : AO}, ORel ρ h i o → ∃ ob, h.get? (ρ.a i) = some ob ∧ ∀ es n, ob.data ≠ .dict es n
  | .inst _ _, ⟨a, _⟩ => ⟨_, a, fun _ _ e => by cases e⟩
  | .list _, ⟨_, ⟨o, a, n, hd⟩, _⟩ => ⟨o, a, fun _ _ e => by rw [hd] at e; cases e⟩
  | .args _, ⟨_, ⟨o, a, _, n, hd⟩, _⟩ => ⟨o, a, fun _ _ e => by rw [hd] at e; cases e⟩
  | .range _, ⟨_, _, _, a⟩ => ⟨_, a, fun _ _ e => by cases e⟩
  | .cell _, ⟨_, ⟨o, a, hd⟩, _⟩ => ⟨o, a, fun _ _ e => by rw [hd] at e; cases e⟩
theorem NsRel.dict {ρ : Loc} {h : Heap} {L : Addr} {loc : List (Str × AV)} : NsRel ρ h L loc → ∃ ob es n, h.get? L = some ob ∧ ob.data = .dict es n
  | ⟨_, ⟨o, es, n, a, hd, _⟩, _⟩ => ⟨o, es, n, a, hd⟩
theorem NsRel.lt {ρ : Loc} {h : Heap} {L : Addr} {loc : List (Str × AV)} (x : NsRel ρ h L loc) : L < h.objs.size := let ⟨_, _, _, a, _⟩ := x.dict; Heap.lt_size a
theorem ORel.lt {ρ : Loc} {h : Heap} {i : Nat} {o : AO} (x : ORel ρ h i o) : ρ.a i < h.objs.size := let ⟨_, a, _⟩ := x.ndict; Heap.lt_size a

theorem ORel.but {ρ : Loc} {h h' : Heap} {i : Nat} {a : Addr} (hs : ∀ b, b ≠ a → h'.get? b = h.get? b) : ∀ {o : AO}, ρ.a i ≠ a → (∀ C F, o = .inst C F → ρ.d i ≠ a) → ORel ρ h i o → ORel ρ h' i o
  | .inst C F, h1, h2, ⟨x, es, n, b, r⟩ => ⟨(hs _ h1).trans x, es, n, (hs _ (h2 C F rfl)).trans b, r⟩
  | .list _, h1, _, ⟨vs, ⟨o, x, r⟩, q⟩ => ⟨vs, ⟨o, (hs _ h1).trans x, r⟩, q⟩
  | .args _, h1, _, ⟨vs, ⟨o, x, r⟩, q⟩ => ⟨vs, ⟨o, (hs _ h1).trans x, r⟩, q⟩
  | .range _, h1, _, ⟨t, u, v, x⟩ => ⟨t, u, v, (hs _ h1).trans x⟩
  | .cell _, h1, _, ⟨v, ⟨o, x, r⟩, q⟩ => ⟨v, ⟨o, (hs _ h1).trans x, r⟩, q⟩
theorem NsRel.but {ρ : Loc} {h h' : Heap} {L a : Addr} {loc : List (Str × AV)} (hs : ∀ b, b ≠ a → h'.get? b = h.get? b) (h1 : L ≠ a) : NsRel ρ h L loc → NsRel ρ h' L loc
  | ⟨m, ⟨o, es, n, x, r⟩, q⟩ => ⟨m, ⟨o, es, n, (hs _ h1).trans x, r⟩, q⟩

/-- what stands around a run -/
structure Cx where
  os : OsState
  base : Heap
  fs : List (Addr × List (Str × AV))
  ex : List (Addr × Obj)
  gn : List (Nat × GenState)
  L : Addr
def Cx.fas (c : Cx) : List Addr := c.L :: c.fs.map (·.1)

structure Rel (c : Cx) (ρ : Loc) (st : St) (s : Shared) : Prop where
  os : s.os = c.os
  keep : c.base.StaysIn s.heap
  n : ρ.n = st.n
  obj : ∀ i o, st.H i = some o → i < st.n ∧ ((∃ xs, o = .args xs) ∨ c.base.objs.size ≤ ρ.a i) ∧ ORel ρ s.heap i o
  loc : NsRel ρ s.heap c.L st.loc
  fr : ∀ p ∈ c.fs, NsRel ρ s.heap p.1 p.2
  up : ∀ L' ∈ c.fas, c.base.objs.size ≤ L'
  nd : c.fas.Nodup
  ia : ∀ i j oi oj, st.H i = some oi → st.H j = some oj → ρ.a i = ρ.a j → i = j
  dd : ∀ i C F, st.H i = some (.inst C F) → c.base.objs.size ≤ ρ.d i ∧ ρ.d i ∉ c.fas
  dj : ∀ i j C F C' F', st.H i = some (.inst C F) → st.H j = some (.inst C' F') → ρ.d i = ρ.d j → i = j
  ex : ∀ p ∈ c.ex, s.heap.get? p.1 = some p.2 ∧ (∃ vs, p.2.data = .fields vs) ∧ p.2.cls ≠ .type "range" ∧ c.base.objs.size ≤ p.1
  exn : (c.ex.map (·.1)).Nodup
  gn : ∀ p ∈ c.gn, s.gens[p.1]? = some p.2
  gnn : (c.gn.map (·.1)).Nodup
  bare : AllBare s.gens

section
variable {c : Cx} {ρ : Loc} {st : St} {s : Shared}

theorem Rel.toks (R : Rel c ρ st s) (tk : Nat) : Rel c ρ st { s with toks := tk } :=
  ⟨R.os, R.keep, R.n, R.obj, R.loc, R.fr, R.up, R.nd, R.ia, R.dd, R.dj, R.ex, R.exn, R.gn, R.gnn, R.bare⟩
theorem Rel.grow (R : Rel c ρ st s) {h' : Heap} (k : ∀ b o, s.heap.get? b = some o → h'.get? b = some o) : Rel c ρ st { s with heap := h' } :=
  ⟨R.os, fun b o e => k b o (R.keep b o e), R.n, fun i o e => let ⟨a, b, x⟩ := R.obj i o e; ⟨a, b, x.keeps k⟩, R.loc.keeps k, fun p hp => (R.fr p hp).keeps k, R.up, R.nd, R.ia, R.dd, R.dj,
    fun p hp => ⟨k _ _ (R.ex p hp).1, (R.ex p hp).2⟩, R.exn, R.gn, R.gnn, R.bare⟩
theorem Rel.push (R : Rel c ρ st s) (o : Obj) : Rel c ρ st { s with heap := s.heap.push o } := R.grow fun _ _ e => Heap.get?_push_of_some o e

theorem Rel.fas_dict (R : Rel c ρ st s) {L' : Addr} (hL : L' ∈ c.fas) : ∃ ob es n, s.heap.get? L' = some ob ∧ ob.data = .dict es n := by
  rcases List.mem_cons.mp hL with rfl | hL
  · exact R.loc.dict
  · obtain ⟨p, hp, rfl⟩ := List.mem_map.mp hL
    exact (R.fr p hp).dict
theorem Rel.a_not_fas (R : Rel c ρ st s) {i : Nat} {o : AO} (e : st.H i = some o) : ρ.a i ∉ c.fas := fun hm => by
  obtain ⟨ob, es, n, a, hd⟩ := R.fas_dict hm
  obtain ⟨ob', a', hn⟩ := (R.obj i o e).2.2.ndict
  rw [a] at a'; cases a'; exact hn _ _ hd
theorem Rel.a_ne_d (R : Rel c ρ st s) {i j : Nat} {o : AO} {C : Addr} {F : List (Str × AV)} (e : st.H i = some o) (e' : st.H j = some (.inst C F)) : ρ.a i ≠ ρ.d j := fun q => by
  obtain ⟨ob', a', hn⟩ := (R.obj i o e).2.2.ndict
  obtain ⟨_, es, n, b, _⟩ := (R.obj j _ e').2.2
  rw [q, b] at a'; cases a'; exact hn _ _ rfl
theorem Rel.ex_ne (R : Rel c ρ st s) {p : Addr × Obj} (hp : p ∈ c.ex) {b : Addr} {ob : Obj} (hb : s.heap.get? b = some ob) (hn : ∀ vs, ob.data ≠ .fields vs) : p.1 ≠ b := fun q => by
  obtain ⟨a, ⟨vs, hd⟩, _⟩ := R.ex p hp
  rw [q, hb] at a; cases a; exact hn _ hd
theorem Rel.base_ne (R : Rel c ρ st s) {a b : Addr} {o : Obj} (h : c.base.objs.size ≤ a) (e : c.base.get? b = some o) : b ≠ a := fun q => by
  have := Heap.lt_size e
  exact ltle (q ▸ this) h

/-- one address is changed: all that lies elsewhere stands -/
theorem Rel.other (R : Rel c ρ st s) {h' : Heap} {a : Addr} {oa : Obj} (hs : Heap.SameBut a s.heap h') (ha : c.base.objs.size ≤ a) (ho : s.heap.get? a = some oa) (hn : ∀ vs, oa.data ≠ .fields vs) :
    c.base.StaysIn h' ∧ (∀ p ∈ c.ex, h'.get? p.1 = some p.2 ∧ (∃ vs, p.2.data = .fields vs) ∧ p.2.cls ≠ .type "range" ∧ c.base.objs.size ≤ p.1) :=
  ⟨fun b o e => (hs.2 b (R.base_ne ha e)).trans (R.keep b o e), fun p hp => ⟨(hs.2 _ (R.ex_ne hp ho hn)).trans (R.ex p hp).1, (R.ex p hp).2⟩⟩

def setA (x : Str) (v : AV) : List (Str × AV) → List (Str × AV)
  | [] => [(x, v)]
  | p :: r => if p.1 = x then (x, v) :: r else p :: setA x v r
theorem lookup_setA (x : Str) (v : AV) : ∀ (l : List (Str × AV)) (y : Str), (setA x v l).lookup y = if y = x then some v else l.lookup y
  | [], y => by
    by_cases h : y = x
    · subst h; simp [setA, List.lookup]
    · have : (y == x) = false := by simpa using h
      simp [setA, List.lookup, h, this]
  | p :: r, y => by
    obtain ⟨z, u⟩ := p
    unfold setA
    by_cases hz : z = x
    · subst hz
      rw [if_pos rfl, List.lookup_cons, List.lookup_cons]
      by_cases h : y = z
      · subst h; simp
      · have : (y == z) = false := by simpa using h
        simp [this, h]
    · rw [if_neg hz, List.lookup_cons, List.lookup_cons, lookup_setA x v r y]
      by_cases h : y = z
      · subst h; simp [hz]
      · have : (y == z) = false := by simpa using h
        simp [this]

theorem Rel.setLoc (R : Rel c ρ st s) {h' : Heap} {m' : Str → Option Value} {loc' : List (Str × AV)} (hn : h'.Ns c.L m') (hs : Heap.SameBut c.L s.heap h')
    (hm : ∀ x v, loc'.lookup x = some v → ∃ u, m' x = some u ∧ VRel ρ v u) (tk : Nat) : Rel c ρ { st with loc := loc' } { s with heap := h', toks := tk } := by
  obtain ⟨ob, es, n, a, hd⟩ := R.loc.dict
  obtain ⟨k1, k2⟩ := R.other hs (R.up _ List.mem_cons_self) a (fun vs q => by rw [hd] at q; cases q)
  refine ⟨R.os, k1, R.n, fun i o e => ?_, ⟨m', hn, hm⟩, fun p hp => ?_, R.up, R.nd, R.ia, R.dd, R.dj, k2, R.exn, R.gn, R.gnn, R.bare⟩
  · obtain ⟨x, y, z⟩ := R.obj i o e
    exact ⟨x, y, z.but hs.2 (fun q => R.a_not_fas e (q ▸ List.mem_cons_self)) fun C F q q' => (R.dd i C F (q ▸ e)).2 (q' ▸ List.mem_cons_self)⟩
  · exact (R.fr p hp).but hs.2 fun q => (List.nodup_cons.mp R.nd).1 (q ▸ List.mem_map_of_mem hp)

def upd (H : Nat → Option AO) (i : Nat) (o : AO) : Nat → Option AO := fun j => if j = i then some o else H j
theorem upd_self (H : Nat → Option AO) (i : Nat) (o : AO) : upd H i o i = some o := if_pos rfl
theorem upd_ne (H : Nat → Option AO) {i j : Nat} (o : AO) (h : j ≠ i) : upd H i o j = H j := if_neg h

/-- a list or a cell is changed -/
theorem Rel.setObj (R : Rel c ρ st s) {h' : Heap} {i : Nat} {o o' : AO} {oa : Obj} (e : st.H i = some o) (hs : Heap.SameBut (ρ.a i) s.heap h') (ho : s.heap.get? (ρ.a i) = some oa) (hn : ∀ vs, oa.data ≠ .fields vs)
    (hi : ∀ C F, o ≠ .inst C F) (hi' : ∀ C F, o' ≠ .inst C F) (hg : ∀ xs, o ≠ .args xs) (hr : ORel ρ h' i o') : Rel c ρ { st with H := upd st.H i o' } { s with heap := h' } := by
  obtain ⟨x1, x2, x3⟩ := R.obj i o e
  have x2 : c.base.objs.size ≤ ρ.a i := x2.elim (fun ⟨xs, q⟩ => absurd q (hg xs)) id
  obtain ⟨k1, k2⟩ := R.other hs x2 ho hn
  have nfas : ∀ L' ∈ c.fas, L' ≠ ρ.a i := fun L' hL q => R.a_not_fas e (q ▸ hL)
  have old : ∀ j oj, upd st.H i o' j = some oj → ∃ oj', st.H j = some oj' := fun j oj q => by
    by_cases h : j = i
    · exact ⟨o, h ▸ e⟩
    · rw [upd_ne _ _ h] at q; exact ⟨oj, q⟩
  have inst : ∀ j C F, upd st.H i o' j = some (.inst C F) → st.H j = some (.inst C F) := fun j C F q => by
    by_cases h : j = i
    · rw [h, upd_self] at q; exact absurd (Option.some.inj q) (hi' C F)
    · rwa [upd_ne _ _ h] at q
  refine ⟨R.os, k1, R.n, fun j oj q => ?_, R.loc.but hs.2 (nfas _ List.mem_cons_self), fun p hp => (R.fr p hp).but hs.2 (nfas _ (List.mem_cons_of_mem _ (List.mem_map_of_mem hp))), R.up, R.nd, fun j k oj ok q1 q2 q3 => ?_,
    fun j C F q => R.dd j C F (inst j C F q), fun j k C F C' F' q1 q2 => R.dj j k C F C' F' (inst _ _ _ q1) (inst _ _ _ q2), k2, R.exn, R.gn, R.gnn, R.bare⟩
  · by_cases h : j = i
    · subst h
      have q : upd st.H j o' j = some oj := q
      rw [upd_self] at q
      cases q
      exact ⟨x1, .inr x2, hr⟩
    · have q : upd st.H i o' j = some oj := q
      rw [upd_ne _ _ h] at q
      obtain ⟨y1, y2, y3⟩ := R.obj j oj q
      exact ⟨y1, y2, y3.but hs.2 (fun z => h (R.ia _ _ _ _ q e z)) fun C F z => Ne.symm (R.a_ne_d e (z ▸ q))⟩
  · obtain ⟨_, q1⟩ := old _ _ q1
    obtain ⟨_, q2⟩ := old _ _ q2
    exact R.ia j k _ _ q1 q2 q3

/-- an object's dict is changed -/
theorem Rel.setFld (R : Rel c ρ st s) {h' : Heap} {i : Nat} {C : Addr} {F F' : List (Str × AV)} {es' : List DictEntry} {n' : Nat} (e : st.H i = some (.inst C F)) (hs : Heap.SameBut (ρ.d i) s.heap h')
    (hd : h'.get? (ρ.d i) = some (dictOf es' n')) (hr : FRel ρ F' es') : Rel c ρ { st with H := upd st.H i (.inst C F') } { s with heap := h' } := by
  obtain ⟨x1, x2, x3⟩ := R.obj i _ e
  obtain ⟨x3, es, n, x4, x5⟩ := x3
  obtain ⟨x6, x7⟩ := R.dd i C F e
  obtain ⟨k1, k2⟩ := R.other hs x6 x4 (fun vs q => by cases q)
  have nfas : ∀ L' ∈ c.fas, L' ≠ ρ.d i := fun L' hL q => x7 (q ▸ hL)
  have old : ∀ j oj, upd st.H i (.inst C F') j = some oj → ∃ oj', st.H j = some oj' := fun j oj q => by
    by_cases h : j = i
    · exact ⟨_, h ▸ e⟩
    · rw [upd_ne _ _ h] at q; exact ⟨oj, q⟩
  have inst : ∀ j C₁ F₁, upd st.H i (.inst C F') j = some (.inst C₁ F₁) → ∃ F₂, st.H j = some (.inst C₁ F₂) := fun j C₁ F₁ q => by
    by_cases h : j = i
    · rw [h, upd_self] at q; cases q; exact ⟨F, h ▸ e⟩
    · rw [upd_ne _ _ h] at q; exact ⟨_, q⟩
  refine ⟨R.os, k1, R.n, fun j oj q => ?_, R.loc.but hs.2 (nfas _ List.mem_cons_self), fun p hp => (R.fr p hp).but hs.2 (nfas _ (List.mem_cons_of_mem _ (List.mem_map_of_mem hp))), R.up, R.nd, fun j k oj ok q1 q2 q3 => ?_,
    fun j C₁ F₁ q => let ⟨_, q⟩ := inst _ _ _ q; R.dd j _ _ q, fun j k C₁ F₁ C₂ F₂ q1 q2 => let ⟨_, q1⟩ := inst _ _ _ q1; let ⟨_, q2⟩ := inst _ _ _ q2; R.dj j k _ _ _ _ q1 q2, k2, R.exn, R.gn, R.gnn, R.bare⟩
  · have q : upd st.H i (.inst C F') j = some oj := q
    by_cases h : j = i
    · subst h
      rw [upd_self] at q
      cases q
      exact ⟨x1, x2.imp (fun ⟨xs, q⟩ => (by cases q)) id, (hs.2 _ (R.a_ne_d e e)).trans x3, es', n', hd, hr⟩
    · rw [upd_ne _ _ h] at q
      obtain ⟨y1, y2, y3⟩ := R.obj j oj q
      exact ⟨y1, y2, y3.but hs.2 (R.a_ne_d q e) fun C₁ F₁ z z' => h (R.dj _ _ _ _ _ _ (z ▸ q) e z')⟩
  · obtain ⟨_, q1⟩ := old _ _ q1
    obtain ⟨_, q2⟩ := old _ _ q2
    exact R.ia j k _ _ q1 q2 q3

def Loc.add (ρ : Loc) (a d : Addr) : Loc := ⟨ρ.n + 1, fun i => if i = ρ.n then a else ρ.a i, fun i => if i = ρ.n then d else ρ.d i⟩
theorem Loc.add_ext (ρ : Loc) (a d : Addr) : Ext ρ (ρ.add a d) := ⟨Nat.le_succ _, fun i h => ⟨if_neg (Nat.ne_of_lt h), if_neg (Nat.ne_of_lt h)⟩⟩
theorem Loc.add_a (ρ : Loc) (a d : Addr) : (ρ.add a d).a ρ.n = a := if_pos rfl
theorem Loc.add_d (ρ : Loc) (a d : Addr) : (ρ.add a d).d ρ.n = d := if_pos rfl
def St.add (st : St) (o : AO) : St := { st with H := upd st.H st.n o, n := st.n + 1 }

theorem Rel.lt_base (R : Rel c ρ st s) : c.base.objs.size ≤ s.heap.objs.size := Nat.le_of_lt (Nat.lt_of_le_of_lt (R.up _ List.mem_cons_self) R.loc.lt)
theorem Rel.fas_lt (R : Rel c ρ st s) {L' : Addr} (h : L' ∈ c.fas) : L' < s.heap.objs.size := let ⟨_, _, _, a, _⟩ := R.fas_dict h; Heap.lt_size a

/-- a new id: its objects lie behind all that is told -/
theorem Rel.add (R : Rel c ρ st s) {h' : Heap} {o : AO} {a d : Addr} (k : ∀ b ob, s.heap.get? b = some ob → h'.get? b = some ob) (ha : s.heap.objs.size ≤ a) (hd : s.heap.objs.size ≤ d)
    (hr : ORel (ρ.add a d) h' ρ.n o) : Rel c (ρ.add a d) (st.add o) { s with heap := h' } := by
  have G := R.grow k
  have E := ρ.add_ext a d
  have hn := R.n
  have cases_ : ∀ i oi, (st.add o).H i = some oi → (i = st.n ∧ oi = o) ∨ (i ≠ st.n ∧ st.H i = some oi ∧ i < ρ.n) := fun i oi q => by
    have q : upd st.H st.n o i = some oi := q
    by_cases h : i = st.n
    · rw [h, upd_self] at q; exact .inl ⟨h, (Option.some.inj q).symm⟩
    · rw [upd_ne _ _ h] at q; exact .inr ⟨h, q, hn ▸ (R.obj i oi q).1⟩
  have ea : ∀ i, i < ρ.n → (ρ.add a d).a i = ρ.a i := fun i h => (E.2 i h).1
  have ed : ∀ i, i < ρ.n → (ρ.add a d).d i = ρ.d i := fun i h => (E.2 i h).2
  have na : (ρ.add a d).a st.n = a := hn ▸ ρ.add_a a d
  have ndd : (ρ.add a d).d st.n = d := hn ▸ ρ.add_d a d
  have alt : ∀ i oi, st.H i = some oi → ρ.a i < s.heap.objs.size := fun i oi q => (R.obj i oi q).2.2.lt
  have dlt : ∀ i C F, st.H i = some (.inst C F) → ρ.d i < s.heap.objs.size := fun i C F q => by
    obtain ⟨_, _, _, x, _⟩ := (R.obj i _ q).2.2
    exact Heap.lt_size x
  refine ⟨R.os, G.keep, (by show ρ.n + 1 = st.n + 1; rw [hn]), fun i oi q => ?_, G.loc.ext E, fun p hp => (G.fr p hp).ext E, R.up, R.nd, fun i j oi oj q1 q2 q3 => ?_, fun i C F q => ?_, fun i j C F C' F' q1 q2 q3 => ?_, G.ex, R.exn, R.gn, R.gnn, R.bare⟩
  · rcases cases_ i oi q with ⟨rfl, rfl⟩ | ⟨h, q, hi⟩
    · exact ⟨Nat.lt_succ_self _, .inr (by rw [na]; exact Nat.le_trans R.lt_base ha), hn ▸ hr⟩
    · obtain ⟨x, y, z⟩ := G.obj i oi q
      exact ⟨Nat.lt_succ_of_lt x, y.imp id (fun y => by rw [ea i hi]; exact y), z.ext E hi⟩
  · rcases cases_ i oi q1 with ⟨e1, _⟩ | ⟨_, p1, hi⟩ <;> rcases cases_ j oj q2 with ⟨e2, _⟩ | ⟨_, p2, hj⟩
    · rw [e1, e2]
    · rw [e1, na, ea j hj] at q3
      exact (ltle (q3 ▸ alt j _ p2) ha).elim
    · rw [e2, na, ea i hi] at q3
      exact (ltle (q3 ▸ alt i _ p1) ha).elim
    · rw [ea i hi, ea j hj] at q3
      exact R.ia i j _ _ p1 p2 q3
  · rcases cases_ i _ q with ⟨e1, _⟩ | ⟨_, p, hi⟩
    · rw [e1, ndd]
      exact ⟨Nat.le_trans R.lt_base hd, fun hm => ltle (R.fas_lt hm) hd⟩
    · rw [ed i hi]; exact R.dd i C F p
  · rcases cases_ i _ q1 with ⟨e1, _⟩ | ⟨_, p1, hi⟩ <;> rcases cases_ j _ q2 with ⟨e2, _⟩ | ⟨_, p2, hj⟩
    · rw [e1, e2]
    · rw [e1, ndd, ed j hj] at q3
      exact (ltle (q3 ▸ dlt j _ _ p2) hd).elim
    · rw [e2, ndd, ed i hi] at q3
      exact (ltle (q3 ▸ dlt i _ _ p1) hd).elim
    · rw [ed i hi, ed j hj] at q3
      exact R.dj i j _ _ _ _ p1 p2 q3

/-- a frame is entered -/
def Cx.enter (c : Cx) (loc : List (Str × AV)) (L' : Addr) : Cx := { c with fs := (c.L, loc) :: c.fs, L := L' }
theorem Rel.enter (R : Rel c ρ st s) {h' : Heap} {L' : Addr} {loc' : List (Str × AV)} (k : ∀ b ob, s.heap.get? b = some ob → h'.get? b = some ob) (hL : s.heap.objs.size ≤ L') (hn : NsRel ρ h' L' loc') :
    Rel (c.enter st.loc L') ρ { st with loc := loc' } { s with heap := h' } := by
  have G := R.grow k
  have fr : ∀ p ∈ (c.L, st.loc) :: c.fs, NsRel ρ h' p.1 p.2 := fun p hp => by
    rcases List.mem_cons.mp hp with rfl | hp
    · exact G.loc
    · exact G.fr p hp
  have hfas : (c.enter st.loc L').fas = L' :: c.fas := rfl
  refine ⟨R.os, G.keep, R.n, G.obj, hn, fr, fun L₂ hL₂ => ?_, ?_, R.ia, fun i C F q => ?_, R.dj, G.ex, R.exn, R.gn, R.gnn, R.bare⟩
  · rw [hfas] at hL₂
    rcases List.mem_cons.mp hL₂ with rfl | hL₂
    · exact Nat.le_trans R.lt_base hL
    · exact R.up _ hL₂
  · rw [hfas]
    exact List.nodup_cons.mpr ⟨fun hm => ltle (R.fas_lt hm) hL, R.nd⟩
  · refine ⟨(R.dd i C F q).1, ?_⟩
    rw [hfas]
    intro hm
    rcases List.mem_cons.mp hm with e | hm
    · obtain ⟨_, _, _, x, _⟩ := (R.obj i _ q).2.2
      exact ltle (e ▸ Heap.lt_size x) hL
    · exact (R.dd i C F q).2 hm
/-- and left -/
theorem Rel.leave {loc : List (Str × AV)} {L' : Addr} (R : Rel (c.enter loc L') ρ st s) : Rel c ρ { st with loc := loc } s := by
  have hfas : (c.enter loc L').fas = L' :: c.fas := rfl
  refine ⟨R.os, R.keep, R.n, R.obj, R.fr (c.L, loc) List.mem_cons_self, fun p hp => R.fr p (List.mem_cons_of_mem _ hp), fun L₂ h => R.up L₂ (by rw [hfas]; exact List.mem_cons_of_mem _ h), ?_, R.ia,
    fun i C F q => ⟨(R.dd i C F q).1, fun h => (R.dd i C F q).2 (by rw [hfas]; exact List.mem_cons_of_mem _ h)⟩, R.dj, R.ex, R.exn, R.gn, R.gnn, R.bare⟩
  have := R.nd
  rw [hfas] at this
  exact (List.nodup_cons.mp this).2

/-- frames are turned in their slots alone -/
theorem Rel.slots (R : Rel c ρ st s) {h' : Heap} (k : ∀ b o, s.heap.get? b = some o → b ∉ c.fas → h'.get? b = some o) (k' : ∀ b o, s.heap.get? b = some o → ∃ sl, h'.get? b = some { o with slots := sl }) :
    Rel c ρ st { s with heap := h' } := by
  have ns : ∀ L' loc, NsRel ρ s.heap L' loc → NsRel ρ h' L' loc := by
    rintro L' loc ⟨m, ⟨o, es, n, x, hd, r⟩, q⟩
    obtain ⟨sl, y⟩ := k' _ _ x
    exact ⟨m, ⟨_, es, n, y, hd, r⟩, q⟩
  refine ⟨R.os, fun b o e => k b o (R.keep b o e) (fun hm => ?_), R.n, fun i o e => ?_, ns _ _ R.loc, fun p hp => ns _ _ (R.fr p hp), R.up, R.nd, R.ia, R.dd, R.dj, fun p hp => ?_, R.exn, R.gn, R.gnn, R.bare⟩
  · exact ltle (Heap.lt_size e) (R.up _ hm)
  · obtain ⟨x, y, z⟩ := R.obj i o e
    refine ⟨x, y, ?_⟩
    have ha := R.a_not_fas e
    cases o with
    | inst C F =>
      obtain ⟨a, es, n, b, r⟩ := z
      exact ⟨k _ _ a ha, es, n, k _ _ b (R.dd i C F e).2, r⟩
    | list xs =>
      obtain ⟨vs, ⟨o, a, r⟩, q⟩ := z
      exact ⟨vs, ⟨o, k _ _ a ha, r⟩, q⟩
    | args xs =>
      obtain ⟨vs, ⟨o, a, r⟩, q⟩ := z
      exact ⟨vs, ⟨o, k _ _ a ha, r⟩, q⟩
    | range n =>
      obtain ⟨t, u, v, a⟩ := z
      exact ⟨t, u, v, k _ _ a ha⟩
    | cell v =>
      obtain ⟨v, ⟨o, a, r⟩, q⟩ := z
      exact ⟨v, ⟨o, k _ _ a ha, r⟩, q⟩
  · obtain ⟨a, ⟨vs, hd⟩, hd2⟩ := R.ex p hp
    refine ⟨k _ _ a fun hm => ?_, ⟨vs, hd⟩, hd2⟩
    obtain ⟨ob, es, n, a', hd'⟩ := R.fas_dict hm
    rw [a] at a'; cases a'
    rw [hd] at hd'; cases hd'

/-- an iterator stands beside all that is told -/
def Cx.hold (c : Cx) (a : Addr) (o : Obj) : Cx := { c with ex := (a, o) :: c.ex }
theorem Rel.addEx (R : Rel c ρ st s) {a : Addr} {o : Obj} (ho : s.heap.get? a = some o) (hd : ∃ vs, o.data = .fields vs) (hc : o.cls ≠ .type "range") (hb : c.base.objs.size ≤ a) (hn : ∀ p ∈ c.ex, p.1 ≠ a) : Rel (c.hold a o) ρ st s :=
  ⟨R.os, R.keep, R.n, R.obj, R.loc, R.fr, R.up, R.nd, R.ia, R.dd, R.dj, fun p hp => by
      rcases List.mem_cons.mp hp with rfl | hp
      · exact ⟨ho, hd, hc, hb⟩
      · exact R.ex p hp,
    List.nodup_cons.mpr ⟨fun hm => by obtain ⟨p, hp, e⟩ := List.mem_map.mp hm; exact hn p hp e, R.exn⟩, R.gn, R.gnn, R.bare⟩
theorem Rel.pushEx (R : Rel c ρ st s) {o : Obj} (hd : ∃ vs, o.data = .fields vs) (hc : o.cls ≠ .type "range") (hf : o.isFreed = false) : Rel (c.hold s.heap.objs.size o) ρ st { s with heap := s.heap.push o } :=
  (R.push o).addEx (Heap.get?_push_size _ hf) hd hc R.lt_base fun p hp e => by
    have := Heap.lt_size (R.ex p hp).1
    rw [e] at this
    exact Nat.lt_irrefl _ this
theorem Rel.exAt {a : Addr} {o : Obj} (R : Rel (c.hold a o) ρ st s) : s.heap.get? a = some o ∧ c.base.objs.size ≤ a ∧ ∀ p ∈ c.ex, p.1 ≠ a := by
  obtain ⟨x1, _, _, x4⟩ := R.ex (a, o) List.mem_cons_self
  refine ⟨x1, x4, fun p hp e => ?_⟩
  exact (List.nodup_cons.mp R.exn).1 (List.mem_map.mpr ⟨p, hp, e⟩)
/-- an iterator's own place counts no more -/
theorem Rel.dropEx {a : Addr} {o : Obj} (R : Rel (c.hold a o) ρ st s) {h' : Heap} (hs : Heap.ExtBut a s.heap h') : Rel c ρ st { s with heap := h' } := by
  obtain ⟨ho, ⟨vs, hd⟩, hc, hb⟩ := R.ex (a, o) List.mem_cons_self
  obtain ⟨_, _, hn⟩ := R.exAt
  have nfas : ∀ L' ∈ c.fas, L' ≠ a := fun L' hL q => by
    obtain ⟨ob, es, n, x, hx⟩ := R.fas_dict hL
    rw [q, ho] at x; cases x
    rw [hd] at hx; cases hx
  have nfa : ∀ i o', st.H i = some o' → ρ.a i ≠ a := fun i o' e q => by
    have z := (R.obj i o' e).2.2
    cases o' with
    | inst C F => have := z.1; rw [q, ho] at this; cases this; cases hd
    | list xs => obtain ⟨vs', ⟨o'', x, n, rfl⟩, _⟩ := z; rw [q, ho] at x; cases x; cases hd
    | args xs => obtain ⟨vs', ⟨o'', x, _, n, hx⟩, _⟩ := z; rw [q, ho] at x; cases x; rw [hd] at hx; cases hx
    | range n => obtain ⟨t, u, v, x⟩ := z; rw [q] at x; have x : s.heap.get? a = _ := x; rw [ho] at x; cases x; exact hc rfl
    | cell v => obtain ⟨v', ⟨o'', x, hx⟩, _⟩ := z; rw [q, ho] at x; cases x; rw [hd] at hx; cases hx
  have nfd : ∀ i C F, st.H i = some (.inst C F) → ρ.d i ≠ a := fun i C F e q => by
    obtain ⟨_, es, n, x, _⟩ := (R.obj i _ e).2.2
    rw [q, ho] at x; cases x; cases hd
  have ns : ∀ L' l, L' ≠ a → NsRel ρ s.heap L' l → NsRel ρ h' L' l := by
    rintro L' l hne ⟨m, ⟨o', es, n, x, r⟩, q⟩
    exact ⟨m, ⟨o', es, n, hs _ _ hne x, r⟩, q⟩
  refine ⟨R.os, fun b o' e => hs b o' (fun q => ltle (Heap.lt_size (q ▸ e)) hb) (R.keep b o' e), R.n, fun i o' e => ?_, ns _ _ (nfas _ List.mem_cons_self) R.loc,
    fun p hp => ns _ _ (nfas _ (List.mem_cons_of_mem _ (List.mem_map_of_mem hp))) (R.fr p hp), R.up, R.nd, R.ia, R.dd, R.dj, fun p hp => ?_, (List.nodup_cons.mp R.exn).2, R.gn, R.gnn, R.bare⟩
  · obtain ⟨x, y, z⟩ := R.obj i o' e
    refine ⟨x, y, ?_⟩
    have ha := nfa i o' e
    cases o' with
    | inst C F =>
      obtain ⟨a', es, n, b, r⟩ := z
      exact ⟨hs _ _ ha a', es, n, hs _ _ (nfd i C F e) b, r⟩
    | list xs => obtain ⟨vs, ⟨o, x, r⟩, q⟩ := z; exact ⟨vs, ⟨o, hs _ _ ha x, r⟩, q⟩
    | args xs => obtain ⟨vs, ⟨o, x, r⟩, q⟩ := z; exact ⟨vs, ⟨o, hs _ _ ha x, r⟩, q⟩
    | range n => obtain ⟨t, u, v, x⟩ := z; exact ⟨t, u, v, hs _ _ ha x⟩
    | cell v => obtain ⟨v, ⟨o, x, r⟩, q⟩ := z; exact ⟨v, ⟨o, hs _ _ ha x, r⟩, q⟩
  · obtain ⟨x1, x2⟩ := R.ex p (List.mem_cons_of_mem _ hp)
    exact ⟨hs _ _ (hn p hp) x1, x2⟩
/-- an iterator goes on -/
theorem Rel.turnEx {a : Addr} {o o' : Obj} (R : Rel (c.hold a o) ρ st s) {h' : Heap} (hs : Heap.SameBut a s.heap h') (ho : h'.get? a = some o') (hd : ∃ vs, o'.data = .fields vs) (hc : o'.cls ≠ .type "range") : Rel (c.hold a o') ρ st { s with heap := h' } :=
  (R.dropEx hs.extBut).addEx ho hd hc R.exAt.2.1 R.exAt.2.2
end
end Mine
end

section
open PySem PySem.W PyProof.Rows PySem.Calls
namespace Mine

structure Sc where
  scope : Scope
  cells : List (Str × Nat)
  dep : Nat
  un : Nat

structure Fn where
  names : List Str
  body : List Stmt
  scope : Scope

inductive AFl where
  | next
  | brk
  | ret (v : AV)

def glob (x : Str) : Option AV :=
  if x = "range" then some (.raw (.type "range")) else if x = "len" then some (.raw (.builtin "len")) else
  if x = "_law_alike" then some (.raw (.ref 247)) else if x = "CircularListType" then some (.raw (.ref 193)) else if x = "OutgoingRoute" then some (.raw (.ref 238)) else
  if x = "AttributeError" then some (.raw (.type "AttributeError")) else none

def meth (C : Addr) (x : Str) : Option Addr :=
  if C = 193 then
    (if x = "node_next" then some 141 else if x = "node_prev" then some 155 else if x = "node_set_next" then some 148 else if x = "node_set_prev" then some 162 else
     if x = "node_is_on_list" then some 169 else if x = "node_insert_after" then some 176 else if x = "node_insert_before" then some 183 else if x = "node_unlink" then some 190 else
     if x = "node_init" then some 134 else if x = "create" then some 120 else none)
  else if C = 101 then
    (if x = "remove" then some 84 else if x = "append" then some 63 else if x = "prepend" then some 70 else if x = "is_on_list" then some 56 else if x = "is_empty" then some 42 else
     if x = "pop_first" then some 91 else if x = "clear" then some 49 else none)
  else none

/-- a name is read -/
def rd (sc : Sc) (st : St) (x : Str) : Option AV :=
  if x = "__debug__" ∨ x = "__classdict__" then none else
  match sc.scope.names.lookup x with
  | some .local => st.loc.lookup x
  | some .cell | some .free => (match sc.cells.lookup x with
      | some i => (match st.H i with
          | some (.cell v) => v
          | _ => none)
      | none => none)
  | some .globalImplicit => glob x
  | _ => none
/-- a name is stored -/
def wr (sc : Sc) (st : St) (x : Str) (v : AV) : Option St :=
  match sc.scope.names.lookup x with
  | some .local => some { st with loc := setA x v st.loc }
  | some .cell => (match sc.cells.lookup x with
      | some i => (match st.H i with
          | some (.cell _) => some { st with H := upd st.H i (.cell (some v)) }
          | _ => none)
      | none => none)
  | _ => none
def wrs (sc : Sc) : St → List (Str × AV) → Option St
  | st, [] => some st
  | st, p :: r => (wr sc st p.1 p.2).bind fun st => wrs sc st r

def tame : AV → Bool
  | .raw _ => false
  | _ => true
def isInt : AV → Bool
  | .int _ => true
  | _ => false
def isBool : AV → Bool
  | .bool _ => true
  | _ => false
def intsOf : List AV → Option (List Int)
  | [] => some []
  | .int i :: r => (intsOf r).map (i :: ·)
  | _ => none
def boolsOf : List AV → Option (List Bool)
  | [] => some []
  | .bool b :: r => (boolsOf r).map (b :: ·)
  | _ => none

def bin (st : St) (op : Operator) (a b : AV) : Option (AV × St) :=
  match a, b with
  | .int x, .int y => (match op with
      | .Add => some (.int (x + y), st)
      | .Sub => some (.int (x - y), st)
      | .Mod => if 0 < y then some (.int (x % y), st) else none
      | .FloorDiv => if 0 < y ∧ y < 1000 then some (.int (x / y), st) else none
      | _ => none)
  | .obj i, .obj j => (match op, st.H i, st.H j with
      | .Add, some (.list xs), some (.list ys) => if xs.length + ys.length < 1000 then some (.obj st.n, st.add (.list (xs ++ ys))) else none
      | _, _, _ => none)
  | _, _ => none

/-- == -/
def eqv (st : St) (a b : AV) : Option Bool :=
  match a, b with
  | .int x, .int y => some (decide (x = y))
  | .bool x, .bool y => some (decide (x = y))
  | .none, .none => some true
  | .none, .int _ => some false
  | .int _, .none => some false
  | .obj i, .obj j => (match st.H i, st.H j with
      | some (.list xs), some (.list ys) => (match intsOf xs, intsOf ys with
          | some x, some y => if xs.length < 1000 ∧ ys.length < 1000 then some (decide (x = y)) else none
          | _, _ => (match boolsOf xs, boolsOf ys with
              | some x, some y => if xs.length < 1000 ∧ ys.length < 1000 then some (decide (x = y)) else none
              | _, _ => none))
      | _, _ => none)
  | _, _ => none
def isObj : Option AO → Bool
  | some (.inst _ _) => true
  | some (.list _) => true
  | _ => false
def namesOf : List Expr → Option (List Str)
  | [] => some []
  | .Name x _ :: r => (namesOf r).map (x :: ·)
  | _ => none
def scEnv (scope : Scope) : Env := { scope := scope, locals := 0, globals := 0, cells := [] }
/-- what a made object's __init__ gives back -/
def madeRes (i : Nat) : AV × St → Option (AV × St)
  | (.none, st) => some (.obj i, st)
  | _ => none
/-- what a slice may be taken of -/
def sliceable : Option AO → Option (List AV)
  | some (.list xs) => some xs
  | some (.args xs) => some xs
  | _ => none
/-- is -/
def same (st : St) (a b : AV) : Option Bool :=
  match a, b with
  | .none, .none => some true
  | .obj i, .obj j => if isObj (st.H i) = true ∧ isObj (st.H j) = true then some (decide (i = j)) else none
  | .none, .obj _ => some false
  | .obj _, .none => some false
  | _, _ => none
def cmp (st : St) (op : CmpOp) (a b : AV) : Option Bool :=
  match op with
  | .Is => same st a b
  | .IsNot => (same st a b).map not
  | .Eq => eqv st a b
  | .NotEq => (eqv st a b).map not
  | .Lt => (match a, b with | .int x, .int y => some (decide (x < y)) | _, _ => none)
  | .GtE => (match a, b with | .int x, .int y => some (decide (y ≤ x)) | _, _ => none)
  | .In => (match a, b with
      | .int x, .obj j => (match st.H j with
          | some (.list ys) => (match intsOf ys with
              | some y => if ys.length < 1000 then some (decide (x ∈ y)) else none
              | none => none)
          | _ => none)
      | _, _ => none)
  | _ => none

def truth : AV → Option Bool
  | .bool b => some b
  | .int i => some (decide (i ≠ 0))
  | .none => some false
  | _ => none

def isCall : Expr → Bool
  | .Call .. => true
  | _ => false
/-- a field of an object -/
def fieldOf (st : St) (i : Nat) (x : Str) : Option AV := match st.H i with
  | some (.inst _ F) => F.lookup x
  | _ => none

/-- an index into a list -/
def idx (xs : List AV) (k : Int) : Option AV := if 0 ≤ k then xs[k.toNat]? else if 0 ≤ k + xs.length then xs[(k + xs.length).toNat]? else none

def relabelS (scope outer : Scope) : Scope :=
  { scope with names := scope.names.map fun (n, k) => if (k == .free && outer.kind == .function && outer.names.lookup n == some .cell) then (n, .cell) else (n, k) }
/-- the cells that a block closes over -/
def closeOver (sc : Sc) : List (Str × NameKind) → Option (List (Str × Nat))
  | [] => some []
  | (x, k) :: r => (closeOver sc r).bind fun l => if k = .free then (sc.cells.lookup x).map fun i => (x, i) :: l else some l

def layCells (bs : List (Str × AV)) : List (Str × NameKind) → St → St × List (Str × Nat)
  | [], st => (st, [])
  | (x, k) :: r, st => if k = .cell then
      let (st', l) := layCells bs r (st.add (.cell (bs.lookup x)))
      (st', (x, st.n) :: l)
    else layCells bs r st

def hasCell (names : List (Str × NameKind)) : Bool := names.any fun p => decide (p.2 = .cell)

/-- a for loop over a list's object -/
def forL (body : St → AV → Option (AFl × St)) (i : Nat) : Nat → Nat → St → Option (AFl × St)
  | 0, _, _ => none
  | m + 1, k, st => match st.H i with
    | some (.list xs) => (match xs[k]? with
        | none => some (.next, st)
        | some v => (match body st v with
            | some (.next, st') => forL body i m (k + 1) st'
            | some (.brk, st') => some (.next, st')
            | some (.ret v, st') => some (.ret v, st')
            | none => none))
    | _ => none
/-- over range -/
def forR (body : St → AV → Option (AFl × St)) (n : Int) : Nat → Int → St → Option (AFl × St)
  | 0, _, _ => none
  | m + 1, k, st => if n ≤ k then some (.next, st) else match body st (.int k) with
    | some (.next, st') => forR body n m (k + 1) st'
    | some (.brk, st') => some (.next, st')
    | some (.ret v, st') => some (.ret v, st')
    | none => none
/-- over what a generator yields: its test, what it yields, the rest of its turn; gl: its own names -/
def forG (tstF : St → Option (Bool × St)) (evF : St → Option (AV × St)) (restF : St → Option (AFl × St)) (body : St → AV → Option (AFl × St)) : Nat → List (Str × AV) → St → Option (AFl × St)
  | 0, _, _ => none
  | m + 1, gl, st => (tstF { st with loc := gl }).bind fun (b, st₁) => if b then (evF st₁).bind fun (v, st₂) =>
      (match body { st₂ with loc := st.loc } v with
        | some (.next, st₃) => (restF { st₃ with loc := st₂.loc }).bind fun (fl, st₄) => (match fl with
            | .next => forG tstF evF restF body m st₄.loc { st₄ with loc := st₃.loc }
            | _ => none)
        | _ => none)
    else some (.next, { st₁ with loc := st.loc })

variable (T : Addr → Option Fn)

mutual
noncomputable def ev : Nat → Sc → St → Expr → Option (AV × St)
  | 0, _, _, _ => none
  | n + 1, sc, st, e => match e with
    | .Constant c _ _ => (match c with
        | .none => some (.none, st)
        | .bool b => some (.bool b, st)
        | .int i => some (.int i, st)
        | .str x => some (.str x, st)
        | _ => none)
    | .Name x _ => (rd sc st x).map fun v => (v, st)
    | .BinOp l op r _ => (ev n sc st l).bind fun (a, st) => (ev n sc st r).bind fun (b, st) => bin st op a b
    | .UnaryOp .USub x _ => (ev n sc st x).bind fun (a, st) => match a with
        | .int i => some (.int (-i), st)
        | _ => none
    | .UnaryOp .Not x _ => (ev n sc st x).bind fun (a, st) => (truth a).map fun b => (.bool !b, st)
    | .IfExp t b o _ => (tst n sc st t).bind fun (c, st) => if c then ev n sc st b else ev n sc st o
    | .Compare l [op] [r] _ => if behindInMarks op r = true then none else (ev n sc st l).bind fun (a, st) => (ev n sc st r).bind fun (b, st) => (cmp st op a b).map fun v => (.bool v, st)
    | .Attribute o x _ => if isCall o then none else (ev n sc st o).bind fun (a, st) => (match a with
        | .obj i => (match st.H i with
            | some (.inst C F) => if C = 238 ∧ x = "path" then (callF n sc.dep sc.un st 219 [a]).bind fun (v, st) => (if tame v = true then some (v, st) else none) else
                if C = 101 ∧ (x = "head" ∨ x = "list_type") ∨ C = 238 ∧ x = "_path" then (F.lookup x).bind fun v => (if tame v = true then some (v, st) else none) else none
            | _ => none)
        | _ => none)
    | .Subscript o s _ => (match s with
        | .Slice none (some u) none _ => (ev n sc st o).bind fun (a, st) => (ev n sc st u).bind fun (b, st) => (match a, b with
            | .obj i, .int k => (match sliceable (st.H i) with
                | some xs => if 0 ≤ k ∧ k < 1000 ∧ xs.length < 1000 then some (.obj st.n, st.add (.list (xs.take k.toNat))) else none
                | _ => none)
            | _, _ => none)
        | .Slice (some l) none none _ => (ev n sc st o).bind fun (a, st) => (ev n sc st l).bind fun (b, st) => (match a, b with
            | .obj i, .int k => (match sliceable (st.H i) with
                | some xs => if 0 ≤ k ∧ k < 1000 ∧ xs.length < 1000 then some (.obj st.n, st.add (.list (xs.drop k.toNat))) else none
                | _ => none)
            | _, _ => none)
        | .Slice _ _ _ _ => none
        | s => (ev n sc st o).bind fun (a, st) => (ev n sc st s).bind fun (b, st) => (match a, b with
            | .obj i, .int k => (match st.H i with
                | some (.list xs) => if -1000 < k ∧ k < 1000 ∧ xs.length < 1000 then (idx xs k).map fun v => (v, st) else none
                | _ => none)
            | _, _ => none))
    | .List es _ => (evs n sc st es).bind fun (vs, st) => if vs.length < 1000 then some (.obj st.n, st.add (.list vs)) else none
    | .Call (.Attribute o x apos) as [] pos => if isCall o = true ∨ as.length ≥ 20 ∨ apos.endLine ≠ pos.line then none else
        (match o, x == ("List" : Str) with
        | .Name c _, true => (rd sc st c).bind fun v => (match v with
            | .raw (.ref 193) => (evs n sc st as).bind fun (vs, st) => (match vs with
                | [a] => (callF n sc.dep sc.un (st.add (.inst 101 [])) 35 [.obj st.n, a]).bind (madeRes st.n)
                | _ => none)
            | _ => none)
        | _, _ => (ev n sc st o).bind fun (a, st) => (match a with
            | .obj i => (match st.H i with
                | some (.inst C F) => (match meth C x with
                    | some f => if (F.lookup x).isSome then none else (evs n sc st as).bind fun (vs, st) => callF n sc.dep sc.un st f (a :: vs)
                    | none => none)
                | some (.list xs) => if x = "append" then (evs n sc st as).bind fun (vs, st) => (match vs, st.H i with
                    | [v], some (.list xs) => if xs.length < 1000 then some (.none, { st with H := upd st.H i (.list (xs ++ [v])) }) else none
                    | _, _ => none) else none
                | _ => none)
            | _ => none))
    | .Call (.Name f _) as kws pos => (rd sc st f).bind fun fv => (match fv with
        | .raw (.type t) => if t = "range" ∧ kws = [] then (evs n sc st as).bind fun (vs, st) => (match vs with
            | [.int k] => if 0 ≤ k ∧ k < 1000 then some (.obj st.n, st.add (.range k)) else none
            | _ => none) else none
        | .raw (.builtin t) => if t = "len" ∧ kws = [] then (evs n sc st as).bind fun (vs, st) => (match vs with
            | [.obj i] => (match st.H i with
                | some (.list xs) => if xs.length < 1000 then some (.int xs.length, st) else none
                | _ => none)
            | _ => none) else none
        | .raw (.ref c) => if c = 247 ∧ kws = [] then (evs n sc st as).bind fun (vs, st) => callF n sc.dep sc.un st 247 vs
            else if c = 238 ∧ kws = [] then (evs n sc st as).bind fun (vs, st) => (match vs with
                | [a] => (callF n sc.dep sc.un (st.add (.inst 238 [])) 212 [.obj st.n, a, .bool false]).bind (madeRes st.n)
                | _ => none)
            else if c = 193 ∧ as = [] then (match kws with
                | [⟨some k1, v1, _⟩, ⟨some k2, v2, _⟩] => if k1 = "next_attr_name" ∧ k2 = "prev_attr_name" then
                    (ev n sc st v1).bind fun (a1, st) => (ev n sc st v2).bind fun (a2, st) =>
                      (callF n sc.dep sc.un (st.add (.inst 193 [])) 113 [.obj st.n, a1, a2]).bind (madeRes st.n) else none
                | _ => none)
            else none
        | _ => none)
    | .ListComp elt [⟨.Name x _, iter, ifs, 0⟩] scope _ =>
        if scope.kind = .function ∧ scope.names.lookup x = some .local ∧ hasCell scope.names = false ∧ (scope.names.all fun p => decide (p.2 = .local → scope.names.lookup p.1 = some .local)) = true then
        (ev n sc st iter).bind fun (src, st) => (closeOver sc scope.names).bind fun cl =>
          let acc := st.n
          let st₁ := st.add (.list [])
          let sc' : Sc := { scope := relabelS scope sc.scope, cells := cl, dep := sc.dep, un := sc.un }
          let body : St → AV → Option (AFl × St) := fun st v => (wr sc' st x v).bind fun st => (tsts n sc' st ifs).bind fun (ok, st) =>
            if ok then (ev n sc' st elt).bind fun (y, st) => (match st.H acc with
              | some (.list ys) => if ys.length < 1000 then some (.next, { st with H := upd st.H acc (.list (ys ++ [y])) }) else none
              | _ => none) else some (.next, st)
          (loop n sc' body src { st₁ with loc := [] }).bind fun (fl, st₂) => (match fl with
            | .next => some (.obj acc, { st₂ with loc := st.loc })
            | _ => none)
        else none
    | _ => none
noncomputable def evs : Nat → Sc → St → List Expr → Option (List AV × St)
  | 0, _, _, _ => none
  | n + 1, sc, st, es => match es with
    | [] => some ([], st)
    | e :: r => (ev n sc st e).bind fun (v, st) => (evs n sc st r).bind fun (vs, st) => some (v :: vs, st)
/-- a test -/
noncomputable def tst : Nat → Sc → St → Expr → Option (Bool × St)
  | 0, _, _, _ => none
  | n + 1, sc, st, e => match e with
    | .UnaryOp .Not x _ => (tst n sc st x).map fun (b, st) => (!b, st)
    | .BoolOp .Or [a, b] _ => (tst n sc st a).bind fun (x, st) => if x then some (true, st) else tst n sc st b
    | .BoolOp .And [a, b] _ => (tst n sc st a).bind fun (x, st) => if x then tst n sc st b else some (false, st)
    | .Compare l [op] [r] _ => if behindInMarks op r = true then none else (ev n sc st l).bind fun (a, st) => (ev n sc st r).bind fun (b, st) => (cmp st op a b).map fun v => (v, st)
    | .Name .. | .Attribute .. | .Call .. | .BinOp .. => (ev n sc st e).bind fun (a, st) => (truth a).map fun b => (b, st)
    | _ => none
noncomputable def tsts : Nat → Sc → St → List Expr → Option (Bool × St)
  | 0, _, _, _ => none
  | n + 1, sc, st, es => match es with
    | [] => some (true, st)
    | [e] => tst n sc st e
    | _ => none
/-- a for over what the source is -/
noncomputable def loop : Nat → Sc → (St → AV → Option (AFl × St)) → AV → St → Option (AFl × St)
  | 0, _, _, _, _ => none
  | n + 1, sc, body, src, st => match src with
    | .obj i => (match st.H i with
        | some (.list xs) => if xs.length < 1000 then forL body i (xs.length + 1) 0 st else none
        | some (.range k) => if 0 ≤ k ∧ k < 1000 then forR body k (k.toNat + 1) 0 st else none
        | some (.inst C Fs) => if C = 101 ∧ sc.dep < 800 ∧ sc.un < 9000 ∧ Fs.lookup ("generator" : Str) = none then (match T 98 with
            | some G => (match G.body, G.names with
                | [s1, s2, .While t (.Expr (.Yield (some e) _) _ :: rest) [] _], [self] =>
                  let gsc : Sc := { scope := G.scope, cells := [], dep := sc.dep + 6, un := sc.un + 60 }
                  (exs n gsc { st with loc := [(self, src)] } [s1, s2]).bind fun (fl, st₁) => (match fl with
                    | .next => forG (fun st => tst n gsc st t) (fun st => ev n gsc st e) (fun st => exs n gsc st rest) body 100 st₁.loc { st₁ with loc := st.loc }
                    | _ => none)
                | _, _ => none)
            | none => none) else none
        | _ => none)
    | _ => none
noncomputable def exs : Nat → Sc → St → List Stmt → Option (AFl × St)
  | 0, _, _, _ => none
  | n + 1, sc, st, ss => match ss with
    | [] => some (.next, st)
    | s :: r => (ex n sc st s).bind fun (fl, st) => (match fl with
        | .next => exs n sc st r
        | fl => some (fl, st))
noncomputable def ex : Nat → Sc → St → Stmt → Option (AFl × St)
  | 0, _, _, _ => none
  | n + 1, sc, st, s => match s with
    | .Pass _ => some (.next, st)
    | .Break _ => some (.brk, st)
    | .Return none _ => some (.ret .none, st)
    | .Return (some e) _ => (ev n sc st e).map fun (v, st) => (.ret v, st)
    | .Expr e _ => (match e with
        | .Call .. => (ev n sc st e).bind fun (v, st) => (match v with
            | .none => some (.next, st)
            | _ => none)
        | _ => none)
    | .Assert t none _ => (tst n sc st t).bind fun (b, st) => if b then some (.next, st) else none
    | .If t b o _ => (tst n sc st t).bind fun (c, st) => if c then exs n sc st b else exs n sc st o
    | .Assign [.Name x _] v _ => (ev n sc st v).bind fun (a, st) => (wr sc st x a).map fun st => (.next, st)
    | .Assign [.Attribute (.Name o _) x _] v _ => (ev n sc st v).bind fun (a, st) => (rd sc st o).bind fun ov => (match ov with
            | .obj i => (match st.H i with
                | some (.inst C F) => if (C = 101 ∨ C = 238) ∧ (x = "next_on_list" ∨ x = "prev_on_list" ∨ x = "list_type" ∨ x = "head" ∨ x = "sink" ∨ x = "_path" ∨ x = "_for_route_refresh") ∧ F.length < 100 then
                    some (.next, { st with H := upd st.H i (.inst C (setA x a F)) }) else none
                | _ => none)
            | _ => none)
    | .Assign [.Subscript (.Name o _) (.Name i _) _] v _ => (ev n sc st v).bind fun (a, st) => (rd sc st o).bind fun ov => (rd sc st i).bind fun iv => (match ov, iv with
            | .obj j, .int k => (match st.H j with
                | some (.list xs) => if 0 ≤ k ∧ k < xs.length ∧ xs.length < 1000 then some (.next, { st with H := upd st.H j (.list (xs.set k.toNat a)) }) else none
                | _ => none)
            | _, _ => none)
    | .Assign [.Tuple ts k tp] (.Tuple vs k2 vp) _ => (namesOf ts).bind fun xs => (W.pureOf (swappedStores [.Tuple ts k tp] (.Tuple vs k2 vp) (scEnv sc.scope))).bind fun sw =>
        if xs.Nodup ∧ xs.length = vs.length ∧ xs.length < 10 ∧ (sw = none ∨ sw = some xs ∧ (xs.all fun x => decide (sc.scope.names.lookup x = some .local)) = true) then
          (evs n sc st vs).bind fun (as, st) => (wrs sc st (xs.zip as)).map fun st => (.next, st) else none
    | .AugAssign (.Name x _) .Add v _ => (rd sc st x).bind fun a => (ev n sc st v).bind fun (b, st) => (match a, b with
        | .int i, .int j => (wr sc st x (.int (i + j))).map fun st => (.next, st)
        | _, _ => none)
    | .For (.Name x _) it b [] _ => (ev n sc st it).bind fun (src, st) =>
        loop n sc (fun st v => (wr sc st x v).bind fun st => exs n sc st b) src st
    | .Try [.Return (some (.Attribute (.Name x _) a _)) _] [.ExceptHandler (some (.Name y _)) none [.Return (some (.Constant .none _ _)) _] _] [] [] _ =>
        if a = "next_on_list" ∨ a = "prev_on_list" then (match rd sc st y with
          | some (.raw (.type t)) => if t = "AttributeError" then (rd sc st x).bind fun v => (match v with
            | .obj i => (match st.H i with
                | some (.inst C F) => if C = 101 ∨ C = 238 then (match F.lookup a with
                    | some u => if tame u = true then some (.ret u, st) else none
                    | none => some (.ret .none, st)) else none
                | _ => none)
            | _ => none) else none
          | _ => none) else none
    | _ => none
/-- a def of the text is called: all its parameters' values -/
noncomputable def callF : Nat → Nat → Nat → St → Addr → List AV → Option (AV × St)
  | 0, _, _, _, _, _ => none
  | n + 1, dep, un, st, f, args => match T f with
    | none => none
    | some F => if F.names.length = args.length ∧ F.names.Nodup ∧ dep < 800 ∧ un < 9000 ∧ f ≠ 98 then
        let bs := F.names.zip args
        let (st₁, cells) := layCells bs F.scope.names st
        (exs n { scope := F.scope, cells := cells, dep := dep + 3, un := un + 20 } { st₁ with loc := bs.filter fun p => F.scope.names.lookup p.1 == some .local } F.body).bind fun (fl, st₂) => (match fl with
          | .ret v => some (v, { st₂ with loc := st.loc })
          | .next => some (.none, { st₂ with loc := st.loc })
          | .brk => none)
      else none
end
end Mine
end

section
open PySem PySem.W PyProof.Rows PySem.Calls
namespace Mine

/-- a tree ends in the abstract state st', with a value as P says -/
def Gets (M : Model) (A : Around) (c : Cx) (ρ : Loc) (st' : St) {α : Type} (P : Loc → α → Prop) (t : Sem α) (s : Shared) : Prop :=
  ∀ (Q : α → Shared → Prop) (E : Value → Shared → Prop), (∀ ρ' s' u, Ext ρ ρ' → Rel c ρ' st' s' → P ρ' u → Q u s') → wpAny M A t Q E s

section
variable {α β : Type} {M : Model} {A : Around} {c : Cx} {ρ : Loc} {st st₁ st₂ : St} {s : Shared} {P : Loc → α → Prop} {P' : Loc → β → Prop}
theorem Gets.pure {a : α} (R : Rel c ρ st s) (p : P ρ a) : Gets M A c ρ st P (pure a) s := fun _ _ h => wpAny_pure (h _ _ _ (Ext.refl _) R p)
theorem Gets.bind {t : Sem α} {f : α → Sem β} (x : Gets M A c ρ st₁ P t s) (y : ∀ ρ' s' u, Ext ρ ρ' → Rel c ρ' st₁ s' → P ρ' u → Gets M A c ρ' st₂ P' (f u) s') : Gets M A c ρ st₂ P' (t >>= f) s :=
  fun _ _ h => wpAny_bind (x _ _ fun ρ' s' u e R p => y ρ' s' u e R p _ _ fun ρ'' s'' u' e' => h ρ'' s'' u' (e.trans e'))
theorem Gets.map {t : Sem α} {f : α → β} (x : Gets M A c ρ st₁ P t s) (y : ∀ ρ' u, Ext ρ ρ' → P ρ' u → P' ρ' (f u)) : Gets M A c ρ st₁ P' (f <$> t) s :=
  fun _ _ h => wpAny_map (x _ _ fun ρ' s' u e R p => h _ _ _ e R (y _ _ e p))
theorem Gets.mono {P₂ : Loc → α → Prop} {t : Sem α} (x : Gets M A c ρ st₁ P t s) (y : ∀ ρ' u, Ext ρ ρ' → P ρ' u → P₂ ρ' u) : Gets M A c ρ st₁ P₂ t s :=
  fun _ _ h => x _ _ fun ρ' s' u e R p => h _ _ _ e R (y _ _ e p)
theorem Gets.holding {vs : List Value} {t : Sem α} (x : Gets M A c ρ st₁ P t s) : Gets M A c ρ st₁ P (holding vs t) s := fun _ _ h => wpAny_holding (x _ _ h)
theorem Gets.standAt {pos : Pos} {f : Unit → Sem α} (x : Gets M A c ρ st₁ P (f ()) s) : Gets M A c ρ st₁ P (standAt pos >>= f) s := fun _ _ h => wpAny_bind (wpAny_standAt (x _ _ h))
theorem Gets.rule {tag : String} {f : Unit → Sem α} (x : Gets M A c ρ st₁ P (f ()) s) : Gets M A c ρ st₁ P (rule tag >>= f) s := fun _ _ h => wpAny_bind (wpAny_rule (x _ _ h))
theorem Gets.operate {vs : List Value} {t : Sem Value} {P : Loc → Value → Prop} (x : Gets M A c ρ st₁ P t s) : Gets M A c ρ st₁ P (operate vs t) s :=
  fun _ _ h Γ p hΓ => by rw [Sem.wp_operate]; exact x _ _ h Γ p hΓ
theorem wpAny_operate {vs : List Value} {t : Sem Value} {Q : Value → Shared → Prop} {E : Value → Shared → Prop} (x : wpAny M A t Q E s) : wpAny M A (PySem.operate vs t) Q E s :=
  fun Γ p hΓ => by rw [Sem.wp_operate]; exact x Γ p hΓ
theorem wpAny_release' {vs keep : List Value} {Q : Unit → Shared → Prop} {E : Value → Shared → Prop} (x : Q () s) : wpAny M A (release vs keep) Q E s := fun Γ p _ => by rw [Sem.wp_release]; exact x
/-- by a rule -/
theorem Gets.of {t : Sem α} (x : ∀ (Q : α → Shared → Prop) (E : Value → Shared → Prop), (∀ ρ' s' u, Ext ρ ρ' → Rel c ρ' st₁ s' → P ρ' u → Q u s') → wpAny M A t Q E s) : Gets M A c ρ st₁ P t s := x
end

/-- what stands in the ground -/
structure Gnd (K : Frag) (base : Heap) : Prop where
  inK : K.In base
  lim : base.NoLimit
  gl : ∃ mg mb, base.Ns mainGlobals mg ∧ base.Ns builtinsNs mb ∧ ∀ x v, glob x = some v → ∃ u, v = .raw u ∧ (mg x = some u ∨ mg x = none ∧ mb x = some u)

structure ARel (c : Cx) (dep un : Nat) (A : Around) : Prop where
  handled : A.handled = none
  depth : A.depth ≤ dep
  units : A.units ≤ un
  frames : ∃ fl, A.frames = some fl ∧ ∀ e ∈ fl, e.scope.kind ≠ .module ∧ ∃ L', e.frame = some L' ∧ L' ∈ c.fas

structure SRel (c : Cx) (sc : Sc) (ρ : Loc) (env : Env) : Prop where
  scope : env.scope = sc.scope
  kind : sc.scope.kind = .function
  L : env.locals = c.L
  glob : env.globals = mainGlobals
  bi : env.builtins = builtinsNs
  cells : ∀ x i, sc.cells.lookup x = some i → i < ρ.n ∧ env.cells.lookup x = some (ρ.a i)
theorem SRel.ext {c : Cx} {sc : Sc} {ρ ρ' : Loc} {env : Env} (S : SRel c sc ρ env) (e : Ext ρ ρ') : SRel c sc ρ' env :=
  ⟨S.scope, S.kind, S.L, S.glob, S.bi, fun x i h => let ⟨a, b⟩ := S.cells x i h; ⟨Nat.lt_of_lt_of_le a e.1, by rw [(e.2 i a).1]; exact b⟩⟩

section
variable {M : Model} {A : Around} {E : Value → Shared → Prop} {c : Cx} {ρ : Loc} {st st' : St} {s : Shared} {sc : Sc} {env : Env} {K : Frag}
theorem SRel.kf (S : SRel c sc ρ env) : env.scope.kind = .function := by rw [S.scope]; exact S.kind
theorem SRel.kindOf (S : SRel c sc ρ env) (x : Str) : env.kindOf x = sc.scope.names.lookup x := by unfold Env.kindOf; rw [S.scope]
theorem SRel.interactive (S : SRel c sc ρ env) : interactive env = false := by unfold PySem.interactive; rw [S.kf]; rfl

theorem Rel.ns_base (R : Rel c ρ st s) {a : Addr} {m : Str → Option Value} (h : c.base.Ns a m) : s.heap.Ns a m := h.keeps R.keep

theorem rd_sound (G : Gnd K c.base) (S : SRel c sc ρ env) (R : Rel c ρ st s) {x : Str} {v : AV} (h : rd sc st x = some v) :
    ∃ u, VRel ρ v u ∧ ∀ (Q : Value → Shared → Prop), Q u s → wpAny M A (loadName env x) Q E s := by
  unfold rd at h
  split at h
  · cases h
  rename_i hx
  have hcd : (x == ("__classdict__" : Str)) = false := by
    cases hb : x == ("__classdict__" : Str) with
    | false => rfl
    | true => exact absurd (.inr (eq_of_beq hb)) hx
  have hk := S.kf
  split at h
  · rename_i hl
    obtain ⟨m, hn, hm⟩ := R.loc
    obtain ⟨u, hu, r⟩ := hm _ _ h
    exact ⟨u, r, fun Q q => wpAny_loadName_local hk (by rw [S.kindOf]; exact hl) (by rw [S.L]; exact hn) hu q⟩
  · rename_i hl
    split at h
    · rename_i i hi
      obtain ⟨hin, hc⟩ := S.cells _ _ hi
      split at h
      · rename_i w hw
        subst h
        obtain ⟨_, _, v', hcell, ov⟩ := R.obj _ _ hw
        cases v' with
        | none => exact ov.elim
        | some u => exact ⟨u, ov, fun Q q => wpAny_loadName_cell hk (by rw [S.kindOf]; exact hl) hc hcell q⟩
      · cases h
    · cases h
  · rename_i hl
    split at h
    · rename_i i hi
      obtain ⟨hin, hc⟩ := S.cells _ _ hi
      split at h
      · rename_i w hw
        subst h
        obtain ⟨_, _, v', hcell, ov⟩ := R.obj _ _ hw
        cases v' with
        | none => exact ov.elim
        | some u => exact ⟨u, ov, fun Q q => wpAny_loadName_free hk (by rw [S.kindOf]; exact hl) hc hcell q hcd⟩
      · cases h
    · cases h
  · rename_i hl
    obtain ⟨mg, mb, hg, hb, hgl⟩ := G.gl
    obtain ⟨u, rfl, hu⟩ := hgl _ _ h
    refine ⟨u, rfl, fun Q q => ?_⟩
    unfold loadName
    simp only [Env.blockKind, hk, S.kindOf, hl, ScopeKind.isAnnotationScope, Bool.false_and, Bool.false_eq_true, if_false]
    have hg' : s.heap.Ns env.globals mg := by rw [S.glob]; exact R.ns_base hg
    have hb' : s.heap.Ns env.builtins mb := by rw [S.bi]; exact R.ns_base hb
    rcases hu with hu | ⟨hu, hu'⟩
    · exact loadGlobal_global hg' hu q
    · exact loadGlobal_builtin hg' hu hb' hu' q
  · cases h

theorem name_sound (G : Gnd K c.base) (S : SRel c sc ρ env) (R : Rel c ρ st s) {x : Str} {v : AV} {pos : Pos} (h : rd sc st x = some v) :
    ∃ u, VRel ρ v u ∧ ∀ (Q : Value → Shared → Prop), Q u s → wpAny M A (eval (.Name x pos) env) Q E s := by
  obtain ⟨u, r, k⟩ := rd_sound (M := M) (A := A) (E := E) G S R h
  refine ⟨u, r, fun Q q => wpAny_Name (k Q q) ?_⟩
  cases hb : x == ("__debug__" : Str) with
  | false => rfl
  | true =>
    unfold rd at h
    rw [if_pos (.inl (eq_of_beq hb))] at h
    cases h

theorem wr_sound (S : SRel c sc ρ env) (R : Rel c ρ st s) {x : Str} {v : AV} {u : Value} (r : VRel ρ v u) (h : wr sc st x v = some st') :
    Gets M A c ρ st' (fun _ _ => True) (storeName env x u) s := fun Q E q => by
  have hk := S.kf
  unfold wr at h
  split at h
  · rename_i hl
    cases h
    obtain ⟨m, hn, hm⟩ := R.loc
    refine wpAny_storeName_local (by rw [S.kindOf]; exact hl) (by rw [S.L]; exact hn) (fun h' hn' hs' => q ρ _ () (Ext.refl _) ?_ trivial) (by rw [hk]; rfl)
    rw [S.L] at hn' hs'
    refine R.setLoc hn' hs' (fun y w hy => ?_) _
    rw [lookup_setA] at hy
    by_cases e : y = x
    · rw [if_pos e] at hy; cases hy; exact ⟨u, if_pos e, r⟩
    · rw [if_neg e] at hy
      obtain ⟨u', hu', r'⟩ := hm _ _ hy
      exact ⟨u', by rw [if_neg e]; exact hu', r'⟩
  · rename_i hl
    split at h
    · rename_i i hi
      obtain ⟨hin, hc⟩ := S.cells _ _ hi
      split at h
      · rename_i w hw
        cases h
        obtain ⟨_, _, v', hcell, ov⟩ := R.obj _ _ hw
        obtain ⟨oc, hoc, hocd⟩ := hcell
        refine wpAny_storeName_cell hk (by rw [S.kindOf]; exact hl) hc ⟨oc, hoc, hocd⟩ fun h' hv' hs' => q ρ _ () (Ext.refl _) ?_ trivial
        exact R.setObj hw hs' hoc (fun vs e => by rw [hocd] at e; cases e) (fun _ _ e => by cases e) (fun _ _ e => by cases e) (fun _ e => by cases e) ⟨some u, hv', r⟩
      · cases h
    · cases h
  · cases h
end
end Mine
end

section
open PySem PySem.W PyProof.Rows PySem.Calls
set_option maxRecDepth 100000
namespace Mine

theorem intsOf_are {ρ : Loc} : ∀ {xs : List AV} {vs : List Value} {ns : List Int}, intsOf xs = some ns → VRels ρ xs vs → IntsAre vs ns
  | [], [], _, e, _ => by cases e; exact .nil
  | .int i :: xs, v :: vs, ns, e, q => by
    unfold intsOf at e
    obtain ⟨ms, hm, rfl⟩ := Option.map_eq_some_iff.mp e
    obtain ⟨⟨t, rfl⟩, q⟩ := q
    exact .cons _ _ (intsOf_are hm q)
  | .int _ :: _, [], _, _, q => q.elim
  | [], _ :: _, _, _, q => q.elim
  | .none :: _, _, _, e, _ => by cases e
  | .bool _ :: _, _, _, e, _ => by cases e
  | .str _ :: _, _, _, e, _ => by cases e
  | .obj _ :: _, _, _, e, _ => by cases e
  | .raw _ :: _, _, _, e, _ => by cases e
inductive BoolsAre : List Value → List Bool → Prop
  | nil : BoolsAre [] []
  | cons (b : Bool) {vs bs} : BoolsAre vs bs → BoolsAre (.bool b :: vs) (b :: bs)
theorem boolsOf_are {ρ : Loc} : ∀ {xs : List AV} {vs : List Value} {ns : List Bool}, boolsOf xs = some ns → VRels ρ xs vs → BoolsAre vs ns
  | [], [], _, e, _ => by cases e; exact .nil
  | .bool i :: xs, v :: vs, ns, e, q => by
    unfold boolsOf at e
    obtain ⟨ms, hm, rfl⟩ := Option.map_eq_some_iff.mp e
    obtain ⟨hv, q⟩ := q
    cases hv
    exact .cons _ (boolsOf_are hm q)
  | .bool _ :: _, [], _, _, q => q.elim
  | [], _ :: _, _, _, q => q.elim
  | .none :: _, _, _, e, _ => by cases e
  | .int _ :: _, _, _, e, _ => by cases e
  | .str _ :: _, _, _, e, _ => by cases e
  | .obj _ :: _, _, _, e, _ => by cases e
  | .raw _ :: _, _, _, e, _ => by cases e
open PyProof.V PySem.Spec PySem.SeqAt in
theorem readsAll_of_bools {h : Heap} : ∀ {vs : List Value} {ns : List Bool}, BoolsAre vs ns → ReadsAll h vs (ns.map PyData.bool) []
  | _, _, .nil => .nil
  | _, _, .cons k r => by
    have := ReadsAll.cons (Reads.bool (h := h) k) (readsAll_of_bools (h := h) r)
    simpa using this
open PyProof.V PySem.Spec PySem.SeqAt in
theorem reads_of_bools {h : Heap} {a : Addr} {vs : List Value} {ns : List Bool} (hl : h.IsList a vs.toArray) (hi : BoolsAre vs ns) : Reads h (.ref a) (.list (ns.map PyData.bool)) [a] := by
  obtain ⟨o, ho, hc, n, hd⟩ := hl
  exact Reads.list ho hc hd (by simpa using readsAll_of_bools hi)
theorem canLayAll0_bools : ∀ ns : List Bool, PyData.canLayAll0 (ns.map PyData.bool) = true
  | [] => by simp [PyData.canLayAll0]
  | n :: r => by simp [PyData.canLayAll0, PyData.canLay0, canLayAll0_bools r]
theorem depthAll_bools : ∀ ns : List Bool, PyData.depthAll (ns.map PyData.bool) ≤ 1
  | [] => by simp [PyData.depthAll]
  | n :: r => by
    have := depthAll_bools r
    simp only [List.map_cons, PyData.depthAll, PyData.depth]
    omega
open PyProof.V PySem.Spec PySem.SeqAt in
theorem shaped_bools (ns : List Bool) : shaped (.list (ns.map PyData.bool)) = true := by
  have h1 := depthAll_bools ns
  have h2 : PyData.depth (.list (ns.map PyData.bool)) ≤ 64 := by simp only [PyData.depth]; omega
  show (PyData.canLay0 (.list (ns.map PyData.bool)) && decide (PyData.depth (.list (ns.map PyData.bool)) ≤ 64)) = true
  rw [Bool.and_eq_true]
  exact ⟨by simp only [PyData.canLay0]; exact canLayAll0_bools ns, decide_eq_true h2⟩
open PyProof.V PySem.Spec PySem.SeqAt in
theorem noMix_bools : ∀ ns ms : List Bool, noMixAll (ns.map PyData.bool) (ms.map PyData.bool) = true
  | [], [] => by simp [noMixAll]
  | [], _ :: _ => by simp [noMixAll]
  | _ :: _, [] => by simp [noMixAll]
  | _ :: r, _ :: q => by simp [noMixAll, noMix, noMix_bools r q]
theorem same_bools : ∀ ns ms : List Bool, PySem.Spec.sameAll (ns.map PyData.bool) (ms.map PyData.bool) = decide (ns = ms)
  | [], [] => by simp [PySem.Spec.sameAll]
  | [], _ :: _ => by simp [PySem.Spec.sameAll]
  | _ :: _, [] => by simp [PySem.Spec.sameAll]
  | n :: r, k :: q => by
    simp only [List.map_cons, PySem.Spec.sameAll, PySem.Spec.same, same_bools r q]
    cases n <;> cases k <;> simp

section
variable {prog : Program} {w : World} {A : Around} {E : Value → Shared → Prop} {c : Cx} {ρ : Loc} {st st' : St} {s : Shared} {sc : Sc} {env : Env} {K : Frag}
open PyProof.V PySem.Spec PySem.SeqAt in
theorem eq_bools {a b : Addr} {vs us : List Value} {ns ms : List Bool} {Q : Value → Shared → Prop} (hl : s.heap.IsList a vs.toArray) (hi : BoolsAre vs ns) (hl' : s.heap.IsList b us.toArray) (hi' : BoolsAre us ms) (hu : A.units + 64 < cLine)
    (h : Q (.bool (decide (ns = ms))) s) : wpAny (model prog w) A (compareOp .Eq (.ref a) (.ref b)) Q E s :=
  eq_dataH_same (reads_of_bools hl hi) (reads_of_bools hl' hi') (shaped_bools ns) (shaped_bools ms) hu (by simp only [noMix]; exact noMix_bools ns ms) (by simp only [PySem.Spec.same]; rw [same_bools]; exact h)
open PyProof.V PySem.Spec PySem.SeqAt in
theorem ne_bools {a b : Addr} {vs us : List Value} {ns ms : List Bool} {Q : Value → Shared → Prop} (hl : s.heap.IsList a vs.toArray) (hi : BoolsAre vs ns) (hl' : s.heap.IsList b us.toArray) (hi' : BoolsAre us ms) (hu : A.units + 64 < cLine)
    (h : Q (.bool (!decide (ns = ms))) s) : wpAny (model prog w) A (compareOp .NotEq (.ref a) (.ref b)) Q E s :=
  ne_dataH_same (reads_of_bools hl hi) (reads_of_bools hl' hi') (shaped_bools ns) (shaped_bools ms) hu (by simp only [noMix]; exact noMix_bools ns ms) (by simp only [PySem.Spec.same]; rw [same_bools]; exact h)

theorem fits1000 {n : Nat} (h : n < 1000) : n ≤ sizeLine := Nat.le_trans (Nat.le_of_lt h) (by decide)

/-- a new list -/
theorem Rel.newList (R : Rel c ρ st s) {xs : List AV} {vs : List Value} (q : VRels ρ xs vs) :
    Ext ρ (ρ.add s.heap.objs.size s.heap.objs.size) ∧ Rel c (ρ.add s.heap.objs.size s.heap.objs.size) (st.add (.list xs)) { s with heap := s.heap.push { cls := .type "list", data := .seq vs.toArray } } ∧
      VRel (ρ.add s.heap.objs.size s.heap.objs.size) (.obj st.n) (.ref s.heap.objs.size) := by
  have E := ρ.add_ext s.heap.objs.size s.heap.objs.size
  refine ⟨E, R.add (fun b o e => Heap.get?_push_of_some _ e) (Nat.le_refl _) (Nat.le_refl _) ⟨vs, ?_, q.ext E⟩, ?_⟩
  · rw [Loc.add_a]; exact ⟨_, Heap.get?_push_size _ rfl, 0, rfl⟩
  · exact ⟨by rw [← R.n]; exact Nat.lt_succ_self _, by rw [← R.n, Loc.add_a]⟩

theorem add_two {l b : Addr} {vs ws : List Value} {Q : Value → Shared → Prop} (hl : s.heap.IsList l vs.toArray) (hb : s.heap.IsList b ws.toArray) (hsz : vs.length + ws.length ≤ sizeLine)
    (h : Q (.ref s.heap.objs.size) { s with heap := s.heap.push { cls := .type "list", data := .seq (vs ++ ws).toArray } }) : wpAny (model prog w) A (binaryOp .Add (.ref l) (.ref b)) Q E s := by
  obtain ⟨⟨c1, d1, x1, s1⟩, ho, hc, n, hd⟩ := id hl
  obtain ⟨⟨c2, d2, x2, s2⟩, ho2, hc2, n2, hd2⟩ := id hb
  simp only at hc hd hc2 hd2
  subst hc hd hc2 hd2
  refine concat_meets ⟨_, ho, rfl⟩ ⟨_, ho2, rfl⟩ noFill_list_add seq_list_add PySem.F.slot_list_add PySem.F.entry_list_add (PySem.F.args_list_add_2 _ _) (list_addW l b vs.toArray ws.toArray n n2 d1 d2 s1 s2 (by simpa using hsz)) ⟨ho, ho2, ?_⟩
  rw [show vs.toArray ++ ws.toArray = (vs ++ ws).toArray by simp]
  exact h

theorem bin_sound (R : Rel c ρ st s) {op : Operator} {a b v : AV} {ua ub : Value} (ra : VRel ρ a ua) (rb : VRel ρ b ub) (h : bin st op a b = some (v, st')) :
    Gets (model prog w) A c ρ st' (fun ρ' u => VRel ρ' v u) (binaryOp op ua ub) s := fun Q E k => by
  unfold bin at h
  split at h
  · rename_i x y
    obtain ⟨t, rfl⟩ := ra
    obtain ⟨t', rfl⟩ := rb
    split at h
    · cases h; exact add_int (k _ _ _ (Ext.refl _) (R.toks _) ⟨_, rfl⟩)
    · cases h; exact sub_int (k _ _ _ (Ext.refl _) (R.toks _) ⟨_, rfl⟩)
    · split at h
      · rename_i hy
        cases h
        exact mod_int (by omega) (k _ _ _ (Ext.refl _) (R.toks _) ⟨s.toks, by rw [Int.fmod_eq_emod_of_nonneg _ (by omega)]⟩)
      · cases h
    · split at h
      · rename_i hy
        cases h
        exact floordiv_int (by omega) (k _ _ _ (Ext.refl _) (R.toks _) ⟨s.toks, by rw [Int.fdiv_eq_ediv_of_nonneg _ (by omega)]⟩) (.inl (PyProof.noPylong_small (by omega)))
      · cases h
    · cases h
  · rename_i i j
    split at h
    · rename_i xs ys hi hj
      split at h
      · rename_i hlen
        cases h
        obtain ⟨hin, rfl⟩ := ra
        obtain ⟨hjn, rfl⟩ := rb
        obtain ⟨_, _, vs, hl, q⟩ := R.obj _ _ hi
        obtain ⟨_, _, us, hl', q'⟩ := R.obj _ _ hj
        have hl := hl.isList
        have hl' := hl'.isList
        obtain ⟨x1, x2, x3⟩ := R.newList (q.append q')
        refine add_two hl hl' ?_ (k _ _ _ x1 x2 x3)
        rw [q.length, q'.length]
        exact fits1000 hlen
      · cases h
    · cases h
  · cases h

theorem R_list {c : Cx} {ρ : Loc} {st : St} {s : Shared} (R : Rel c ρ st s) {i : Nat} {xs : List AV} (h : st.H i = some (.list xs)) : ∃ vs : List Value, s.heap.IsList (ρ.a i) vs.toArray ∧ VRels ρ xs vs := let ⟨vs, hl, q⟩ := (R.obj _ _ h).2.2; ⟨vs, hl.isList, q⟩

theorem eqv_sound (R : Rel c ρ st s) (hu : A.units + 64 < cLine) {a b : AV} {ua ub : Value} {r : Bool} (ra : VRel ρ a ua) (rb : VRel ρ b ub) (h : eqv st a b = some r) :
    (∀ Q : Value → Shared → Prop, Q (.bool r) s → wpAny (model prog w) A (compareOp .Eq ua ub) Q E s) ∧ (∀ Q : Value → Shared → Prop, Q (.bool (!r)) s → wpAny (model prog w) A (compareOp .NotEq ua ub) Q E s) := by
  unfold eqv at h
  split at h
  · rename_i x y
    obtain ⟨t, rfl⟩ := ra
    obtain ⟨t', rfl⟩ := rb
    cases h
    exact ⟨fun Q q => eq_int (by rw [show (x == y) = decide (x = y) from rfl]; exact q), fun Q q => ne_int (by rw [show (x != y) = !decide (x = y) from rfl]; exact q)⟩
  · rename_i x y
    cases ra; cases rb; cases h
    exact ⟨fun Q q => eq_bool (by cases x <;> cases y <;> exact q), fun Q q => ne_bool (by cases x <;> cases y <;> exact q)⟩
  · cases ra; cases rb; cases h
    exact ⟨fun Q q => PySem.EqNone.eq_none_none q, fun Q q => PySem.EqNone.ne_none_none q⟩
  · obtain ⟨t', rfl⟩ := rb
    cases ra; cases h
    exact ⟨fun Q q => PySem.EqNone.eq_none_int q, fun Q q => PySem.EqNone.ne_none_int q⟩
  · obtain ⟨t', rfl⟩ := ra
    cases rb; cases h
    exact ⟨fun Q q => PySem.EqNone.eq_int_none q, fun Q q => PySem.EqNone.ne_int_none q⟩
  · obtain ⟨hin, rfl⟩ := ra
    obtain ⟨hjn, rfl⟩ := rb
    split at h
    · rename_i xs ys hi hj
      obtain ⟨vs, hl, q⟩ := R_list R hi
      obtain ⟨us, hl', q'⟩ := R_list R hj
      split at h
      · rename_i x y hx hy
        split at h
        · cases h
          exact ⟨fun Q k => eq_intsK hl (intsOf_are hx q) hl' (intsOf_are hy q') hu k, fun Q k => ne_intsK hl (intsOf_are hx q) hl' (intsOf_are hy q') hu k⟩
        · cases h
      · split at h
        · rename_i x y hx hy
          split at h
          · cases h
            exact ⟨fun Q k => eq_bools hl (boolsOf_are hx q) hl' (boolsOf_are hy q') hu k, fun Q k => ne_bools hl (boolsOf_are hx q) hl' (boolsOf_are hy q') hu k⟩
          · cases h
        · cases h
    · cases h
  · cases h

theorem R_isObj (R : Rel c ρ st s) {i : Nat} (h : isObj (st.H i) = true) : ∃ o ob, st.H i = some o ∧ s.heap.get? (ρ.a i) = some ob ∧ ob.cls ≠ .type "tuple" := by
  cases hi : st.H i with
  | none => rw [hi] at h; cases h
  | some o =>
    cases o with
    | inst C F => exact ⟨_, _, rfl, (R.obj _ _ hi).2.2.1, by intro x; cases x⟩
    | list xs =>
      obtain ⟨vs, ⟨o, ho, e, n, _⟩, q⟩ := R_list R hi
      exact ⟨_, _, rfl, ho, by rw [e]; simp⟩
    | range _ => rw [hi] at h; cases h
    | args _ => rw [hi] at h; cases h
    | cell _ => rw [hi] at h; cases h

theorem same_sound {M : Model} (R : Rel c ρ st s) {a b : AV} {ua ub : Value} {r : Bool} (ra : VRel ρ a ua) (rb : VRel ρ b ub) (h : same st a b = some r) :
    (∀ Q : Value → Shared → Prop, Q (.bool r) s → wpAny M A (compareOp .Is ua ub) Q E s) ∧ (∀ Q : Value → Shared → Prop, Q (.bool (!r)) s → wpAny M A (compareOp .IsNot ua ub) Q E s) := by
  unfold same at h
  split at h
  · cases ra; cases rb; cases h
    exact ⟨fun Q q => wpAny_is_plain rfl q, fun Q q => wpAny_isNot_plain rfl q⟩
  · rename_i i j
    obtain ⟨hin, rfl⟩ := ra
    obtain ⟨hjn, rfl⟩ := rb
    split at h
    · rename_i hij
      cases h
      by_cases e : i = j
      · subst e
        simp only [decide_true]
        exact ⟨fun Q q => wpAny_is_ref_self q, fun Q q => wpAny_isNot_ref_self q⟩
      · obtain ⟨o1, ob1, h1, g1, n1⟩ := R_isObj R hij.1
        obtain ⟨o2, ob2, h2, g2, n2⟩ := R_isObj R hij.2
        have hne : ρ.a i ≠ ρ.a j := fun q => e (R.ia _ _ _ _ h1 h2 q)
        simp only [e, decide_false]
        exact ⟨fun Q q => wpAny_is_ref_other hne g1 g2 n1 q, fun Q q => wpAny_isNot_ref_other hne g1 g2 n1 q⟩
    · cases h
  · obtain ⟨hjn, rfl⟩ := rb
    cases ra; cases h
    exact ⟨fun Q q => wpAny_is_plain rfl q, fun Q q => wpAny_isNot_plain rfl q⟩
  · obtain ⟨hjn, rfl⟩ := ra
    cases rb; cases h
    exact ⟨fun Q q => wpAny_is_plain rfl q, fun Q q => wpAny_isNot_plain rfl q⟩
  · cases h

theorem cmp_sound (R : Rel c ρ st s) (hu : A.units + 64 < cLine) {op : CmpOp} {a b : AV} {ua ub : Value} {r : Bool} (ra : VRel ρ a ua) (rb : VRel ρ b ub) (h : cmp st op a b = some r)
    {Q : Value → Shared → Prop} (q : Q (.bool r) s) : wpAny (model prog w) A (compareOp op ua ub) Q E s := by
  unfold cmp at h
  split at h
  · exact (same_sound R ra rb h).1 Q q
  · obtain ⟨r', h', rfl⟩ := Option.map_eq_some_iff.mp h
    exact (same_sound R ra rb h').2 Q q
  · exact (eqv_sound R hu ra rb h).1 Q q
  · obtain ⟨r', h', rfl⟩ := Option.map_eq_some_iff.mp h
    exact (eqv_sound R hu ra rb h').2 Q q
  · split at h
    · obtain ⟨t, rfl⟩ := ra
      obtain ⟨t', rfl⟩ := rb
      cases h
      exact lt_int q
    · cases h
  · split at h
    · obtain ⟨t, rfl⟩ := ra
      obtain ⟨t', rfl⟩ := rb
      cases h
      exact ge_int q
    · cases h
  · split at h
    · rename_i x j
      split at h
      · rename_i ys hj
        split at h
        · rename_i y hy
          split at h
          · cases h
            obtain ⟨t, rfl⟩ := ra
            obtain ⟨hjn, rfl⟩ := rb
            obtain ⟨us, hl', q'⟩ := R_list R hj
            refine in_list_ints hl' (intsOf_are hy q') ?_
            have e : (y.any fun z => z == x) = decide (x ∈ y) := by
              rw [Bool.eq_iff_iff]
              simp
            rw [e]; exact q
          · cases h
        · cases h
      · cases h
    · cases h
  · cases h

theorem truth_sound {a : AV} {u : Value} {b : Bool} (ra : VRel ρ a u) (h : truth a = some b) {Q : Bool → Shared → Prop} (q : Q b s) : wpAny (model prog w) A (truthy u) Q E s := by
  unfold truth at h
  split at h
  · cases ra; cases h; exact wpAny_truthy_bool q
  · rename_i i
    obtain ⟨t, rfl⟩ := ra
    cases h
    refine truthy_int ?_
    have e : (i != 0) = decide (i ≠ 0) := by by_cases h : i = 0 <;> simp [h]
    rw [e]; exact q
  · cases ra; cases h; exact fun _ _ _ => q
  · cases h
end
end Mine
end

section
open PySem PySem.W PyProof.Rows PySem.Calls
set_option maxRecDepth 100000
namespace Mine

structure Ctxt (K : Frag) (c : Cx) (sc : Sc) (A : Around) : Prop where
  G : Gnd K c.base
  A : ARel c sc.dep sc.un A
  dep : sc.dep ≤ 900
  un : sc.un ≤ 9400
theorem Ctxt.u64 {K : Frag} {c : Cx} {sc : Sc} {A : Around} (X : Ctxt K c sc A) : A.units + 64 < cLine := by
  have h1 := X.A.units
  have h2 := X.un
  have : cLine = 9900 := rfl
  omega

/-- the frame stands on top -/
def Top (A : Around) (env : Env) : Prop := (∃ outer, A.frames = some (env :: outer)) ∧ env.frame = some env.locals
inductive FlRel (ρ : Loc) : AFl → Flow → Prop
  | next : FlRel ρ .next .next
  | brk : FlRel ρ .brk .brk
  | ret {v u} : VRel ρ v u → FlRel ρ (.ret v) (.ret u)

section
variable (prog : Program) (w : World) (K : Frag) (T : Addr → Option Fn)
def EvS (n : Nat) : Prop := ∀ {c A ρ st s sc env e v st'}, Ctxt K c sc A → SRel c sc ρ env → Rel c ρ st s → ev T n sc st e = some (v, st') →
  Gets (model prog w) A c ρ st' (fun ρ' u => VRel ρ' v u) (eval e env) s
def EvsS (n : Nat) : Prop := ∀ {c A ρ st s sc env es vs st' pos}, Ctxt K c sc A → SRel c sc ρ env → Rel c ρ st s → evs T n sc st es = some (vs, st') →
  Gets (model prog w) A c ρ st' (fun ρ' us => VRels ρ' vs us) (spliced (backTo pos (starEach es env))) s
def TstS (n : Nat) : Prop := ∀ {c A ρ st s sc env e b st'}, Ctxt K c sc A → SRel c sc ρ env → Rel c ρ st s → tst T n sc st e = some (b, st') →
  Gets (model prog w) A c ρ st' (fun _ u => u = b) (isTrue e env (eval e env)) s
def ExS (n : Nat) : Prop := ∀ {c A ρ st s sc env x fl st'}, Top A env → Ctxt K c sc A → SRel c sc ρ env → Rel c ρ st s → ex T n sc st x = some (fl, st') →
  Gets (model prog w) A c ρ st' (fun ρ' u => FlRel ρ' fl u) (exec x env) s
def ExsS (n : Nat) : Prop := ∀ {c A ρ st s sc env xs fl st'}, Top A env → Ctxt K c sc A → SRel c sc ρ env → Rel c ρ st s → exs T n sc st xs = some (fl, st') →
  Gets (model prog w) A c ρ st' (fun ρ' u => FlRel ρ' fl u) (execs xs env) s
end

section
variable {prog : Program} {w : World} {A : Around} {E : Value → Shared → Prop} {c : Cx} {ρ : Loc} {st st₁ st' : St} {s : Shared} {sc : Sc} {env : Env} {K : Frag} {T : Addr → Option Fn} {n : Nat}

theorem Gets.letGo {base : Expr} {o r : Value} {P : Loc → Value → Prop} (x : Gets (model prog w) A c ρ st P (Pure.pure r) s) : Gets (model prog w) A c ρ st P (do letTemporaryGo base o r; Pure.pure r) s :=
  fun Q E h => wpAny_bind (wpAny_letTemporaryGo (x Q E h))

/-- two values, left first -/
theorem two {α : Type} {l r : Expr} {a b : AV} {f : Value → Value → Sem α} {P : Loc → α → Prop} {pos : Pos} {st₂ st₃ : St} (ih : EvS prog w K T n) (X : Ctxt K c sc A) (S : SRel c sc ρ env) (R : Rel c ρ st s)
    (hl : ev T n sc st l = some (a, st₁)) (hr : ev T n sc st₁ r = some (b, st₂))
    (h : ∀ ρ' s' ua ub, Ext ρ ρ' → Rel c ρ' st₂ s' → VRel ρ' a ua → VRel ρ' b ub → Gets (model prog w) A c ρ' st₃ P (f ua ub) s') :
    Gets (model prog w) A c ρ st₃ P (do let x ← eval l env; let y ← holding [x] (eval r env); standAt pos; f x y) s :=
  (ih X S R hl).bind fun ρ₁ s₁ ua e₁ R₁ ra => (ih X (S.ext e₁) R₁ hr).holding.bind fun ρ₂ s₂ ub e₂ R₂ rb => (h ρ₂ s₂ ua ub (e₁.trans e₂) R₂ (ra.ext e₂) rb).standAt

theorem ev_Constant_sound {cc : Const} {k : Nat} {pos : Pos} {v : AV} (R : Rel c ρ st s) (h : ev T (n + 1) sc st (.Constant cc k pos) = some (v, st')) :
    Gets (model prog w) A c ρ st' (fun ρ' u => VRel ρ' v u) (eval (.Constant cc k pos) env) s := by
  cases cc <;> simp only [ev] at h <;> cases h
  · exact .pure R rfl
  · exact .pure R rfl
  · exact fun Q E k => wpAny_Constant_int (k _ _ _ (Ext.refl _) (R.toks _) ⟨_, rfl⟩)
  · exact fun Q E k => wpAny_Constant_str (k _ _ _ (Ext.refl _) (R.toks _) ⟨_, rfl⟩)

theorem bind_some {α β : Type} {x : Option α} {f : α → Option β} {b : β} (h : x.bind f = some b) : ∃ a, x = some a ∧ f a = some b := Option.bind_eq_some_iff.mp h
theorem map_some {α β : Type} {x : Option α} {f : α → β} {b : β} (h : x.map f = some b) : ∃ a, x = some a ∧ f a = b := Option.map_eq_some_iff.mp h

theorem ev_BinOp_sound {l r : Expr} {op : Operator} {pos : Pos} {v : AV} (ih : EvS prog w K T n) (X : Ctxt K c sc A) (S : SRel c sc ρ env) (R : Rel c ρ st s) (h : ev T (n + 1) sc st (.BinOp l op r pos) = some (v, st')) :
    Gets (model prog w) A c ρ st' (fun ρ' u => VRel ρ' v u) (eval (.BinOp l op r pos) env) s := by
  simp only [ev] at h
  obtain ⟨⟨a, st₁⟩, h1, h⟩ := bind_some h
  obtain ⟨⟨b, st₂⟩, h2, h⟩ := bind_some h
  rw [arm_eval_BinOp]
  exact two ih X S R h1 h2 fun ρ' s' ua ub e R' ra rb => (bin_sound R' ra rb h).operate

theorem ev_UnaryOp_sound {x : Expr} {op : UnaryOp} {pos : Pos} {v : AV} (ih : EvS prog w K T n) (X : Ctxt K c sc A) (S : SRel c sc ρ env) (R : Rel c ρ st s) (h : ev T (n + 1) sc st (.UnaryOp op x pos) = some (v, st')) :
    Gets (model prog w) A c ρ st' (fun ρ' u => VRel ρ' v u) (eval (.UnaryOp op x pos) env) s := by
  cases op <;> simp only [ev] at h
  case Not =>
    obtain ⟨⟨a, st₁⟩, h1, h⟩ := bind_some h
    obtain ⟨b, h2, h⟩ := map_some h
    cases h
    intro Q E k
    exact wpAny_UnaryOp (ih X S R h1 _ _ fun ρ' s' u e R' r => not_value (truth_sound r h2 (k _ _ _ e R' rfl)))
  case USub =>
    obtain ⟨⟨a, st₁⟩, h1, h⟩ := bind_some h
    dsimp only at h
    split at h
    · cases h
      intro Q E k
      exact wpAny_UnaryOp (ih X S R h1 _ _ fun ρ' s' u e R' r => by obtain ⟨t, rfl⟩ := r; exact neg_int (k _ _ _ e (R'.toks _) ⟨_, rfl⟩))
    · cases h
  all_goals cases h

theorem ev_IfExp_sound {t b o : Expr} {pos : Pos} {v : AV} (ih : EvS prog w K T n) (it : TstS prog w K T n) (X : Ctxt K c sc A) (S : SRel c sc ρ env) (R : Rel c ρ st s) (h : ev T (n + 1) sc st (.IfExp t b o pos) = some (v, st')) :
    Gets (model prog w) A c ρ st' (fun ρ' u => VRel ρ' v u) (eval (.IfExp t b o pos) env) s := by
  simp only [ev] at h
  obtain ⟨⟨q, st₁⟩, h1, h⟩ := bind_some h
  dsimp only at h
  rw [arm_eval_IfExp]
  refine (it X S R h1).bind fun ρ' s' u e R' r => ?_
  subst r
  cases u
  · exact ih X (S.ext e) R' h
  · exact ih X (S.ext e) R' h

theorem cmp_two {l r : Expr} {op : CmpOp} {pos : Pos} {a b : AV} {q : Bool} {st₂ : St} (ih : EvS prog w K T n) (X : Ctxt K c sc A) (S : SRel c sc ρ env) (R : Rel c ρ st s) (hm : behindInMarks op r = false)
    (h1 : ev T n sc st l = some (a, st₁)) (h2 : ev T n sc st₁ r = some (b, st₂)) (h : cmp st₂ op a b = some q) :
    Gets (model prog w) A c ρ st₂ (fun ρ' u => u = .bool q) (eval (.Compare l [op] [r] pos) env) s := fun Q E k =>
  wpAny_Compare1 (ih X S R h1 _ _ fun ρ₁ s₁ ua e₁ R₁ ra => ih X (S.ext e₁) R₁ h2 _ _ fun ρ₂ s₂ ub e₂ R₂ rb => cmp_sound R₂ X.u64 (ra.ext e₂) rb h (k _ _ _ (e₁.trans e₂) R₂ rfl)) hm

theorem ev_Compare_sound {l : Expr} {ops : List CmpOp} {rs : List Expr} {pos : Pos} {v : AV} (ih : EvS prog w K T n) (X : Ctxt K c sc A) (S : SRel c sc ρ env) (R : Rel c ρ st s) (h : ev T (n + 1) sc st (.Compare l ops rs pos) = some (v, st')) :
    Gets (model prog w) A c ρ st' (fun ρ' u => VRel ρ' v u) (eval (.Compare l ops rs pos) env) s := by
  match ops, rs with
  | [op], [r] =>
    simp only [ev] at h
    split at h
    · cases h
    rename_i hm
    obtain ⟨⟨a, st₁⟩, h1, h⟩ := bind_some h
    obtain ⟨⟨b, st₂⟩, h2, h⟩ := bind_some h
    obtain ⟨q, h3, h⟩ := map_some h
    cases h
    exact (cmp_two ih X S R (by simpa using hm) h1 h2 h3).mono fun _ _ _ e => e
  | [], _ => simp [ev] at h
  | [_], [] => simp [ev] at h
  | [_], _ :: _ :: _ => simp [ev] at h
  | _ :: _ :: _, _ => simp [ev] at h

theorem evs_sound {es : List Expr} {vs : List AV} {pos : Pos} (ih : EvS prog w K T n) (is : EvsS prog w K T n) (X : Ctxt K c sc A) (S : SRel c sc ρ env) (R : Rel c ρ st s) (h : evs T (n + 1) sc st es = some (vs, st')) :
    Gets (model prog w) A c ρ st' (fun ρ' us => VRels ρ' vs us) (spliced (backTo pos (starEach es env))) s := by
  cases es with
  | nil =>
    simp only [evs] at h
    cases h
    exact .pure R trivial
  | cons e r =>
    simp only [evs] at h
    obtain ⟨⟨a, st₁⟩, h1, h⟩ := bind_some h
    obtain ⟨⟨b, st₂⟩, h2, h⟩ := bind_some h
    cases h
    intro Q E k
    refine wpAny_items_cons (ih X S R h1 _ _ fun ρ₁ s₁ ua e₁ R₁ ra => is X (S.ext e₁) R₁ h2 _ _ fun ρ₂ s₂ us e₂ R₂ rs => k _ _ _ (e₁.trans e₂) R₂ ⟨ra.ext e₂, rs⟩) ?_
    cases e <;> first | rfl | (exfalso; clear is ih k; cases n <;> simp [ev] at h1)

theorem ev_List_sound {es : List Expr} {pos : Pos} {v : AV} (is : EvsS prog w K T n) (X : Ctxt K c sc A) (S : SRel c sc ρ env) (R : Rel c ρ st s) (h : ev T (n + 1) sc st (.List es pos) = some (v, st')) :
    Gets (model prog w) A c ρ st' (fun ρ' u => VRel ρ' v u) (eval (.List es pos) env) s := by
  simp only [ev] at h
  obtain ⟨⟨vs, st₁⟩, h1, h⟩ := bind_some h
  dsimp only at h
  split at h
  · rename_i hl
    cases h
    intro Q E k
    refine wpAny_List (is X S R h1 _ _ fun ρ' s' us e R' r => ⟨fits1000 (by rw [r.length]; exact hl), ?_⟩)
    obtain ⟨x1, x2, x3⟩ := R'.newList r
    exact k _ _ _ (e.trans x1) x2 x3
  · cases h

theorem tst_sound {e : Expr} {b : Bool} (ih : EvS prog w K T n) (it : TstS prog w K T n) (X : Ctxt K c sc A) (S : SRel c sc ρ env) (R : Rel c ρ st s) (h : tst T (n + 1) sc st e = some (b, st')) :
    Gets (model prog w) A c ρ st' (fun _ u => u = b) (isTrue e env (eval e env)) s := by
  have plain : ((ev T n sc st e).bind fun (a, st) => (truth a).map fun b => (b, st)) = some (b, st') → isTrue e env (eval e env) = (do let v ← eval e env; standAt e.pos; holding [v] (truthy v)) →
      Gets (model prog w) A c ρ st' (fun _ u => u = b) (isTrue e env (eval e env)) s := fun h he => by
    obtain ⟨⟨a, st₁⟩, h1, h⟩ := bind_some h
    obtain ⟨q, h2, h⟩ := map_some h
    cases h
    intro Q E k
    exact wpAny_isTrue_value (ih X S R h1 _ _ fun ρ' s' u e R' r => truth_sound r h2 (k _ _ _ e R' rfl)) he
  cases e with
  | Name x p => simp only [tst] at h; exact plain h rfl
  | Attribute o x p => simp only [tst] at h; exact plain h rfl
  | Call f as ks p => simp only [tst] at h; exact plain h rfl
  | BinOp l op r p => simp only [tst] at h; exact plain h rfl
  | UnaryOp op x p =>
    cases op <;> simp only [tst] at h
    case Not =>
      obtain ⟨⟨a, st₁⟩, h1, h⟩ := map_some h
      cases h
      intro Q E k
      exact wpAny_isTrue_Not (it X S R h1 _ _ fun ρ' s' u e R' r => k _ _ _ e R' (by rw [r]))
    all_goals cases h
  | Compare l ops rs p =>
    match ops, rs with
    | [op], [r] =>
      simp only [tst] at h
      split at h
      · cases h
      rename_i hm
      obtain ⟨⟨a, st₁⟩, h1, h⟩ := bind_some h
      obtain ⟨⟨b, st₂⟩, h2, h⟩ := bind_some h
      obtain ⟨q, h3, h⟩ := map_some h
      cases h
      intro Q E k
      exact wpAny_isTrue_Compare1 (ih X S R h1 _ _ fun ρ₁ s₁ ua e₁ R₁ ra => ih X (S.ext e₁) R₁ h2 _ _ fun ρ₂ s₂ ub e₂ R₂ rb => cmp_sound R₂ X.u64 (ra.ext e₂) rb h3 (wpAny_truthy_bool (k _ _ _ (e₁.trans e₂) R₂ rfl))) (by simpa using hm)
    | [], _ => simp [tst] at h
    | [_], [] => simp [tst] at h
    | [_], _ :: _ :: _ => simp [tst] at h
    | _ :: _ :: _, _ => simp [tst] at h
  | BoolOp op xs p =>
    match op, xs with
    | .Or, [x, y] =>
      simp only [tst] at h
      obtain ⟨⟨a, st₁⟩, h1, h⟩ := bind_some h
      dsimp only at h
      intro Q E k
      refine wpAny_isTrue_BoolOp (wpAny_allTrue_Or_cons (it X S R h1 _ _ fun ρ' s' u e R' r => ?_))
      subst r
      cases u
      · rw [if_neg Bool.false_ne_true] at h ⊢
        refine wpAny_allTrue_Or_cons (it X (S.ext e) R' h _ _ fun ρ₂ s₂ u₂ e₂ R₂ r₂ => ?_)
        subst r₂
        cases u₂
        · exact wpAny_allTrue_Or_nil (k _ _ _ (e.trans e₂) R₂ rfl)
        · exact k _ _ _ (e.trans e₂) R₂ rfl
      · cases h
        exact k _ _ _ e R' rfl
    | .And, [x, y] =>
      simp only [tst] at h
      obtain ⟨⟨a, st₁⟩, h1, h⟩ := bind_some h
      dsimp only at h
      intro Q E k
      refine wpAny_isTrue_BoolOp (wpAny_allTrue_And_cons (it X S R h1 _ _ fun ρ' s' u e R' r => ?_))
      subst r
      cases u
      · cases h
        exact k _ _ _ e R' rfl
      · rw [if_pos rfl] at h ⊢
        refine wpAny_allTrue_And_cons (it X (S.ext e) R' h _ _ fun ρ₂ s₂ u₂ e₂ R₂ r₂ => ?_)
        subst r₂
        cases u₂
        · exact k _ _ _ (e.trans e₂) R₂ rfl
        · exact wpAny_allTrue_And_nil (k _ _ _ (e.trans e₂) R₂ rfl)
    | .Or, [] => simp [tst] at h
    | .Or, [_] => simp [tst] at h
    | .Or, _ :: _ :: _ :: _ => simp [tst] at h
    | .And, [] => simp [tst] at h
    | .And, [_] => simp [tst] at h
    | .And, _ :: _ :: _ :: _ => simp [tst] at h
  | _ => simp [tst] at h
end
end Mine
end

section
open PySem PySem.W PyProof.Rows PySem.Calls
set_option maxRecDepth 100000
namespace Mine

section
variable {prog : Program} {w : World} {A : Around} {E : Value → Shared → Prop} {c : Cx} {ρ : Loc} {st st₁ st' : St} {s : Shared} {sc : Sc} {env : Env} {K : Frag} {T : Addr → Option Fn} {n : Nat}

theorem getitem_list {l : Addr} {vs : List Value} (hl : s.heap.IsList l vs.toArray) {Q : Bool → Shared → Prop} (q : Q false s) : wpAny (model prog w) A (getitemInPython (.ref l)) Q E s := by
  rw [getitemInPython_of_ne hl.typeIs.not_modules]
  exact wpAny_bind (wpAny_specialOf hl.typeIs slot_list_getitem.lookup (wpAny_pure q))

theorem idx_some {xs : List AV} {k : Int} {v : AV} (h : idx xs k = some v) : (0 ≤ k ∧ xs[k.toNat]? = some v) ∨ (k < 0 ∧ 0 ≤ k + xs.length ∧ xs[(k + xs.length).toNat]? = some v) := by
  unfold idx at h
  split at h
  · exact .inl ⟨by assumption, h⟩
  · split at h
    · exact .inr ⟨by omega, by assumption, h⟩
    · cases h

theorem item_sound {i : Nat} {k : Int} {xs : List AV} {v : AV} {t : Tok} (R : Rel c ρ st s) (hi : st.H i = some (.list xs)) (hk : -1000 < k ∧ k < 1000 ∧ xs.length < 1000) (h : idx xs k = some v) :
    ∃ u, VRel ρ v u ∧ ∀ (Q E : Value → Shared → Prop), Q u s → wpAny (model prog w) A (getItem (.ref (ρ.a i)) (.int k t)) Q E s := by
  obtain ⟨vs, hl, q⟩ := R_list R hi
  have len := q.length
  rcases idx_some h with ⟨h0, h⟩ | ⟨h0, h1, h⟩
  · obtain ⟨u, hu, r⟩ := q.get h
    exact ⟨u, r, fun Q E z => wpAny_getItem_list hl h0 (by omega) (by simpa using hu) z⟩
  · obtain ⟨u, hu, r⟩ := q.get h
    refine ⟨u, r, fun Q E z => wpAny_getItem_list_neg hl h0 ?_ (by omega) ?_ z⟩
    · rw [List.size_toArray, len]; omega
    · rw [List.size_toArray, len]; simpa using hu

theorem R_slice {c : Cx} {ρ : Loc} {st : St} {s : Shared} (R : Rel c ρ st s) {i : Nat} {xs : List AV} (h : sliceable (st.H i) = some xs) : ∃ vs : List Value, s.heap.IsList (ρ.a i) vs.toArray ∧ VRels ρ xs vs := by
  cases hi : st.H i with
  | none => rw [hi] at h; cases h
  | some o =>
    rw [hi] at h
    cases o with
    | list ys => cases h; exact R_list R hi
    | args ys => cases h; exact (R.obj _ _ hi).2.2
    | _ => cases h

theorem slice_tail {i : Nat} {xs ys : List AV} {vl vu : Value} {lo hi : Option Int} {o : Expr} {a b : Option Expr} {p : Pos} (R : Rel c ρ st s) (hi' : sliceable (st.H i) = some xs) (hlen : xs.length < 1000) (pl : IsPart vl lo) (pu : IsPart vu hi)
    (hy : ∀ vs : List Value, VRels ρ xs vs → ∃ us : List Value, slicePick vs.toArray lo hi none = us.toArray ∧ VRels ρ ys us) {Q : Value → Shared → Prop}
    (k : ∀ ρ' s' u, Ext ρ ρ' → Rel c ρ' (st.add (.list ys)) s' → VRel ρ' (.obj st.n) u → Q u s') :
    wpAny (model prog w) A (do let r ← subscripted (.Slice a b none p) (← getitemInPython (.ref (ρ.a i))) (.ref (ρ.a i)) (.ref s.heap.objs.size); letTemporaryGo o (.ref (ρ.a i)) r; Pure.pure r) Q E
      { s with heap := s.heap.push { cls := .type "slice", data := .fields #[vl, vu, .none] } } := by
  obtain ⟨vs, hl, q⟩ := R_slice R hi'
  obtain ⟨us, hp, q'⟩ := hy vs q
  have R' := R.push { cls := .type "slice", data := .fields #[vl, vu, .none] }
  have hl' := hl.push { cls := .type "slice", data := .fields #[vl, vu, .none] }
  refine wpAny_bind (getitem_list hl' ?_)
  show wpAny _ _ (operate [.ref s.heap.objs.size, .ref (ρ.a i)] (getItem (.ref (ρ.a i)) (.ref s.heap.objs.size)) >>= fun r => letTemporaryGo o (.ref (ρ.a i)) r >>= fun _ => Pure.pure r) Q E _
  refine wpAny_bind (wpAny_operate (wpAny_getItem_list_slice hl' (Heap.IsSliceOf.new ..) pl pu .none (by simp) ?_ (fits1000 (by rw [List.size_toArray, q.length]; exact hlen))))
  refine wpAny_bind (wpAny_letTemporaryGo (wpAny_pure ?_))
  obtain ⟨x1, x2, x3⟩ := R'.newList q'
  rw [hp]
  exact k _ _ _ x1 x2 x3

theorem slice_upto {i : Nat} {k : Int} {xs : List AV} (h0 : 0 ≤ k) (vs : List Value) (q : VRels ρ xs vs) : ∃ us : List Value, slicePick vs.toArray none (some k) none = us.toArray ∧ VRels ρ (xs.take k.toNat) us := by
  obtain ⟨j, rfl⟩ := Int.eq_ofNat_of_zero_le h0
  exact ⟨vs.take j, slicePick_upto' _ _, q.take j⟩
theorem slice_from {i : Nat} {k : Int} {xs : List AV} (h0 : 0 ≤ k) (vs : List Value) (q : VRels ρ xs vs) : ∃ us : List Value, slicePick vs.toArray (some k) none none = us.toArray ∧ VRels ρ (xs.drop k.toNat) us := by
  obtain ⟨j, rfl⟩ := Int.eq_ofNat_of_zero_le h0
  exact ⟨vs.drop j, slicePick_from' _ _, q.drop j⟩

theorem ev_Subscript_sound {o sl : Expr} {pos : Pos} {v : AV} (ih : EvS prog w K T n) (X : Ctxt K c sc A) (S : SRel c sc ρ env) (R : Rel c ρ st s) (h : ev T (n + 1) sc st (.Subscript o sl pos) = some (v, st')) :
    Gets (model prog w) A c ρ st' (fun ρ' u => VRel ρ' v u) (eval (.Subscript o sl pos) env) s := by
  have index : (∀ a b q p, sl ≠ .Slice a b q p) → ((ev T n sc st o).bind fun (a, st) => (ev T n sc st sl).bind fun (b, st) => (match a, b with
            | .obj i, .int k => (match st.H i with
                | some (.list xs) => if -1000 < k ∧ k < 1000 ∧ xs.length < 1000 then (idx xs k).map fun v => (v, st) else none
                | _ => none)
            | _, _ => none)) = some (v, st') → Gets (model prog w) A c ρ st' (fun ρ' u => VRel ρ' v u) (eval (.Subscript o sl pos) env) s := fun hs h => by
    obtain ⟨⟨a, st₁⟩, h1, hA⟩ := bind_some h
    obtain ⟨⟨b, st₂⟩, h2, hB⟩ := bind_some hA
    rw [arm_eval_Subscript]
    refine two ih X S R h1 h2 fun ρ' s' ua ub e R' ra rb => ?_
    dsimp only at hB
    split at hB
    · rename_i i k
      split at hB
      · rename_i xs hi
        split at hB
        · rename_i hk
          obtain ⟨v', h3, hC⟩ := map_some hB
          cases hC
          obtain ⟨hin, rfl⟩ := ra
          obtain ⟨t, rfl⟩ := rb
          obtain ⟨vs, hl, q⟩ := R_list R' hi
          obtain ⟨u, r, m⟩ := item_sound (t := t) (prog := prog) (w := w) (A := A) R' hi hk h3
          intro Q E kk
          refine wpAny_bind (getitem_list hl ?_)
          have e2 : subscripted sl false (.ref (ρ'.a i)) (.int k t) = operate [.ref (ρ'.a i), .int k t] (getItem (.ref (ρ'.a i)) (.int k t)) := by
            cases sl <;> first | rfl | exact absurd rfl (hs _ _ _ _)
          rw [e2]
          exact wpAny_bind (wpAny_operate (m _ E (wpAny_bind (wpAny_letTemporaryGo (wpAny_pure (kk _ _ _ (Ext.refl _) R' r))))))
        · cases hB
      · cases hB
    · cases hB
  cases sl with
  | Slice a b q p =>
    match a, b, q with
    | none, some ub, none =>
      simp only [ev] at h
      obtain ⟨⟨a, st₁⟩, h1, hA⟩ := bind_some h
      obtain ⟨⟨b, st₂⟩, h2, hB⟩ := bind_some hA
      dsimp only at hB
      split at hB
      · rename_i i k
        split at hB
        · rename_i xs hi
          split at hB
          · rename_i hk
            cases hB
            intro Q E kk
            rw [arm_eval_Subscript]
            refine wpAny_bind (ih X S R h1 _ _ fun ρ₁ s₁ ua e₁ R₁ ra => wpAny_bind (wpAny_holding (wpAny_Slice ?_)))
            refine wpAny_pure (ih X (S.ext e₁) R₁ h2 _ _ fun ρ₂ s₂ ub e₂ R₂ rb => wpAny_pure (wpAny_bind (wpAny_standAt ?_)))
            obtain ⟨hin, rfl⟩ := ra.ext e₂
            obtain ⟨t, rfl⟩ := rb
            exact slice_tail R₂ hi hk.2.2 .none (.int k t) (slice_upto (i := i) hk.1) fun ρ' s' u e => kk ρ' s' u ((e₁.trans e₂).trans e)
          · cases hB
        · cases hB
      · cases hB
    | some ua, none, none =>
      simp only [ev] at h
      obtain ⟨⟨a, st₁⟩, h1, hA⟩ := bind_some h
      obtain ⟨⟨b, st₂⟩, h2, hB⟩ := bind_some hA
      dsimp only at hB
      split at hB
      · rename_i i k
        split at hB
        · rename_i xs hi
          split at hB
          · rename_i hk
            cases hB
            intro Q E kk
            rw [arm_eval_Subscript]
            refine wpAny_bind (ih X S R h1 _ _ fun ρ₁ s₁ ua e₁ R₁ ra => wpAny_bind (wpAny_holding (wpAny_Slice ?_)))
            refine ih X (S.ext e₁) R₁ h2 _ _ fun ρ₂ s₂ ub e₂ R₂ rb => wpAny_pure (wpAny_pure (wpAny_bind (wpAny_standAt ?_)))
            obtain ⟨hin, rfl⟩ := ra.ext e₂
            obtain ⟨t, rfl⟩ := rb
            exact slice_tail R₂ hi hk.2.2 (.int k t) .none (slice_from (i := i) hk.1) fun ρ' s' u e => kk ρ' s' u ((e₁.trans e₂).trans e)
          · cases hB
        · cases hB
      · cases hB
    | none, none, _ => simp [ev] at h
    | some _, some _, _ => simp [ev] at h
    | some _, none, some _ => simp [ev] at h
    | none, some _, some _ => simp [ev] at h
  | _ => exact index (fun _ _ _ _ e => by cases e) h
end
end Mine
end

section
open PySem PySem.W PyProof.Rows PySem.Calls
set_option maxRecDepth 100000
namespace Mine

def own (C : Addr) : Prop := C = 101 ∨ C = 193 ∨ C = 238
def fld (x : Str) : Prop := x = "next_on_list" ∨ x = "prev_on_list" ∨ x = "list_type" ∨ x = "head" ∨ x = "sink" ∨ x = "_path" ∨ x = "_for_route_refresh"

/-- what the ground says of the classes -/
structure KOK (K : Frag) : Prop where
  pg : ∀ C x, own C → plainGet K C x = true
  hd : ∀ C, own C → hasDictIn K C = true
  nof : ∀ C x, own C → fld x → findIn K (.ref C) x = some none
  sa : ∀ C, own C → findIn K (.ref C) "__setattr__" = some (some (.builtin "object.__setattr__"))
  po : ∀ C, own C → plainOver K C = true
  tk : ∀ C x, own C → fld x → takerIn K C x = some none
  me : ∀ C x f, meth C x = some f → findIn K (.ref C) x = some (some (.ref f)) ∧ isFn K (.ref f) = true ∧ keepIn K (.ref f) = true
  nm : ∀ C, C = 101 ∨ C = 238 → ∃ cd, clsIn K C = some cd ∧ (cd.name = ("List" : Str) ∨ cd.name = ("OutgoingRoute" : Str))
  pr : ∃ p rest, findIn K (.ref 238) "path" = some (some (.ref p)) ∧ specialIn K (.ref p) "__get__" = some (some (.builtin "property.__get__")) ∧ takesIn K (.ref p) = some true ∧ recIn K p "property" = some (.ref 219 :: rest)

theorem getL_skip {x : Str} {e : DictEntry} {es : List DictEntry} (h0 : e.key.isStr x = false) (h1 : e.refKey = false) : W.getL x (e :: es) = W.getL x es := by
  unfold W.getL
  rw [List.find?_cons, h0, List.any_cons, h1, Bool.false_or]
theorem getL_hit {x : Str} {e : DictEntry} {es : List DictEntry} (h0 : e.key.isStr x = true) : W.getL x (e :: es) = some (some e.val) := by
  unfold W.getL
  rw [List.find?_cons, h0]
theorem FRel.getL {ρ : Loc} {x : Str} : ∀ {F : List (Str × AV)} {es : List DictEntry}, FRel ρ F es → (∀ v, F.lookup x = some v → ∃ u, W.getL x es = some (some u) ∧ VRel ρ v u) ∧ (F.lookup x = none → W.getL x es = some none)
  | [], [], _ => ⟨fun v h => (by cases h), fun _ => rfl⟩
  | (k, a) :: F, e :: es, q₀ => by
    obtain ⟨⟨t, hk⟩, r, q⟩ := q₀
    have ih := FRel.getL (x := x) q
    have e0 : e.key.isStr x = (k == x) := by rw [hk]; rfl
    have e1 : e.refKey = false := by
      unfold DictEntry.refKey
      rw [hk]
    rw [List.lookup_cons]
    by_cases h : k = x
    · subst h
      rw [getL_hit (by rw [e0]; simp)]
      simp only [beq_self_eq_true]
      exact ⟨fun v h => by cases h; exact ⟨_, rfl, r⟩, fun h => by cases h⟩
    · have h1 : (k == x) = false := by simpa using h
      have h2 : (x == k) = false := by simpa using Ne.symm h
      rw [getL_skip (by rw [e0, h1]) e1, h2]
      exact ih
  | [], _ :: _, q => q.elim
  | _ :: _, [], q => q.elim
theorem FRel.putL {ρ : Loc} {x : Str} {v : AV} {u : Value} {hsh : Int} {tk : Tok} (r : VRel ρ v u) : ∀ {F : List (Str × AV)} {es : List DictEntry}, FRel ρ F es → FRel ρ (setA x v F) (putL x hsh (.str x tk) u es)
  | [], [], _ => ⟨⟨tk, rfl⟩, r, trivial⟩
  | (k, a) :: F, e :: es, q₀ => by
    obtain ⟨⟨t, hk⟩, r', q⟩ := q₀
    unfold setA W.putL
    have e0 : e.key.isStr x = (k == x) := by rw [hk]; rfl
    rw [e0]
    by_cases h : k = x
    · subst h
      rw [if_pos rfl, if_pos (by simp)]
      exact ⟨⟨t, hk⟩, r, q⟩
    · rw [if_neg h, if_neg (by simpa using h)]
      exact ⟨⟨t, hk⟩, r', FRel.putL r q⟩
  | [], _ :: _, q => q.elim
  | _ :: _, [], q => q.elim
theorem FRel.noRef {ρ : Loc} : ∀ {F : List (Str × AV)} {es : List DictEntry}, FRel ρ F es → es.any (·.refKey) = false
  | [], [], _ => rfl
  | (k, a) :: F, e :: es, q₀ => by
    obtain ⟨⟨t, hk⟩, r', q⟩ := q₀
    rw [List.any_cons, FRel.noRef q, Bool.or_false]
    unfold DictEntry.refKey
    rw [hk]
  | [], _ :: _, q => q.elim
  | _ :: _, [], q => q.elim
theorem setA_length (x : Str) (v : AV) : ∀ F : List (Str × AV), (setA x v F).length ≤ F.length + 1
  | [] => Nat.le_refl _
  | p :: r => by
    unfold setA
    split
    · simp
    · have := setA_length x v r
      simp only [List.length_cons]
      omega

section
variable {prog : Program} {w : World} {A : Around} {E : Value → Shared → Prop} {c : Cx} {ρ : Loc} {st st₁ st' : St} {s : Shared} {sc : Sc} {env : Env} {K : Frag} {T : Addr → Option Fn} {n : Nat}

theorem Rel.fr₀ (R : Rel c ρ st s) : ∃ m, Fr c.base c.L s.heap m := by
  obtain ⟨m, hn, _⟩ := R.loc
  exact ⟨m, hn, R.keep, R.up _ List.mem_cons_self⟩
theorem Rel.K_in (R : Rel c ρ st s) (G : Gnd K c.base) : K.In s.heap := G.inK.keeps R.keep

theorem Rel.inst (R : Rel c ρ st s) {i : Nat} {C : Addr} {F : List (Str × AV)} (h : st.H i = some (.inst C F)) :
    ∃ es m, InstAt s.heap (ρ.a i) (instObj C (ρ.d i)) C (some (dictOf es m)) ∧ FRel ρ F es ∧ s.heap.get? (ρ.d i) = some (dictOf es m) := by
  obtain ⟨_, _, h1, es, m, h2, q⟩ := R.obj _ _ h
  exact ⟨es, m, ⟨h1, rfl, rfl, h2⟩, q, h2⟩

theorem handed {v : AV} {u : Value} (r : VRel ρ v u) (h : tame v = true) : handedIn u = true := by
  cases v with
  | none => cases r; rfl
  | bool b => cases r; rfl
  | int i => obtain ⟨t, rfl⟩ := r; rfl
  | str x => obtain ⟨t, rfl⟩ := r; rfl
  | obj i => obtain ⟨_, rfl⟩ := r; rfl
  | raw v => cases h

/-- a field is read -/
theorem field_sound (G : Gnd K c.base) (KK : KOK K) (R : Rel c ρ st s) {i : Nat} {C : Addr} {F : List (Str × AV)} {x : Str} {v : AV} {expr : Bool} (hi : st.H i = some (.inst C F)) (hC : own C) (hx : fld x) (h : F.lookup x = some v) (ht : tame v = true) :
    Gets (model prog w) A c ρ st (fun ρ' u => VRel ρ' v u) (getAttr (.ref (ρ.a i)) x expr) s := fun Q E k => by
  obtain ⟨es, m, I, q, _⟩ := R.inst hi
  obtain ⟨m', F₀⟩ := R.fr₀
  obtain ⟨u, hu, r⟩ := q.getL.1 v h
  exact get_own F₀ G.inK I (KK.pg C x hC) (KK.hd C hC) (KK.nof C x hC hx) rfl hu (handed r ht) (k _ _ _ (Ext.refl _) (R.toks _) r)

theorem method_sound (G : Gnd K c.base) (KK : KOK K) (R : Rel c ρ st s) {i : Nat} {C : Addr} {F : List (Str × AV)} {x : Str} {f : Addr} {pl : Sem Bool} (hi : st.H i = some (.inst C F)) (hC : own C) (hm : meth C x = some f) (h : F.lookup x = none)
    {Q : Value × List Value → Shared → Prop} (q : Q (.ref f, [.ref (ρ.a i)]) s) : wpAny (model prog w) A (getMethod (.ref (ρ.a i)) x pl) Q E s := by
  obtain ⟨es, m, I, q', _⟩ := R.inst hi
  obtain ⟨m', F₀⟩ := R.fr₀
  obtain ⟨h1, h2, h3⟩ := KK.me C x f hm
  exact method_inst F₀ G.inK I (KK.pg C x hC) h1 h2 (q'.getL.2 h) q

theorem osa_heap {x C dx : Addr} {name : Str} {tk : Tok} {v : Value} {es : List DictEntry} {m : Nat} {R : Result → Shared → Prop} (X : K.In s.heap) (I : InstAt s.heap x (instObj C dx) C (some (dictOf es m))) (D : s.heap.get? dx = some (dictOf es m))
    (hp : plainOver K C = true) (ht : takerIn K C name = some none) (hh : hasDictIn K C = true) (hr : es.any (·.refKey) = false) (hz : (putL name (PyData.keyHash w.params name) (.str name s.toks) v es).length ≤ 1000)
    (h : R (.ok (.ret .none)) { s with heap := s.heap.update dx (Obj.putName name (PyData.keyHash w.params name) (.str name s.toks) v), toks := s.toks + 1 }) :
    codeAny (model prog w) A (.call (.builtin "object.__setattr__") ⟨[.ref x, .str name tk, v], []⟩) R s := by
  refine osa_open X I hp ht fun b => ?_
  obtain ⟨cd, hc, hd'⟩ := any_some hh
  have D' : (s.heap.update dx (Obj.putName name (PyData.keyHash w.params name) (.str name s.toks) v)).get? dx = some (dictOf (putL name (PyData.keyHash w.params name) (.str name s.toks) v es) (putN name es m)) := by
    rw [← putName_dict]
    exact Heap.get?_update_self _ D (by rw [putName_dict]; rfl)
  have hx := I.at_
  refine wpAny_bind (wpAny_pure (wpAny_bind (wpAny_bind (wpAny_loadPart hx (wpAny_bind ((looks_clsIn X hc).here ?_))))))
  rw [hd']
  refine wpAny_pure (a := some dx) (wpAny_bind (wpAny_pure (wpAny_bind ?_)))
  unfold nsSet
  refine wpAny_bind (wpAny_bind (wpAny_askSetting (wpAny_pure (wpAny_bind (wpAny_mkText (wpAny_bind (wpAny_loadPart D ?_)))))))
  dsimp only
  have cc : (!es.toArray.any (·.key.isStr name) && es.toArray.any (·.refKey)) = false := by
    rw [← Array.any_toList, ← Array.any_toList]
    show (!es.any (·.key.isStr name) && es.any (·.refKey)) = false
    rw [hr, Bool.and_false]
  rw [aRefKeyMayBeTheName_at, cc]
  refine wpAny_updatePart D ?_
  refine wpAny_bind (wpAny_lookBehind D' (pastItsLine_dict (by rw [List.size_toArray, sizeLine_eq]; omega)) ?_)
  exact wpAny_pure h

theorem putL_length (name : Str) (hsh : Int) (key v : Value) : ∀ es : List DictEntry, (putL name hsh key v es).length ≤ es.length + 1
  | [] => Nat.le_refl _
  | e :: r => by
    unfold W.putL
    split
    · simp
    · have := putL_length name hsh key v r
      simp only [List.length_cons]
      omega

/-- a field is stored -/
theorem store_sound (G : Gnd K c.base) (KK : KOK K) (R : Rel c ρ st s) {i : Nat} {C : Addr} {F : List (Str × AV)} {x : Str} {v : AV} {u : Value} (hi : st.H i = some (.inst C F)) (hC : own C) (hx : fld x) (hF : F.length < 100) (r : VRel ρ v u) :
    Gets (model prog w) A c ρ { st with H := upd st.H i (.inst C (setA x v F)) } (fun _ _ => True) (setAttr (.ref (ρ.a i)) x u) s := fun Q E k => by
  obtain ⟨es, m, I, q, D⟩ := R.inst hi
  have X := R.K_in G
  refine set_plain X I (KK.sa C hC) (osa_heap (s := { s with toks := s.toks + 1 }) X I D (KK.po C hC) (KK.tk C x hC hx) (KK.hd C hC) q.noRef ?_ ?_)
  · have h1 := putL_length x (PyData.keyHash w.params x) (.str x (s.toks + 1)) u es
    have h2 := q.length
    show (putL x (PyData.keyHash w.params x) (.str x (s.toks + 1)) u es).length ≤ 1000
    omega
  · refine k _ _ _ (Ext.refl _) ?_ trivial
    exact (R.setFld (h' := s.heap.update (ρ.d i) (Obj.putName x (PyData.keyHash w.params x) (.str x (s.toks + 1)) u)) hi (Heap.SameBut.update ..) (by rw [Heap.get?_update_self _ D (by rw [putName_dict]; rfl), putName_dict]) (FRel.putL r q)).toks _
end
end Mine
end

section
open PySem PySem.W PyProof.Rows PySem.Calls
set_option maxRecDepth 100000
namespace Mine

/-- a new cell, at a place that nothing told of uses -/
theorem Rel.addCell {c : Cx} {ρ : Loc} {st : St} {s : Shared} (R : Rel c ρ st s) {a : Addr} {x : Option AV} {v : Option Value} (ha : c.base.objs.size ≤ a) (hf : ∀ i o, st.H i = some o → ρ.a i ≠ a) (hc : s.heap.IsCell a v) (ov : OVRel ρ x v) :
    Rel c (ρ.add a a) (st.add (.cell x)) s := by
  have E := ρ.add_ext a a
  have hn := R.n
  have cases_ : ∀ i oi, (st.add (.cell x)).H i = some oi → (i = st.n ∧ oi = .cell x) ∨ (i ≠ st.n ∧ st.H i = some oi ∧ i < ρ.n) := fun i oi q => by
    have q : upd st.H st.n (.cell x) i = some oi := q
    by_cases h : i = st.n
    · rw [h, upd_self] at q; exact .inl ⟨h, (Option.some.inj q).symm⟩
    · rw [upd_ne _ _ h] at q; exact .inr ⟨h, q, hn ▸ (R.obj i oi q).1⟩
  have ea : ∀ i, i < ρ.n → (ρ.add a a).a i = ρ.a i := fun i h => (E.2 i h).1
  have ed : ∀ i, i < ρ.n → (ρ.add a a).d i = ρ.d i := fun i h => (E.2 i h).2
  have na : (ρ.add a a).a st.n = a := hn ▸ ρ.add_a a a
  refine ⟨R.os, R.keep, (by show ρ.n + 1 = st.n + 1; rw [hn]), fun i oi q => ?_, R.loc.ext E, fun p hp => (R.fr p hp).ext E, R.up, R.nd, fun i j oi oj q1 q2 q3 => ?_, fun i C F q => ?_, fun i j C F C' F' q1 q2 q3 => ?_, R.ex, R.exn, R.gn, R.gnn, R.bare⟩
  · rcases cases_ i oi q with ⟨rfl, rfl⟩ | ⟨h, q, hi⟩
    · exact ⟨Nat.lt_succ_self _, .inr (by rw [na]; exact ha), v, by rw [na]; exact hc, ov.ext E⟩
    · obtain ⟨x, y, z⟩ := R.obj i oi q
      exact ⟨Nat.lt_succ_of_lt x, y.imp id (fun y => by rw [ea i hi]; exact y), z.ext E hi⟩
  · rcases cases_ i oi q1 with ⟨e1, _⟩ | ⟨_, p1, hi⟩ <;> rcases cases_ j oj q2 with ⟨e2, _⟩ | ⟨_, p2, hj⟩
    · rw [e1, e2]
    · rw [e1, na, ea j hj] at q3
      exact (hf j _ p2 q3.symm).elim
    · rw [e2, na, ea i hi] at q3
      exact (hf i _ p1 q3).elim
    · rw [ea i hi, ea j hj] at q3
      exact R.ia i j _ _ p1 p2 q3
  · rcases cases_ i _ q with ⟨_, e1⟩ | ⟨_, p, hi⟩
    · cases e1
    · rw [ed i hi]; exact R.dd i C F p
  · rcases cases_ i _ q1 with ⟨_, e1⟩ | ⟨_, p1, hi⟩
    · cases e1
    · rcases cases_ j _ q2 with ⟨_, e2⟩ | ⟨_, p2, hj⟩
      · cases e2
      · rw [ed i hi, ed j hj] at q3
        exact R.dj i j _ _ _ _ p1 p2 q3

theorem cellsFrom_acc (n : Nat) (x : Str) : ∀ (names : List (Str × NameKind)) (n : Nat) (acc : List (Str × Addr)), (∀ y, y ∈ names.map (·.1) → y ≠ x) → (cellsFrom n names acc).lookup x = acc.lookup x
  | [], _, _, _ => rfl
  | (y, k) :: r, n, acc, h => by
    unfold cellsFrom
    have hr : ∀ z, z ∈ r.map (·.1) → z ≠ x := fun z hz => h z (List.mem_cons_of_mem _ hz)
    split
    · rw [cellsFrom_acc n x r _ _ hr, List.lookup_cons]
      have : (x == y) = false := by simpa using Ne.symm (h y List.mem_cons_self)
      rw [this]
    · exact cellsFrom_acc n x r _ _ hr

theorem layCells_loc (bs : List (Str × AV)) (l : List (Str × AV)) : ∀ (names : List (Str × NameKind)) (st : St), layCells bs names { st with loc := l } = ({ (layCells bs names st).1 with loc := l }, (layCells bs names st).2)
  | [], st => rfl
  | (x, k) :: r, st => by
    unfold layCells
    split
    · have := layCells_loc bs l r (st.add (.cell (bs.lookup x)))
      have e : ({ st with loc := l } : St).add (.cell (bs.lookup x)) = { st.add (.cell (bs.lookup x)) with loc := l } := rfl
      rw [e, this]
    · exact layCells_loc bs l r st

theorem lay_rel {c : Cx} {s : Shared} {cm : Str → Option Value} {bs : List (Str × AV)} {all : List (Str × Addr)} (hcell : ∀ x a, all.lookup x = some a → s.heap.IsCell a (cm x)) :
    ∀ (names : List (Str × NameKind)) (n : Nat) (acc : List (Str × Addr)) (ρ : Loc) (st : St), Rel c ρ st s → (∀ i o, st.H i = some o → ρ.a i < n) → c.base.objs.size ≤ n → (names.map (·.1)).Nodup →
      cellsFrom n names acc = all → (∀ ρ', Ext ρ ρ' → ∀ x, (x, NameKind.cell) ∈ names → OVRel ρ' (bs.lookup x) (cm x)) →
      ∃ ρ', Ext ρ ρ' ∧ Rel c ρ' (layCells bs names st).1 s ∧ ∀ x i, (layCells bs names st).2.lookup x = some i → i < ρ'.n ∧ all.lookup x = some (ρ'.a i)
  | [], n, acc, ρ, st, R, _, _, _, _, _ => ⟨ρ, Ext.refl _, R, fun x i h => by cases h⟩
  | (y, k) :: r, n, acc, ρ, st, R, hlt, hb, hnd, hall, hov => by
    obtain ⟨hy, hnd'⟩ := List.nodup_cons.mp hnd
    unfold layCells
    unfold cellsFrom at hall
    split
    · rename_i hk
      subst hk
      rw [if_pos (by rfl)] at hall
      have hla : all.lookup y = some n := by
        rw [← hall, cellsFrom_acc n y r _ _ (fun z hz e => hy (e ▸ hz)), List.lookup_cons, beq_self_eq_true]
      have E₁ := ρ.add_ext n n
      have R₁ := R.addCell (x := bs.lookup y) hb (fun i o e => Nat.ne_of_lt (hlt i o e)) (hcell y n hla) (hov ρ (Ext.refl _) y List.mem_cons_self)
      have hlt₁ : ∀ i o, (st.add (.cell (bs.lookup y))).H i = some o → (ρ.add n n).a i < n + 1 := fun i o e => by
        have e : upd st.H st.n (.cell (bs.lookup y)) i = some o := e
        by_cases h : i = st.n
        · rw [h, ← R.n, ρ.add_a]; exact Nat.lt_succ_self _
        · rw [upd_ne _ _ h] at e
          rw [(E₁.2 i (by rw [R.n]; exact (R.obj i o e).1)).1]
          exact Nat.lt_succ_of_lt (hlt i o e)
      obtain ⟨ρ', E₂, R₂, hl⟩ := lay_rel hcell r (n + 1) _ _ _ R₁ hlt₁ (Nat.le_succ_of_le hb) hnd' hall (fun ρ' e x hx => hov ρ' (E₁.trans e) x (List.mem_cons_of_mem _ hx))
      refine ⟨ρ', E₁.trans E₂, R₂, fun x i h => ?_⟩
      have h : ((y, st.n) :: (layCells bs r (st.add (.cell (bs.lookup y)))).2).lookup x = some i := h
      rw [List.lookup_cons] at h
      by_cases hxy : x = y
      · subst hxy
        rw [beq_self_eq_true] at h
        cases h
        have hin : st.n < (ρ.add n n).n := by rw [← R.n]; exact Nat.lt_succ_self _
        refine ⟨Nat.lt_of_lt_of_le hin E₂.1, ?_⟩
        rw [hla, (E₂.2 _ hin).1, ← R.n, ρ.add_a]
      · have : (x == y) = false := by simpa using hxy
        rw [this] at h
        exact hl x i h
    · rename_i hk
      rw [if_neg (by simpa using hk)] at hall
      exact lay_rel hcell r n acc ρ st R hlt hb hnd' hall (fun ρ' e x hx => hov ρ' e x (List.mem_cons_of_mem _ hx))

theorem bindL_at (kindOf : Str → Option NameKind) (x : Str) : ∀ (binds : List (Str × Value)) (m : Str → Option Value), (binds.map (·.1)).Nodup → bindL kindOf binds m x = (if kindOf x = some .local then (match binds.lookup x with | some v => some v | none => m x) else m x)
  | [], m, _ => by unfold bindL; split <;> rfl
  | (y, v) :: r, m, h => by
    obtain ⟨hy, hr⟩ := List.nodup_cons.mp h
    unfold bindL
    rw [bindL_at kindOf x r _ hr, List.lookup_cons]
    by_cases hxy : x = y
    · subst hxy
      have hno : r.lookup x = none := by
        cases hq : r.lookup x with
        | none => rfl
        | some v => exact absurd (List.mem_map_of_mem (f := (·.1)) (mem_of_lookup hq)) hy
      rw [beq_self_eq_true, hno]
      by_cases hk : kindOf x = some .local
      · rw [if_pos hk, if_pos hk, if_pos hk]; simp
      · rw [if_neg hk, if_neg hk, if_neg hk]
    · have hb : (x == y) = false := by simpa using hxy
      rw [hb]
      by_cases hk : kindOf x = some .local
      · rw [if_pos hk, if_pos hk]
        cases r.lookup x with
        | some v => rfl
        | none => by_cases q : kindOf y = some .local <;> simp [q, hxy]
      · rw [if_neg hk, if_neg hk]
        split <;> simp [hxy]
theorem bindC_at (kindOf : Str → Option NameKind) (x : Str) : ∀ (binds : List (Str × Value)) (m : Str → Option Value), (binds.map (·.1)).Nodup → bindC kindOf binds m x = (if kindOf x = some .local then m x else (match binds.lookup x with | some v => some v | none => m x))
  | [], m, _ => by unfold bindC; split <;> rfl
  | (y, v) :: r, m, h => by
    obtain ⟨hy, hr⟩ := List.nodup_cons.mp h
    unfold bindC
    rw [bindC_at kindOf x r _ hr, List.lookup_cons]
    by_cases hxy : x = y
    · subst hxy
      have hno : r.lookup x = none := by
        cases hq : r.lookup x with
        | none => rfl
        | some v => exact absurd (List.mem_map_of_mem (f := (·.1)) (mem_of_lookup hq)) hy
      rw [beq_self_eq_true, hno]
      by_cases hk : kindOf x = some .local
      · rw [if_pos hk, if_pos hk, if_pos hk]
      · rw [if_neg hk, if_neg hk, if_neg hk]; simp
    · have hb : (x == y) = false := by simpa using hxy
      rw [hb]
      by_cases hk : kindOf x = some .local
      · rw [if_pos hk, if_pos hk]
        split <;> simp [hxy]
      · rw [if_neg hk, if_neg hk]
        cases r.lookup x with
        | some v => rfl
        | none => by_cases q : kindOf y = some .local <;> simp [q, hxy]

theorem zip_lookup {ρ : Loc} : ∀ {names : List Str} {as : List AV} {us : List Value} {x : Str}, VRels ρ as us → (∀ v, (names.zip as).lookup x = some v → ∃ u, (names.zip us).lookup x = some u ∧ VRel ρ v u) ∧ ((names.zip as).lookup x = none → (names.zip us).lookup x = none)
  | [], _, _, x, _ => ⟨fun v h => (by cases h), fun _ => rfl⟩
  | _ :: _, [], [], x, _ => ⟨fun v h => (by cases h), fun _ => rfl⟩
  | y :: names, a :: as, u :: us, x, q => by
    have ih := zip_lookup (names := names) (x := x) q.2
    rw [List.zip_cons_cons, List.zip_cons_cons, List.lookup_cons, List.lookup_cons]
    cases x == y with
    | true => exact ⟨fun v h => by cases h; exact ⟨u, rfl, q.1⟩, fun h => by cases h⟩
    | false => exact ih
  | _ :: _, [], _ :: _, _, q => q.elim
  | _ :: _, _ :: _, [], _, q => q.elim
theorem zip_names {α : Type} : ∀ {names : List Str} {as : List α}, as.length = names.length → (names.zip as).map (·.1) = names
  | [], _, _ => by simp
  | _ :: _, [], h => by simp at h
  | y :: names, a :: as, h => by
    rw [List.zip_cons_cons, List.map_cons, zip_names (by simpa using h)]
end Mine
end

section
open PySem PySem.W PyProof.Rows PySem.Calls
set_option maxRecDepth 100000
namespace Mine

/-- the ground holds the function -/
structure FnOK (K : Frag) (f : Addr) (F : Fn) : Prop where
  fd : ∃ oc od osl fd, K.lookup f = some ⟨oc, od, .func fd, osl⟩ ∧ fd.body = .stmts F.body ∧ fd.scope = F.scope ∧ fd.closure = [] ∧ fd.globals = mainGlobals ∧ fd.builtins = builtinsNs ∧ codeIn K fd.code fd.qualname = true
  co : F.scope.isCoroutine = false
  gen : F.scope.isGenerator = false
  kind : F.scope.kind = .function
  nd : (F.scope.names.map (·.1)).Nodup
  nn : F.names.Nodup
  ks : ∀ x ∈ F.names, F.scope.names.lookup x = some .local ∨ F.scope.names.lookup x = some .cell

def Binds (K : Frag) (s : Shared) (f : Addr) (args : Args) (binds : List (Str × Value)) : Prop :=
  ∀ fd oc od osl, K.lookup f = some ⟨oc, od, .func fd, osl⟩ → BindsTo s fd args binds

def CallS (prog : Program) (w : World) (K : Frag) (T : Addr → Option Fn) (n : Nat) : Prop := ∀ {c A ρ st s dep un f args us v st' cargs R}, Gnd K c.base → ARel c (dep + 1) (un + 10) A → Rel c ρ st s → VRels ρ args us →
  callF T n dep un st f args = some (v, st') → (∀ F, T f = some F → Binds K s f cargs (F.names.zip us)) →
  (∀ ρ' s' u, Ext ρ ρ' → Rel c ρ' st' s' → VRel ρ' v u → R (.ok (.ret u)) s') → codeAny (model prog w) A (.call (.ref f) cargs) R s

theorem cells_some (x : Str) : ∀ (names : List (Str × NameKind)) (n : Nat) (acc : List (Str × Addr)), (acc.lookup x).isSome = true ∨ names.lookup x = some .cell → ((cellsFrom n names acc).lookup x).isSome = true
  | [], _, _, h => h.elim id fun h => by cases h
  | (y, k) :: r, n, acc, h => by
    unfold cellsFrom
    split
    · refine cells_some x r _ _ ?_
      rw [List.lookup_cons]
      rw [List.lookup_cons] at h
      cases hb : x == y with
      | true => exact .inl rfl
      | false => rw [hb] at h; exact h
    · rename_i hk
      refine cells_some x r _ _ ?_
      rw [List.lookup_cons] at h
      cases hb : x == y with
      | true =>
        rw [hb] at h
        rcases h with h | h
        · exact .inl h
        · cases h; exact absurd rfl hk
      | false => rw [hb] at h; exact h

theorem filter_lookup (p : Str → Bool) (x : Str) : ∀ l : List (Str × AV), (l.filter fun q => p q.1).lookup x = if p x then l.lookup x else none
  | [] => by simp
  | (y, v) :: r => by
    have ih := filter_lookup p x r
    rw [List.filter_cons]
    by_cases hy : p y = true
    · rw [if_pos hy, List.lookup_cons, List.lookup_cons]
      cases hb : x == y with
      | true => rw [beq_iff_eq.mp hb, if_pos hy]
      | false => exact ih
    · rw [if_neg hy, ih, List.lookup_cons]
      cases hb : x == y with
      | true => rw [beq_iff_eq.mp hb, if_neg hy, if_neg hy]
      | false => rfl

section
variable {prog : Program} {w : World} {A : Around} {E : Value → Shared → Prop} {c : Cx} {ρ : Loc} {st st₁ st' : St} {s : Shared} {sc : Sc} {env : Env} {K : Frag} {T : Addr → Option Fn} {n : Nat}

theorem ARel.enter {dep un : Nat} {loc : List (Str × AV)} (a : ARel c (dep + 1) (un + 10) A) {L : Addr} (hk : env.scope.kind ≠ .module) (hf : env.frame = some L) : ARel (c.enter loc L) (dep + 3) (un + 20) (A.deeper env) := by
  obtain ⟨h1, h2, h3, fl, h4, h5⟩ := a
  refine ⟨h1, (by show A.depth + 1 ≤ dep + 3; omega), (by show A.units + 3 ≤ un + 20; omega), env :: fl, by show A.frames.map (env :: ·) = _; rw [h4]; rfl, fun e he => ?_⟩
  have hfas : (c.enter loc L).fas = L :: c.fas := rfl
  rcases List.mem_cons.mp he with rfl | he
  · exact ⟨hk, L, hf, by rw [hfas]; exact List.mem_cons_self⟩
  · obtain ⟨x, L', y, z⟩ := h5 e he
    exact ⟨x, L', y, by rw [hfas]; exact List.mem_cons_of_mem _ z⟩

theorem nodup_kind : ∀ {l : List (Str × NameKind)}, (l.map (·.1)).Nodup → ∀ {y : Str} {a b : NameKind}, (y, a) ∈ l → (y, b) ∈ l → a = b
  | p :: r, hn, y, a, b, ha, hb => by
    obtain ⟨hp, hr⟩ := List.nodup_cons.mp hn
    rcases List.mem_cons.mp ha with ha | ha <;> rcases List.mem_cons.mp hb with hb | hb
    · rw [← ha] at hb; cases hb; rfl
    · exact absurd (by rw [← ha]; exact List.mem_map_of_mem (f := (·.1)) hb) hp
    · exact absurd (by rw [← hb]; exact List.mem_map_of_mem (f := (·.1)) ha) hp
    · exact nodup_kind hr ha hb

/-- the frame of a call is laid: whatever the outer frame -/
theorem env_soundN {F : Fn} (cN : Addr → Cx) {args : List AV} {us : List Value} {qual : Str} {f : Addr} {code : Value} {B : Around} {Q : Env → Shared → Prop} (hkind : F.scope.kind = .function) (hnds : (F.scope.names.map (·.1)).Nodup) (hnn : F.names.Nodup)
    (hks : ∀ x ∈ F.names, F.scope.names.lookup x = some .local ∨ F.scope.names.lookup x = some .cell) (hlen : F.names.length = args.length) (hL : ∀ L, (cN L).L = L)
    (hent : ∀ (h₁ : Heap) (L : Addr) (loc' : List (Str × AV)), (∀ b o, s.heap.get? b = some o → h₁.get? b = some o) → s.heap.objs.size ≤ L → NsRel ρ h₁ L loc' → Rel (cN L) ρ { st with loc := loc' } { s with heap := h₁ })
    (hlt : ∀ i o, st.H i = some o → ρ.a i < s.heap.objs.size) (hbs : ∀ L, (cN L).base.objs.size ≤ s.heap.objs.size) (q : VRels ρ args us) (dep un : Nat)
    (h : ∀ (env : Env) (h₁ : Heap) (tk : Nat) (ρ' : Loc), Ext ρ ρ' → (∀ b o, s.heap.get? b = some o → h₁.get? b = some o) → env.frame = some env.locals → env.locals = s.heap.objs.size → env.scope = F.scope →
      SRel (cN env.locals) { scope := F.scope, cells := (layCells (F.names.zip args) F.scope.names st).2, dep := dep, un := un } ρ' env →
      Rel (cN env.locals) ρ' { (layCells (F.names.zip args) F.scope.names st).1 with loc := (F.names.zip args).filter fun p => F.scope.names.lookup p.1 == some .local } { s with heap := h₁, toks := tk } →
      Q env { s with heap := h₁, toks := tk }) :
    wpAny (model prog w) B (newFunctionEnv F.scope mainGlobals [] (F.names.zip us) qual (some f) code none builtinsNs) Q E s := by
  have hvlen : us.length = F.names.length := by rw [q.length]; exact hlen.symm
  refine wpAny_newFunctionEnv_cells hkind (fun x hx => ?_) fun env' he s' x => ?_
  · have hm : x.1 ∈ F.names := by
      have := List.mem_map_of_mem (f := (·.1)) hx
      rwa [zip_names hvlen] at this
    rcases hks x.1 hm with h1 | h1
    · exact .inl h1
    · exact .inr ⟨h1, cells_some x.1 _ _ _ (.inr h1)⟩
  have hsc : env'.scope = F.scope := by rw [he]; rfl
  have hL' : env'.locals = s.heap.objs.size := by rw [he]; rfl
  have hfr : env'.frame = some env'.locals := by rw [he]; rfl
  have hcl : env'.cells = cellsFrom (s.heap.objs.size + 1) F.scope.names [] := by rw [he]; rfl
  have hko : ∀ y, env'.kindOf y = F.scope.names.lookup y := fun y => by unfold Env.kindOf; rw [hsc]
  have hzn : ((F.names.zip us).map (·.1)).Nodup := by rw [zip_names hvlen]; exact hnn
  obtain ⟨h₁, tk, rfl, _⟩ := x.done
  have hk₁ := x.toInCall.keep
  -- the frame
  have N : NsRel ρ h₁ env'.locals ((F.names.zip args).filter fun p => F.scope.names.lookup p.1 == some .local) := by
    refine ⟨_, x.toInCall.ns, fun y v hy => ?_⟩
    rw [filter_lookup (fun z => F.scope.names.lookup z == some .local)] at hy
    split at hy
    · rename_i hloc
      obtain ⟨u, hu, r⟩ := (zip_lookup (names := F.names) (x := y) q).1 v hy
      exact ⟨u, by rw [bindL_at _ _ _ _ hzn, hko, if_pos (beq_iff_eq.mp hloc), hu], r⟩
    · cases hy
  have R₁ := (hent h₁ env'.locals _ hk₁ (by rw [hL']; exact Nat.le_refl _) N).toks tk
  -- the cells
  obtain ⟨ρ', E₁, R₂, hcells⟩ := lay_rel (bs := F.names.zip args) x.cell F.scope.names (s.heap.objs.size + 1) [] ρ _ R₁
    (fun i o e => Nat.lt_succ_of_lt (hlt i o e)) (Nat.le_succ_of_le (hbs _)) hnds hcl.symm (fun ρ' e y hy => by
      have hyk : F.scope.names.lookup y = some .cell := by
        cases hq : F.scope.names.lookup y with
        | none =>
          exfalso
          have := List.lookup_eq_none_iff.mp hq _ hy
          simp at this
        | some k => rw [nodup_kind hnds (mem_of_lookup hq) hy]
      rw [bindC_at _ _ _ _ hzn, hko, hyk, if_neg (by simp)]
      have z := zip_lookup (names := F.names) (x := y) (q.ext e)
      cases hq : (F.names.zip args).lookup y with
      | none => rw [z.2 hq]; trivial
      | some v =>
        obtain ⟨u, hu, r⟩ := z.1 v hq
        rw [hu]; exact r)
  rw [layCells_loc] at R₂ hcells
  exact h env' h₁ tk ρ' E₁ hk₁ hfr hL' hsc ⟨hsc, hkind, (hL _).symm, (by rw [he]; rfl), (by rw [he]; rfl), hcells⟩ R₂

/-- the frame of a call is laid -/
theorem env_sound {F : Fn} {args : List AV} {us : List Value} {qual : Str} {f : Addr} {code : Value} {B : Around} {Q : Env → Shared → Prop} (hkind : F.scope.kind = .function) (hnds : (F.scope.names.map (·.1)).Nodup) (hnn : F.names.Nodup)
    (hks : ∀ x ∈ F.names, F.scope.names.lookup x = some .local ∨ F.scope.names.lookup x = some .cell) (hlen : F.names.length = args.length) (R : Rel c ρ st s) (q : VRels ρ args us) (dep un : Nat)
    (h : ∀ (env : Env) (h₁ : Heap) (tk : Nat) (ρ' : Loc), Ext ρ ρ' → (∀ b o, s.heap.get? b = some o → h₁.get? b = some o) → env.frame = some env.locals → env.locals = s.heap.objs.size → env.scope = F.scope →
      SRel (c.enter st.loc env.locals) { scope := F.scope, cells := (layCells (F.names.zip args) F.scope.names st).2, dep := dep, un := un } ρ' env →
      Rel (c.enter st.loc env.locals) ρ' { (layCells (F.names.zip args) F.scope.names st).1 with loc := (F.names.zip args).filter fun p => F.scope.names.lookup p.1 == some .local } { s with heap := h₁, toks := tk } →
      Q env { s with heap := h₁, toks := tk }) :
    wpAny (model prog w) B (newFunctionEnv F.scope mainGlobals [] (F.names.zip us) qual (some f) code none builtinsNs) Q E s :=
  env_soundN (fun L => c.enter st.loc L) hkind hnds hnn hks hlen (fun _ => rfl) (fun h₁ L loc' hk hL hn => R.enter hk hL hn) (fun i o e => (R.obj i o e).2.2.lt) (fun _ => R.lt_base) q dep un h

/-- a call of an own function, as far as its body -/
theorem enter_sound {F : Fn} {f : Addr} {args : List AV} {us : List Value} {cargs : Args} {R : Result → Shared → Prop} {dep un : Nat} (OK : FnOK K f F) (G : Gnd K c.base) (a : ARel c (dep + 1) (un + 10) A) (hdep : dep < 800) (hun : un < 9000) (Rl : Rel c ρ st s) (q : VRels ρ args us)
    (hlen : F.names.length = args.length) (hb : Binds K s f cargs (F.names.zip us))
    (h : ∀ (env : Env) (ρ' : Loc) (s' : Shared), Ext ρ ρ' → Top (A.deeper env) env → Ctxt K (c.enter st.loc env.locals) { scope := F.scope, cells := (layCells (F.names.zip args) F.scope.names st).2, dep := dep + 3, un := un + 20 } (A.deeper env) →
      SRel (c.enter st.loc env.locals) { scope := F.scope, cells := (layCells (F.names.zip args) F.scope.names st).2, dep := dep + 3, un := un + 20 } ρ' env →
      Rel (c.enter st.loc env.locals) ρ' { (layCells (F.names.zip args) F.scope.names st).1 with loc := (F.names.zip args).filter fun p => F.scope.names.lookup p.1 == some .local } s' →
      ∀ E, wpAny (model prog w) (A.deeper env) (execs F.body env) (fun f s' => R (.ok (.ret (match f with | .ret v => v | _ => .none))) s') E s') : codeAny (model prog w) A (.call (.ref f) cargs) R s := by
  obtain ⟨oc, od, osl, fd, hl, hbody, hscope, hclo, hglob, hbi, hcode⟩ := OK.fd
  have B := hb fd oc od osl hl
  have X := Rl.K_in G
  have hrl : recursionLimit = 1000 := rfl
  refine codeAny_call_function (by have := a.depth; omega) (X _ _ hl) rfl (by rw [hscope]; exact OK.co) (by rw [hscope]; exact OK.gen) hbody (codeRec_of X hcode) (B _ _ _ _ ?_)
  rw [hscope, hglob, hclo, hbi]
  refine env_sound OK.kind OK.nd OK.nn OK.ks hlen Rl q (dep + 3) (un + 20) fun env' h₁ tk ρ' E₁ hk₁ hfr hL hsc S R₂ => ?_
  refine ⟨(G.lim.keeps Rl.keep).keeps hk₁, codeAny_func ?_⟩
  have A' : ARel (c.enter st.loc env'.locals) (dep + 3) (un + 20) (A.deeper env') := a.enter (by rw [hsc, OK.kind]; decide) hfr
  obtain ⟨fl, hfl, _⟩ := a.frames
  exact h env' ρ' _ E₁ ⟨⟨fl, by show A.frames.map (env' :: ·) = _; rw [hfl]; rfl⟩, hfr⟩ ⟨G, A', (by show dep + 3 ≤ 900; omega), (by show un + 20 ≤ 9400; omega)⟩ S R₂ _

theorem call_sound (HT : ∀ f F, T f = some F → f ≠ 98 → FnOK K f F) (is : ExsS prog w K T n) : CallS prog w K T (n + 1) := by
  intro c A ρ st s dep un f args us v st' cargs R G a Rl q h hb k
  simp only [callF] at h
  cases hF : T f with
  | none => rw [hF] at h; cases h
  | some F =>
    rw [hF] at h
    dsimp only at h
    split at h
    · rename_i hc
      obtain ⟨hlen, hnd, hdep, hun, hne⟩ := hc
      obtain ⟨⟨fl, st₂⟩, hx, hres⟩ := bind_some h
      clear h
      refine enter_sound (HT f F hF hne) G a hdep hun Rl q hlen (hb F hF) fun env ρ' s' E₁ tp X S R₂ E' => ?_
      refine is tp X S R₂ hx _ _ fun ρ'' s'' u e'' R'' fr => ?_
      have R₃ := R''.leave
      cases fr with
      | next => cases hres; exact k _ _ _ (E₁.trans e'') R₃ rfl
      | brk => cases hres
      | ret r => cases hres; exact k _ _ _ (E₁.trans e'') R₃ r
    · cases h
end
end Mine
end

section
open PySem PySem.W PyProof.Rows PySem.Calls
set_option maxRecDepth 100000
namespace Mine

def initOf (C fI : Addr) : Prop := (C = 101 ∧ fI = 35) ∨ (C = 193 ∧ fI = 113) ∨ (C = 238 ∧ fI = 212)
/-- more of the ground: making, and how arguments are bound -/
structure KMk (K : Frag) (T : Addr → Option Fn) : Prop where
  mkc : ∀ C fI, initOf C fI → makesIn K C = true ∧ findIn K (.ref C) "__init__" = some (some (.ref fI)) ∧ typeIn K (.ref fI) = some (.type "function") ∧ keepIn K (.ref C) = true
  keep247 : keepIn K (.ref 247) = true
  ga193 : specialIn K (.ref 193) "__getattribute__" = some (some (.builtin "type.__getattribute__"))
  list193 : ∃ mc, typeIn K (.ref 193) = some mc ∧ readsIn K 193 mc = true ∧ findCls K (.ref 193) mc "List" = some (.val (.ref 101))
  fn : ∀ f F, T f = some F → f ≠ 98 → FnOK K f F
  pos : ∀ f F, T f = some F → f ≠ 98 → ∀ (us : List Value) (s : Shared), K.In s.heap → us.length = F.names.length → Binds K s f ⟨us, []⟩ (F.names.zip us)
  b113 : ∀ F, T 113 = some F → ∀ (a b c : Value) (s : Shared), K.In s.heap → Binds K s 113 ⟨[a], [("next_attr_name", b), ("prev_attr_name", c)]⟩ (F.names.zip [a, b, c])
  b212 : ∀ F, T 212 = some F → ∀ (a b : Value) (s : Shared), K.In s.heap → Binds K s 212 ⟨[a, b], []⟩ (F.names.zip [a, b, .bool false])

section
variable {prog : Program} {w : World} {A : Around} {E : Value → Shared → Prop} {c : Cx} {ρ : Loc} {st st₁ st' : St} {s : Shared} {sc : Sc} {env : Env} {K : Frag} {T : Addr → Option Fn} {n : Nat}

theorem Ctxt.a10 (X : Ctxt K c sc A) : ARel c (sc.dep + 1) (sc.un + 10) A := ⟨X.A.handled, Nat.le_succ_of_le X.A.depth, Nat.le_trans X.A.units (by omega), X.A.frames⟩
theorem Ctxt.a10_in1 (X : Ctxt K c sc A) : ARel c (sc.dep + 1) (sc.un + 10) A.in1 :=
  ⟨X.A.handled, Nat.le_succ_of_le X.A.depth, (by have := X.A.units; show A.units + 1 ≤ sc.un + 10; omega), X.A.frames⟩
theorem Ctxt.a10_make (X : Ctxt K c sc A) {C : Addr} {vals : List Value} {kw : List (Str × Value)} : ARel c (sc.dep + 1) (sc.un + 10) (A.under (.builtin "type.__call__" ⟨.ref C :: vals, kw⟩)) :=
  ⟨X.A.handled, (by rw [depth_under_kw]; have := X.A.depth; omega), (by have := X.A.units; show A.units + 1 ≤ sc.un + 10; omega), X.A.frames⟩

theorem attributeBase_plain {o : Expr} {x : Str} {whole : Sem Value} (h : isCall o = false) : attributeBase o x env whole = whole := by
  cases o <;> first | rfl | cases h

theorem evs_head {e : Expr} {r : List Expr} {z : List AV × St} (h : evs T n sc st (e :: r) = some z) : starEach (e :: r) env = (false, eval e env) :: starEach r env := by
  cases n with
  | zero => simp [evs] at h
  | succ n =>
    simp only [evs] at h
    obtain ⟨⟨a, st₁⟩, h1, h⟩ := bind_some h
    cases e <;> first | rfl | (exfalso; clear h; cases n <;> simp [ev] at h1)
theorem evs_tail {e : Expr} {r : List Expr} {z : List AV × St} (h : evs T n sc st (e :: r) = some z) : ∃ m st₁ z', evs T m sc st₁ r = some z' := by
  cases n with
  | zero => simp [evs] at h
  | succ n =>
    simp only [evs] at h
    obtain ⟨⟨a, st₁⟩, h1, h⟩ := bind_some h
    obtain ⟨⟨b, st₂⟩, h2, h⟩ := bind_some h
    exact ⟨n, st₁, _, h2⟩
theorem evs_plain {pos : Pos} : ∀ {es : List Expr} {n : Nat} {st : St} {z : List AV × St}, evs T n sc st es = some z → (backTo pos (starEach es env)).any (·.1) = false
  | [], _, _, _, _ => rfl
  | e :: r, n, st, z, h => by
    rw [evs_head h]
    obtain ⟨m, st₁, z', h'⟩ := evs_tail h
    show (false || (backTo pos (starEach r env)).any (·.1)) = false
    rw [evs_plain h']; rfl

theorem callF_len {dep un : Nat} {f : Addr} {args : List AV} {z : AV × St} {F : Fn} (h : callF T n dep un st f args = some z) (hF : T f = some F) : F.names.length = args.length := by
  cases n with
  | zero => simp [callF] at h
  | succ n =>
    simp only [callF, hF] at h
    split at h
    · rename_i hc; exact hc.1
    · cases h
theorem callF_ne {dep un : Nat} {f : Addr} {args : List AV} {z : AV × St} (h : callF T n dep un st f args = some z) : f ≠ 98 := by
  cases n with
  | zero => simp [callF] at h
  | succ n =>
    simp only [callF] at h
    split at h
    · cases h
    · split at h
      · rename_i hc; exact hc.2.2.2.2
      · cases h
/-- a call by place, with the values there -/
theorem callPos {f : Addr} {args : List AV} {us : List Value} {v : AV} {Q : Value → Shared → Prop} (KM : KMk K T) (ic : CallS prog w K T n) (G : Gnd K c.base) {dep un : Nat} (a : ARel c (dep + 1) (un + 10) A) (R : Rel c ρ st s) (q : VRels ρ args us)
    (h : callF T n dep un st f args = some (v, st')) (k : ∀ ρ' s' u, Ext ρ ρ' → Rel c ρ' st' s' → VRel ρ' v u → Q u s') : wpAny (model prog w) A (call (.ref f) us) Q E s :=
  wpAny_call (ic G a R q h (fun F hF => KM.pos f F hF (callF_ne h) us s (R.K_in G) (by rw [callF_len h hF]; exact q.length)) k)

/-- arguments by place -/
theorem callArgs {f : Value} {first : List Value} {as : List Expr} {vs : List AV} {pos : Pos} {Q : Value → Shared → Prop} (is : EvsS prog w K T n) (X : Ctxt K c sc A) (S : SRel c sc ρ env) (R : Rel c ρ st s) (h1 : evs T n sc st as = some (vs, st₁))
    (hk : ∀ h, K.In h → ∃ k, (k = Keeper.frame ∨ k = Keeper.machine ∨ k = Keeper.boundFrame) ∧ Looks (model prog w) h (keeperOf f) k)
    (k : ∀ ρ' s' us, Ext ρ ρ' → Rel c ρ' st₁ s' → VRels ρ' vs us → wpAny (model prog w) A (call f (first ++ us)) Q E s') :
    wpAny (model prog w) A (callWith pos f first (backTo pos (starEach as env)) []) Q E s := by
  refine callWith_of (by rw [evs_plain h1]; rfl) hk ?_
  have go := is (pos := pos) X S R h1 (fun us s' => K.In s'.heap ∧ wpAny (model prog w) A (call f (first ++ us)) Q E s') E fun ρ' s' us e R' r => ⟨R'.K_in X.G, k ρ' s' us e R' r⟩
  cases as with
  | nil =>
    refine evalArgs_nil3 ?_
    cases n with
    | zero => simp [evs] at h1
    | succ n =>
      simp only [evs] at h1
      cases h1
      exact ⟨R.K_in X.G, k ρ s [] (Ext.refl _) R trivial⟩
  | cons e r =>
    have he := evs_head (env := env) h1
    rw [he] at go ⊢
    exact evalArgs_plain go

theorem keeper_builtin {M : Model} {i : String} (h : Heap) (_ : K.In h) : ∃ k, (k = Keeper.frame ∨ k = Keeper.machine ∨ k = Keeper.boundFrame) ∧ Looks M h (keeperOf (.builtin i)) k := ⟨.machine, .inr (.inl rfl), Looks.of_pure rfl⟩
theorem keeper_type {M : Model} {i : String} (h : Heap) (_ : K.In h) : ∃ k, (k = Keeper.frame ∨ k = Keeper.machine ∨ k = Keeper.boundFrame) ∧ Looks M h (keeperOf (.type i)) k := ⟨.machine, .inr (.inl rfl), Looks.of_pure rfl⟩

theorem ev_Attribute_sound {o : Expr} {x : Str} {pos : Pos} {v : AV} (KK : KOK K) (KM : KMk K T) (ih : EvS prog w K T n) (ic : CallS prog w K T n) (X : Ctxt K c sc A) (S : SRel c sc ρ env) (R : Rel c ρ st s)
    (h : ev T (n + 1) sc st (.Attribute o x pos) = some (v, st')) : Gets (model prog w) A c ρ st' (fun ρ' u => VRel ρ' v u) (eval (.Attribute o x pos) env) s := by
  simp only [ev] at h
  split at h
  · cases h
  rename_i hic
  obtain ⟨⟨a, st₁⟩, h1, hA⟩ := bind_some h
  clear h
  rw [arm_eval_Attribute, attributeBase_plain (by simpa using hic)]
  refine (ih X S R h1).bind fun ρ' s' u e R' ra => ?_
  dsimp only at hA
  split at hA
  · rename_i i
    obtain ⟨hin, rfl⟩ := ra
    refine Gets.standAt ?_
    split at hA
    · rename_i C F hi
      split at hA
      · rename_i hx
        obtain ⟨rfl, rfl⟩ := hx
        obtain ⟨⟨v', st₂⟩, h2, hB⟩ := bind_some hA
        dsimp only at hB
        split at hB
        · rename_i ht
          cases hB
          intro Q E k
          obtain ⟨es, m, I, q, _⟩ := R'.inst hi
          obtain ⟨m', F₀⟩ := R'.fr₀
          obtain ⟨p, rest, p1, p2, p3, p4⟩ := KK.pr
          refine wpAny_bind (wpAny_holding (get_prop F₀ X.G.inK I (KK.pg _ _ (.inr (.inr rfl))) (KK.hd _ (.inr (.inr rfl))) p1 p2 p3 p4 ?_))
          have q1 : VRels ρ' [AV.obj i] [.ref (ρ'.a i)] := ⟨⟨hin, rfl⟩, trivial⟩
          refine ic (c := c) (us := [.ref (ρ'.a i)]) (s := { s' with toks := s'.toks + 1 }) X.G X.a10_in1 (R'.toks _) q1 h2 (fun F₁ hF₁ => KM.pos _ F₁ hF₁ (by decide) _ _ (R'.K_in X.G) (by rw [callF_len h2 hF₁]; rfl)) fun ρ'' s'' u' e' R'' r => ?_
          show wpAny _ _ (handedOut u') _ _ s''
          rw [handedOut_of (handed r ht)]
          exact wpAny_pure (wpAny_bind (wpAny_letTemporaryGo (wpAny_pure (k _ _ _ e' R'' r))))
        · cases hB
      · split at hA
        · rename_i hx
          obtain ⟨v', h2, hB⟩ := bind_some hA
          split at hB
          · rename_i ht
            cases hB
            have hC : own C := by rcases hx with ⟨h, _⟩ | ⟨h, _⟩; exact .inl h; exact .inr (.inr h)
            have hf : fld x := by rcases hx with ⟨_, h | h⟩ | ⟨_, h⟩ <;> subst h <;> simp [fld]
            exact (field_sound X.G KK R' hi hC hf h2 ht).holding.bind fun ρ'' s'' u' e' R'' r => Gets.letGo (Gets.pure R'' r)
          · cases hB
        · cases hA
    · cases hA
  · cases hA
end
end Mine
end

section
open PySem PySem.W PyProof.Rows PySem.Calls
set_option maxRecDepth 100000
namespace Mine

theorem meth_own {C : Addr} {x : Str} {f : Addr} (h : meth C x = some f) : own C := by
  unfold meth at h
  split at h
  · rename_i e; exact .inr (.inl e)
  · split at h
    · rename_i e; exact .inl e
    · cases h

section
variable {prog : Program} {w : World} {A : Around} {E : Value → Shared → Prop} {c : Cx} {ρ : Loc} {st st₁ st' : St} {s : Shared} {sc : Sc} {env : Env} {K : Frag} {T : Addr → Option Fn} {n : Nat}

/-- a new object, empty as yet -/
theorem Rel.newInst (R : Rel c ρ st s) (C : Addr) :
    Ext ρ (ρ.add (s.heap.objs.size + 1) s.heap.objs.size) ∧ Rel c (ρ.add (s.heap.objs.size + 1) s.heap.objs.size) (st.add (.inst C [])) { s with heap := (s.heap.push emptyDict).push (instObj C s.heap.objs.size) } ∧
      VRel (ρ.add (s.heap.objs.size + 1) s.heap.objs.size) (.obj st.n) (.ref (s.heap.objs.size + 1)) := by
  have E := ρ.add_ext (s.heap.objs.size + 1) s.heap.objs.size
  refine ⟨E, R.add (fun b o e => Heap.get?_push_of_some _ (Heap.get?_push_of_some _ e)) (Nat.le_succ _) (Nat.le_refl _) ?_, ?_⟩
  · refine ⟨?_, [], 0, ?_, trivial⟩
    · rw [Loc.add_a, Loc.add_d]
      exact (by rw [← Heap.size_push s.heap emptyDict]; exact Heap.get?_push_size _ rfl)
    · rw [Loc.add_d]
      exact Heap.get?_push_of_some _ (Heap.get?_push_size _ rfl)
  · exact ⟨by rw [← R.n]; exact Nat.lt_succ_self _, by rw [← R.n, Loc.add_a]⟩

/-- an object is made -/
theorem make_sound {C fI : Addr} {us : List Value} {kw : List (Str × Value)} {r v : AV} {st₂ : St} {Q : Value → Shared → Prop} (KM : KMk K T) (ic : CallS prog w K T n) (X : Ctxt K c sc A) (R : Rel c ρ st s) (hC : initOf C fI)
    {args : List AV} {ua : List Value} (q : ∀ ρ', Ext ρ ρ' → VRels ρ' args ua) (h : callF T n sc.dep sc.un (st.add (.inst C [])) fI (.obj st.n :: args) = some (r, st₂)) (hr : madeRes st.n (r, st₂) = some (v, st'))
    (hb : ∀ F, T fI = some F → ∀ (x : Value) (s' : Shared), K.In s'.heap → Binds K s' fI ⟨x :: us, kw⟩ (F.names.zip (x :: ua)))
    (k : ∀ ρ' s' u, Ext ρ ρ' → Rel c ρ' st' s' → VRel ρ' v u → Q u s') : wpAny (model prog w) A (call (.ref C) us kw) Q E s := by
  obtain ⟨m1, m2, m3, m4⟩ := KM.mkc C fI hC
  obtain ⟨E₁, R₁, r₁⟩ := R.newInst C
  have X₀ := R.K_in X.G
  cases r <;> simp only [madeRes] at hr <;> cases hr
  refine wpAny_call ?_
  obtain ⟨hh, g, d, t, os⟩ := s
  refine make_core (makes_of X₀ m1) (looks_findIn X₀ m2) (fun self => bind_fn X₀ self m3) (.inl rfl) ?_
  have q1 : VRels (ρ.add (hh.objs.size + 1) hh.objs.size) (.obj st.n :: args) (.ref (hh.objs.size + 1) :: ua) := ⟨r₁, q _ E₁⟩
  refine ic (c := c) X.G X.a10_make R₁ q1 h (fun F hF => hb F hF _ _ (R₁.K_in X.G)) fun ρ' s' u e R' r' => ?_
  cases r'
  refine ⟨rfl, k _ _ _ (E₁.trans e) R' ?_⟩
  exact VRel.ext e r₁

theorem ev_CallM_sound {o : Expr} {x : Str} {apos pos : Pos} {as : List Expr} {v : AV} (KK : KOK K) (KM : KMk K T) (ih : EvS prog w K T n) (is : EvsS prog w K T n) (ic : CallS prog w K T n) (X : Ctxt K c sc A) (S : SRel c sc ρ env) (R : Rel c ρ st s)
    (h : ev T (n + 1) sc st (.Call (.Attribute o x apos) as [] pos) = some (v, st')) : Gets (model prog w) A c ρ st' (fun ρ' u => VRel ρ' v u) (eval (.Call (.Attribute o x apos) as [] pos) env) s := by
  simp only [ev] at h
  split at h
  · cases h
  rename_i hcond
  have hic : isCall o = false := by
    cases hq : isCall o with
    | false => rfl
    | true => exact absurd (.inl hq) hcond
  have hlen : as.length < 20 := by
    apply Nat.lt_of_not_le
    intro hq
    exact hcond (.inr (.inl hq))
  have hpos : apos.endLine = pos.line := by
    apply Decidable.byContradiction
    intro hq
    exact hcond (.inr (.inr hq))
  -- the shape of a method's call
  have shape : ∀ {st₀ st₁ : St} {z : List AV × St} {m : Nat}, evs T m sc st₀ as = some z → ∀ {a : AV}, Gets (model prog w) A c ρ st₁ (fun ρ' u => VRel ρ' a u) (eval o env) s →
      (∀ ρ' s' u Q E, Ext ρ ρ' → Rel c ρ' st₁ s' → VRel ρ' a u → (∀ ρ'' s'' u, Ext ρ' ρ'' → Rel c ρ'' st' s'' → VRel ρ'' v u → Q u s'') →
        wpAny (model prog w) A (getMethod u x (do return (← importBound o env).getD true)) (fun fx s₂ => wpAny (model prog w) A (callWith pos fx.1 fx.2 (backTo pos (starEach as env)) []) Q E s₂) E s') →
      Gets (model prog w) A c ρ st' (fun ρ' u => VRel ρ' v u) (eval (.Call (.Attribute o x apos) as [] pos) env) s := by
    intro st₀ st₁ z m hz a h1 go Q E k
    rw [arm_eval_Call, attributeBase_plain hic]
    refine wpAny_bind (h1 _ _ fun ρ' s' u e R' ra => wpAny_bind (wpAny_standAt ?_))
    unfold methodCall
    have hf : methodCallForm (as.length + 0) (backTo pos (starEach as env)) [] = true := by
      unfold methodCallForm
      have hp := evs_plain (env := env) (pos := pos) hz
      have : (backTo pos (starEach as env)).all (fun x => !x.1) = true := by
        rw [List.all_eq_true]
        intro p hp'
        cases hq : p.1 with
        | false => rfl
        | true =>
          have := List.any_eq_false.mp hp p hp'
          exact absurd hq this
      rw [this]
      simp
      omega
    show wpAny _ _ (holding [u] (calleeOf (methodCallForm (as.length + 0) (backTo pos (starEach as env)) []) o env u x) >>= _) _ _ s'
    rw [hf]
    refine wpAny_bind (wpAny_holding (wpAny_mono (go ρ' s' u Q E e R' ra fun ρ'' s'' u' e' R'' r'' => k _ _ _ (e.trans e') R'' r'') (fun fx s₂ z => ?_) fun _ _ z => z))
    have hp : methodCallPos true o env apos pos = Pure.pure pos := by
      unfold methodCallPos
      rw [if_pos (by rw [hpos]; simp)]
    obtain ⟨f, first⟩ := fx
    show wpAny _ _ (methodCallPos (methodCallForm (as.length + 0) (backTo pos (starEach as env)) []) o env apos pos >>= _) _ _ s₂
    rw [hf, hp]
    exact wpAny_bind (wpAny_pure z)
  -- a method of an object, or of a list
  have usual : ((ev T n sc st o).bind fun (a, st) => (match a with
            | .obj i => (match st.H i with
                | some (.inst C F) => (match meth C x with
                    | some f => if (F.lookup x).isSome then none else (evs T n sc st as).bind fun (vs, st) => callF T n sc.dep sc.un st f (a :: vs)
                    | none => none)
                | some (.list xs) => if x = "append" then (evs T n sc st as).bind fun (vs, st) => (match vs, st.H i with
                    | [v], some (.list xs) => if xs.length < 1000 then some (.none, { st with H := upd st.H i (.list (xs ++ [v])) }) else none
                    | _, _ => none) else none
                | _ => none)
            | _ => none)) = some (v, st') → Gets (model prog w) A c ρ st' (fun ρ' u => VRel ρ' v u) (eval (.Call (.Attribute o x apos) as [] pos) env) s := by
    intro h
    obtain ⟨⟨a, st₁⟩, h1, hA⟩ := bind_some h
    clear h
    dsimp only at hA
    split at hA
    · rename_i i
      split at hA
      · rename_i C F hi
        split at hA
        · rename_i f hm
          split at hA
          · cases hA
          rename_i hF
          obtain ⟨⟨vs, st₂⟩, h2, hB⟩ := bind_some hA
          dsimp only at hB
          refine shape h2 (ih X S R h1) fun ρ' s' u Q E e R' ra k => ?_
          obtain ⟨hin, rfl⟩ := ra
          have hno : F.lookup x = none := Option.not_isSome_iff_eq_none.mp hF
          have hown := meth_own hm
          refine method_sound X.G KK R' hi hown hm hno ?_
          refine callArgs is X (S.ext e) R' h2 (keeps_K (KK.me C x f hm).2.2) fun ρ'' s'' us e' R'' q => ?_
          have q' : VRels ρ'' (.obj i :: vs) (.ref (ρ'.a i) :: us) := ⟨VRel.ext e' (show VRel ρ' (.obj i) _ from ⟨hin, rfl⟩), q⟩
          exact callPos KM ic X.G X.a10 R'' q' hB fun ρ₃ s₃ u₃ e₃ R₃ r₃ => k _ _ _ (e'.trans e₃) R₃ r₃
        · cases hA
      · rename_i xs hi
        split at hA
        · rename_i hx
          subst hx
          obtain ⟨⟨vs, st₂⟩, h2, hB⟩ := bind_some hA
          dsimp only at hB
          refine shape h2 (ih X S R h1) fun ρ' s' u Q E e R' ra k => ?_
          obtain ⟨hin, rfl⟩ := ra
          obtain ⟨_, _, ws, ⟨oo, ho, nn, rfl⟩, q⟩ := R'.obj _ _ hi
          refine getMethod_list_append ho rfl rfl ?_
          refine callArgs is X (S.ext e) R' h2 keeper_builtin fun ρ'' s'' us e' R'' q => ?_
          split at hB
          · rename_i v' xs' hi'
            split at hB
            · rename_i hl
              cases hB
              have q := q
              match us, q with
              | [u'], ⟨r', _⟩ =>
                obtain ⟨_, _, ws', hls, q''⟩ := R''.obj _ _ hi'
                have ea : ρ''.a i = ρ'.a i := (e'.2 i hin).1
                rw [ea] at hls
                have hpl := hls.plain
                refine wpAny_list_append_plain hpl (fun h' hp' hs' => k _ _ _ e' ?_ rfl) (fits1000 (by rw [List.size_toArray, q''.length]; exact hl))
                obtain ⟨oo', ho', _, _⟩ := hls
                have hls' : IsLs h' (ρ'.a i) (ws' ++ [u']) := IsLs.of (by simpa using hp')
                refine R''.setObj hi' (by rw [ea]; exact hs') (by rw [ea]; exact hpl.choose_spec) (fun _ z => by cases z) (fun _ _ z => by cases z) (fun _ _ z => by cases z) (fun _ z => by cases z) ⟨ws' ++ [u'], by rw [ea]; exact hls', q''.append ⟨r', trivial⟩⟩
            · cases hB
          · cases hB
        · cases hA
      · cases hA
    · cases hA
  split at h
  · rename_i hx
    obtain ⟨vv, h1, hA⟩ := bind_some h
    clear h usual
    split at hA
    · obtain ⟨⟨vs, st₂⟩, h2, hB⟩ := bind_some hA
      clear hA
      dsimp only at hB
      split at hB
      · rename_i a
        obtain ⟨⟨r, st₃⟩, h3, h4⟩ := bind_some hB
        clear hB
        have hx' := beq_iff_eq.mp hx
        subst hx'
        have hev : ∀ pos', Gets (model prog w) A c ρ st (fun ρ' u => VRel ρ' (.raw (.ref 193)) u) (eval (.Name _ pos') env) s := fun pos' Q E k => by
          obtain ⟨u₁, r₁, hu₁⟩ := name_sound (M := model prog w) (A := A) (E := E) (pos := pos') X.G S R h1
          cases r₁
          exact hu₁ Q (k _ _ _ (Ext.refl _) R rfl)
        refine shape h2 (hev _) fun ρ' s' u Q E e R' ra k => ?_
        cases ra
        obtain ⟨m', F₀⟩ := R'.fr₀
        obtain ⟨mc, l1, l2, l3⟩ := KM.list193
        refine method_of_cls F₀ X.G.inK KM.ga193 (cls_val F₀ X.G.inK l1 l2 l3 rfl ?_)
        refine callArgs is X (S.ext e) (R'.toks _) h2 (keeps_K (KM.mkc 101 35 (.inl ⟨rfl, rfl⟩)).2.2.2) fun ρ'' s'' us e' R'' q => ?_
        refine make_sound KM ic X R'' (.inl ⟨rfl, rfl⟩) (fun ρ₃ e₃ => VRels.ext e₃ q) h3 h4 (fun F hF xx s₃ X₃ => KM.pos 35 F hF (by decide) _ s₃ X₃ (by rw [callF_len h3 hF]; show us.length + 1 = [a].length + 1; rw [VRels.length q])) fun ρ₃ s₃ u e₃ R₃ r₃ => k _ _ _ (e'.trans e₃) R₃ r₃
      · cases hB
    · cases hA
  · exact usual h

theorem ev_CallN_sound {f : Str} {np pos : Pos} {as : List Expr} {kws : List Keyword} {v : AV} (KK : KOK K) (KM : KMk K T) (ih : EvS prog w K T n) (is : EvsS prog w K T n) (ic : CallS prog w K T n) (X : Ctxt K c sc A) (S : SRel c sc ρ env) (R : Rel c ρ st s)
    (h : ev T (n + 1) sc st (.Call (.Name f np) as kws pos) = some (v, st')) : Gets (model prog w) A c ρ st' (fun ρ' u => VRel ρ' v u) (eval (.Call (.Name f np) as kws pos) env) s := by
  simp only [ev] at h
  obtain ⟨fv, h1, hA⟩ := bind_some h
  clear h
  intro Q E k
  refine wpAny_Call_ofName ?_
  split at hA
  · -- range
    split at hA
    · rename_i hx
      obtain ⟨rfl, rfl⟩ := hx
      obtain ⟨⟨vs, st₂⟩, h2, hB⟩ := bind_some hA
      dsimp only at hB
      obtain ⟨u₁, r₁, hu₁⟩ := name_sound (M := model prog w) (A := A) (E := E) (pos := np) X.G S R h1
      cases r₁
      refine hu₁ _ (callArgs is X S R h2 keeper_type fun ρ' s' us e R' q => ?_)
      split at hB
      · rename_i kk
        split at hB
        · rename_i hk
          cases hB
          match us, q with
          | [u], ⟨⟨t, ht⟩, _⟩ =>
            subst ht
            refine call_range_1 ?_
            have E₁ := ρ'.add_ext s'.heap.objs.size s'.heap.objs.size
            refine k _ _ _ (e.trans E₁) ((R'.add (h' := s'.heap.push { cls := .type "range", data := .fields #[.int 0 s'.toks, .int kk t, .int 1 (s'.toks + 1)] }) (o := .range kk) (fun b o e => Heap.get?_push_of_some _ e) (Nat.le_refl _) (Nat.le_refl _) ?_).toks _) ?_
            · refine ⟨s'.toks, t, s'.toks + 1, ?_⟩
              rw [Loc.add_a]
              exact IsRange.new ..
            · exact ⟨by rw [← R'.n]; exact Nat.lt_succ_self _, by rw [← R'.n, Loc.add_a]⟩
        · cases hB
      · cases hB
    · cases hA
  · -- len
    split at hA
    · rename_i hx
      obtain ⟨rfl, rfl⟩ := hx
      obtain ⟨⟨vs, st₂⟩, h2, hB⟩ := bind_some hA
      dsimp only at hB
      obtain ⟨u₁, r₁, hu₁⟩ := name_sound (M := model prog w) (A := A) (E := E) (pos := np) X.G S R h1
      cases r₁
      refine hu₁ _ (callArgs is X S R h2 keeper_builtin fun ρ' s' us e R' q => ?_)
      split at hB
      · rename_i i
        split at hB
        · rename_i xs hi
          split at hB
          · rename_i hl
            cases hB
            match us, q with
            | [u], ⟨⟨hin, ht⟩, _⟩ =>
              subst ht
              obtain ⟨ws, hls, q'⟩ := R_list R' hi
              have hlen := q'.length
              refine len_list hls (by rw [List.size_toArray, hlen]; omega) ?_
              exact k _ _ _ e (R'.toks _) ⟨_, by rw [List.size_toArray, hlen]⟩
          · cases hB
        · cases hB
      · cases hB
    · cases hA
  · -- own
    rename_i a
    split at hA
    · rename_i hx
      obtain ⟨rfl, rfl⟩ := hx
      obtain ⟨⟨vs, st₂⟩, h2, hB⟩ := bind_some hA
      dsimp only at hB
      obtain ⟨u₁, r₁, hu₁⟩ := name_sound (M := model prog w) (A := A) (E := E) (pos := np) X.G S R h1
      cases r₁
      refine hu₁ _ (callArgs is X S R h2 (keeps_K KM.keep247) fun ρ' s' us e R' q => ?_)
      exact callPos KM ic X.G X.a10 R' q hB fun ρ₃ s₃ u₃ e₃ R₃ r₃ => k _ _ _ (e.trans e₃) R₃ r₃
    · split at hA
      · rename_i hx
        obtain ⟨rfl, rfl⟩ := hx
        obtain ⟨⟨vs, st₂⟩, h2, hB⟩ := bind_some hA
        dsimp only at hB
        obtain ⟨u₁, r₁, hu₁⟩ := name_sound (M := model prog w) (A := A) (E := E) (pos := np) X.G S R h1
        cases r₁
        refine hu₁ _ (callArgs is X S R h2 (keeps_K (KM.mkc 238 212 (.inr (.inr ⟨rfl, rfl⟩))).2.2.2) fun ρ' s' us e R' q => ?_)
        split at hB
        · rename_i b
          obtain ⟨⟨r, st₃⟩, h3, h4⟩ := bind_some hB
          match us, q with
          | [u], q =>
            exact make_sound KM ic X R' (.inr (.inr ⟨rfl, rfl⟩)) (args := [b, .bool false]) (ua := [u, .bool false]) (fun ρ₃ e₃ => ⟨VRel.ext e₃ q.1, rfl, trivial⟩) h3 h4 (fun F hF xx s₃ X₃ => KM.b212 F hF xx u s₃ X₃)
              fun ρ₃ s₃ u₃ e₃ R₃ r₃ => k _ _ _ (e.trans e₃) R₃ r₃
        · cases hB
      · split at hA
        · rename_i hx
          obtain ⟨rfl, rfl⟩ := hx
          split at hA
          · rename_i k1 v1 p1 k2 v2 p2
            split at hA
            · rename_i hk
              obtain ⟨rfl, rfl⟩ := hk
              obtain ⟨⟨a1, st₁⟩, h2, hB⟩ := bind_some hA
              obtain ⟨⟨a2, st₂⟩, h3, hC⟩ := bind_some hB
              obtain ⟨⟨r, st₃⟩, h4, h5⟩ := bind_some hC
              obtain ⟨u₁, r₁, hu₁⟩ := name_sound (M := model prog w) (A := A) (E := E) (pos := np) X.G S R h1
              cases r₁
              refine hu₁ _ (callWith_KW0 X.G.inK (KM.mkc 193 113 (.inr (.inl ⟨rfl, rfl⟩))).2.2.2 rfl ?_)
              refine kwAll_cons (ih X S R h2 _ _ fun ρ₁ s₁ w1 e₁ R₁ r1 => kwAll_cons (ih X (S.ext e₁) R₁ h3 _ _ fun ρ₂ s₂ w2 e₂ R₂ r2 => kwAll_nil ⟨R₂.K_in X.G, ?_⟩))
              refine make_sound KM ic X R₂ (.inr (.inl ⟨rfl, rfl⟩)) (args := [a1, a2]) (ua := [w1, w2]) (fun ρ₃ e₃ => ⟨VRel.ext (e₂.trans e₃) r1, VRel.ext e₃ r2, trivial⟩) h4 h5 (fun F hF xx s₃ X₃ => KM.b113 F hF xx w1 w2 s₃ X₃)
                fun ρ₃ s₃ u₃ e₃ R₃ r₃ => k _ _ _ ((e₁.trans e₂).trans e₃) R₃ r₃
            · cases hA
          · cases hA
        · cases hA
  · cases hA
end
end Mine
end

section
open PySem PySem.W PyProof.Rows PySem.Calls
set_option maxRecDepth 100000
namespace Mine

/-- a comprehension whose value is used at once -/
def like (c c' : Cx) : Prop := c'.os = c.os ∧ c'.base = c.base ∧ (∀ L' ∈ c.fas, L' ∈ c'.fas) ∧ c'.L = c.L
theorem like.arel {c c' : Cx} {dep un : Nat} {A : Around} (h : like c c') (a : ARel c dep un A) : ARel c' dep un A := by
  obtain ⟨a1, a2, a3, fl, a4, a5⟩ := a
  exact ⟨a1, a2, a3, fl, a4, fun e he => by obtain ⟨x, L', y, z⟩ := a5 e he; exact ⟨x, L', y, h.2.2.1 _ z⟩⟩
theorem like.ctxt {c c' : Cx} {K : Frag} {sc : Sc} {A : Around} (h : like c c') (X : Ctxt K c sc A) : Ctxt K c' sc A := ⟨by rw [h.2.1]; exact X.G, h.arel X.A, X.dep, X.un⟩
theorem like.srel {c c' : Cx} {sc : Sc} {ρ : Loc} {env : Env} (h : like c c') (S : SRel c sc ρ env) : SRel c' sc ρ env := ⟨S.scope, S.kind, by rw [h.2.2.2]; exact S.L, S.glob, S.bi, S.cells⟩

def UseS (prog : Program) (w : World) (K : Frag) (T : Addr → Option Fn) (n : Nat) : Prop := ∀ {c A ρ st s sc env elt gens scope pos v st' st''}, Ctxt K c sc A → SRel c sc ρ env → Rel c ρ st s → ev T n sc st (.ListComp elt gens scope pos) = some (v, st') →
  ∀ (use : Value → Sem Unit) (Q : Unit → Shared → Prop) (E : Value → Shared → Prop),
    (∀ c' ρ' s' u (Post : Unit → Shared → Prop) E, like c c' → Ext ρ ρ' → Rel c' ρ' st' s' → VRel ρ' v u → (∀ ρ'' s'', Ext ρ' ρ'' → Rel c' ρ'' st'' s'' → Post () s'') → wpAny (model prog w) A (use u) Post E s') →
    (∀ ρ' s', Ext ρ ρ' → Rel c ρ' st'' s' → Q () s') → wpAny (model prog w) A (evalThenUse (.ListComp elt gens scope pos) env use) Q E s

def isComp : Expr → Bool
  | .ListComp .. | .SetComp .. | .DictComp .. => true
  | _ => false
theorem swaps_not {v : Expr} {t : Option Expr} {line : Nat} {env : Env} (h : isComp v = false) : swapsWith v t line env = pure false := by
  cases v <;> first | rfl | cases h
theorem swaps_other {v t : Expr} {line : Nat} {env : Env} (h : ∀ x p, t ≠ .Name x p) : swapsWith v (some t) line env = pure false := by
  cases t <;> first | exact absurd rfl (h _ _) | (cases v <;> rfl)
theorem swaps_name {elt : Expr} {gens : List Comprehension} {scope : Scope} {pos p : Pos} {x : Str} {line : Nat} {env : Env} : ∃ b, swapsWith (.ListComp elt gens scope pos) (some (.Name x p)) line env = pure b := ⟨_, rfl⟩

/-- only what the names lead to counts -/
theorem Rel.loc_eq {c : Cx} {ρ : Loc} {st : St} {s : Shared} (R : Rel c ρ st s) {l : List (Str × AV)} (h : ∀ y, l.lookup y = st.loc.lookup y) : Rel c ρ { st with loc := l } s := by
  obtain ⟨m, hn, hm⟩ := R.loc
  exact ⟨R.os, R.keep, R.n, R.obj, ⟨m, hn, fun x v hx => hm x v (by rw [← h]; exact hx)⟩, R.fr, R.up, R.nd, R.ia, R.dd, R.dj, R.ex, R.exn, R.gn, R.gnn, R.bare⟩

def sets (ps : List (Str × AV)) (l : List (Str × AV)) : List (Str × AV) := ps.foldl (fun l p => setA p.1 p.2 l) l
theorem wrs_local {sc : Sc} : ∀ (ps : List (Str × AV)) (st : St), (∀ p ∈ ps, sc.scope.names.lookup p.1 = some .local) → wrs sc st ps = some { st with loc := sets ps st.loc }
  | [], st, _ => rfl
  | p :: r, st, h => by
    unfold wrs
    have : wr sc st p.1 p.2 = some { st with loc := setA p.1 p.2 st.loc } := by unfold wr; rw [h p List.mem_cons_self]
    rw [this, Option.bind_some, wrs_local r _ fun q hq => h q (List.mem_cons_of_mem _ hq)]
    rfl
theorem sets_lookup (y : Str) : ∀ (ps l : List (Str × AV)), (ps.map (·.1)).Nodup → (sets ps l).lookup y = match ps.lookup y with | some v => some v | none => l.lookup y
  | [], l, _ => rfl
  | (x, v) :: r, l, h => by
    obtain ⟨hx, hr⟩ := List.nodup_cons.mp h
    show (sets r (setA x v l)).lookup y = _
    rw [sets_lookup y r _ hr, List.lookup_cons, lookup_setA]
    by_cases e : y = x
    · subst e
      have hno : r.lookup y = none := by
        cases hq : r.lookup y with
        | none => rfl
        | some v => exact absurd (List.mem_map_of_mem (f := (·.1)) (mem_of_lookup hq)) hx
      rw [hno, beq_self_eq_true]
      simp
    · have : (y == x) = false := by simpa using e
      rw [this]
      simp [e]
theorem lookup_of_mem : ∀ {l : List (Str × AV)} {x : Str} {v : AV}, (l.map (·.1)).Nodup → (x, v) ∈ l → l.lookup x = some v
  | (y, u) :: r, x, v, h, hm => by
    obtain ⟨hx, hr⟩ := List.nodup_cons.mp h
    rw [List.lookup_cons]
    rcases List.mem_cons.mp hm with e | hm
    · cases e; rw [beq_self_eq_true]
    · have : (x == y) = false := by
        cases hb : x == y with
        | false => rfl
        | true => exact absurd (beq_iff_eq.mp hb ▸ List.mem_map_of_mem (f := (·.1)) hm) hx
      rw [this]
      exact lookup_of_mem hr hm
theorem lookup_reverse {l : List (Str × AV)} (h : (l.map (·.1)).Nodup) (x : Str) : l.reverse.lookup x = l.lookup x := by
  have h' : (l.reverse.map (·.1)).Nodup := by rw [List.map_reverse]; exact List.pairwise_reverse.mpr (h.imp Ne.symm)
  cases hq : l.lookup x with
  | some v => exact lookup_of_mem h' (List.mem_reverse.mpr (mem_of_lookup hq))
  | none =>
    cases hq' : l.reverse.lookup x with
    | none => rfl
    | some v =>
      rw [lookup_of_mem h (List.mem_reverse.mp (mem_of_lookup hq'))] at hq
      cases hq

theorem swapped_scope {ts : List Expr} {v : Expr} {env env' : Env} (h : env.scope = env'.scope) : swappedStores ts v env = swappedStores ts v env' := by
  obtain ⟨a1, a2, a3, a4, a5, a6, a7, a8, a9⟩ := env
  obtain ⟨b1, b2, b3, b4, b5, b6, b7, b8, b9⟩ := env'
  dsimp only at h
  subst h
  rfl

section
variable {prog : Program} {w : World} {A : Around} {E : Value → Shared → Prop} {c : Cx} {ρ : Loc} {st st₁ st' : St} {s : Shared} {sc : Sc} {env : Env} {K : Frag} {T : Addr → Option Fn} {n : Nat}

/-- stores in order -/
theorem stores_sound {M : Model} : ∀ {xs : List Str} {as : List AV} {us : List Value} {ρ : Loc} {st st' : St} {s : Shared} {fs : List (Value → Sem Unit)} {Q : Unit → Shared → Prop}, SRel c sc ρ env → Rel c ρ st s → VRels ρ as us → xs.length = as.length → fs.length = xs.length →
    (∀ (k : Nat) (x : Str) (f : Value → Sem Unit), xs[k]? = some x → fs[k]? = some f → ∀ (u : Value) (s₁ : Shared) (Q : Unit → Shared → Prop), wpAny M A (storeName env x u) Q E s₁ → wpAny M A (f u) Q E s₁) →
    wrs sc st (xs.zip as) = some st' → (∀ ρ' s', Ext ρ ρ' → Rel c ρ' st' s' → Q () s') → wpAny M A (assignInOrder fs us) Q E s
  | [], [], [], ρ, st, st', s, [], Q, S, R, q, _, _, _, h, k => by cases h; exact wpAny_pure (k _ _ (Ext.refl _) R)
  | x :: xs, a :: as, u :: us, ρ, st, st', s, f :: fs, Q, S, R, q, h1, h2, hf, h, k => by
    obtain ⟨st₁, e₁, e₂⟩ := bind_some (show (wr sc st x a).bind (fun st => wrs sc st (xs.zip as)) = some st' from h)
    refine wpAny_bind (wpAny_holding (hf 0 x f rfl rfl u s _ (wr_sound S R q.1 e₁ _ _ fun ρ' s' _ e R' _ => ?_)))
    exact stores_sound (S.ext e) R' (q.2.ext e) (by simpa using h1) (by simpa using h2) (fun k x f hx hf' => hf (k + 1) x f (by simpa using hx) (by simpa using hf')) e₂ fun ρ'' s'' e' R'' => k _ _ (e.trans e') R''
  | [], _ :: _, _, _, _, _, _, _, _, _, _, _, h, _, _, _, _ => by simp at h
  | _ :: _, [], _, _, _, _, _, _, _, _, _, _, h, _, _, _, _ => by simp at h
  | [], [], _ :: _, _, _, _, _, _, _, _, _, q, _, _, _, _, _ => q.elim
  | [], [], [], _, _, _, _, _ :: _, _, _, _, _, _, h, _, _, _ => by simp at h
  | _ :: _, _ :: _, [], _, _, _, _, _, _, _, _, q, _, _, _, _, _ => q.elim
  | _ :: _, _ :: _, _ :: _, _, _, _, _, [], _, _, _, _, _, h, _, _, _ => by simp at h

theorem namesOf_map : ∀ {ts : List Expr} {xs : List Str}, namesOf ts = some xs → ∃ ps : List Pos, ps.length = xs.length ∧ ts = (xs.zip ps).map fun p => .Name p.1 p.2
  | [], _, h => by cases h; exact ⟨[], rfl, rfl⟩
  | t :: r, xs, h => by
    cases t <;> try (cases h; done)
    rename_i x p
    obtain ⟨ys, h1, h2⟩ := map_some (show (namesOf r).map (x :: ·) = some xs from h)
    subst h2
    obtain ⟨ps, e1, e2⟩ := namesOf_map h1
    exact ⟨p :: ps, by simp [e1], by simp [e2]⟩

theorem ex_Assign_Name_sound {x : Str} {p pos : Pos} {v : Expr} {fl : AFl} (ih : EvS prog w K T n) (iu : UseS prog w K T n) (X : Ctxt K c sc A) (S : SRel c sc ρ env) (R : Rel c ρ st s) (h : ex T (n + 1) sc st (.Assign [.Name x p] v pos) = some (fl, st')) :
    Gets (model prog w) A c ρ st' (fun ρ' u => FlRel ρ' fl u) (exec (.Assign [.Name x p] v pos) env) s := by
  simp only [ex] at h
  obtain ⟨⟨a, st₁⟩, h1, hA⟩ := bind_some h
  obtain ⟨st₂, h2, hB⟩ := map_some hA
  cases hB
  intro Q E k
  have plain : swapsWith v (some (.Name x p)) pos.line env = Pure.pure false → wpAny (model prog w) A (exec (.Assign [.Name x p] v pos) env) Q E s := fun hs =>
    wpAny_Assign_Name (ih X S R h1 _ _ fun ρ' s' u e R' r => wr_sound (S.ext e) R' r h2 _ _ fun ρ'' s'' _ e' R'' _ => k _ _ _ (e.trans e') R'' .next) hs
  cases hv : isComp v with
  | false => exact plain (swaps_not hv)
  | true =>
    cases v <;> try (cases hv; done)
    · rename_i elt gens scope vp
      obtain ⟨b, hb⟩ := swaps_name (elt := elt) (gens := gens) (scope := scope) (pos := vp) (p := p) (x := x) (line := pos.line) (env := env)
      cases b with
      | false => exact plain hb
      | true =>
        rw [exec_Assign_Name_used x p _ pos hb]
        refine wpAny_bind (wpAny_standAt (wpAny_bind (iu (st'' := st') X S R h1 _ _ _ (fun c' ρ' s' u Post E' lk e R' r post => ?_) fun ρ' s' e R' => wpAny_pure (k _ _ _ e R' .next))))
        exact assign_Name (wr_sound (lk.srel (S.ext e)) R' r h2 _ _ fun ρ'' s'' _ e' R'' _ => post _ _ e' R'')
    all_goals (exfalso; clear plain; cases n <;> simp [ev] at h1)

theorem ex_Assign_Attr_sound {o x : Str} {op ap pos : Pos} {v : Expr} {fl : AFl} (KK : KOK K) (ih : EvS prog w K T n) (X : Ctxt K c sc A) (S : SRel c sc ρ env) (R : Rel c ρ st s) (h : ex T (n + 1) sc st (.Assign [.Attribute (.Name o op) x ap] v pos) = some (fl, st')) :
    Gets (model prog w) A c ρ st' (fun ρ' u => FlRel ρ' fl u) (exec (.Assign [.Attribute (.Name o op) x ap] v pos) env) s := by
  simp only [ex] at h
  obtain ⟨⟨a, st₁⟩, h1, hA⟩ := bind_some h
  obtain ⟨ov, h2, hB⟩ := bind_some hA
  dsimp only at h2 hB
  clear h hA
  split at hB
  · rename_i i
    split at hB
    · rename_i C F hi
      split at hB
      · rename_i hc
        cases hB
        intro Q E k
        refine plainObj_wpAny_Assign_Attribute (ih X S R h1 _ _ fun ρ' s' u e R' r => ?_) (swaps_other (fun _ _ z => by cases z))
        obtain ⟨uo, ro, go⟩ := name_sound (M := model prog w) (A := A) (E := E) (pos := op) X.G (S.ext e) R' h2
        obtain ⟨hin, rfl⟩ := ro
        refine go _ (store_sound X.G KK R' hi (hc.1.elim .inl fun z => .inr (.inr z)) ?_ hc.2.2 r _ _ fun ρ'' s'' _ e' R'' _ => k _ _ _ (e.trans e') R'' .next)
        exact hc.2.1
      · cases hB
    · cases hB
  · cases hB

theorem ex_Assign_Sub_sound {o i : Str} {op ip ap pos : Pos} {v : Expr} {fl : AFl} (ih : EvS prog w K T n) (X : Ctxt K c sc A) (S : SRel c sc ρ env) (R : Rel c ρ st s) (h : ex T (n + 1) sc st (.Assign [.Subscript (.Name o op) (.Name i ip) ap] v pos) = some (fl, st')) :
    Gets (model prog w) A c ρ st' (fun ρ' u => FlRel ρ' fl u) (exec (.Assign [.Subscript (.Name o op) (.Name i ip) ap] v pos) env) s := by
  simp only [ex] at h
  obtain ⟨⟨a, st₁⟩, h1, hA⟩ := bind_some h
  obtain ⟨ov, h2, hB⟩ := bind_some hA
  obtain ⟨iv, h3, hC⟩ := bind_some hB
  dsimp only at h2 h3 hC
  clear h hA hB
  split at hC
  · rename_i j kk
    split at hC
    · rename_i xs hj
      split at hC
      · rename_i hc
        cases hC
        intro Q E k
        refine wpAny_Assign_stores (ih X S R h1 _ _ fun ρ' s' u e R' r => ?_) (swaps_other (t := .Subscript (.Name o op) (.Name i ip) ap) (line := pos.line) (env := env) (fun _ _ z => by cases z)) (by cases v <;> rfl)
        show wpAny _ _ (assign (.Subscript (.Name o op) (.Name i ip) ap) env u) _ _ s'
        rw [arm_assign_Subscript]
        obtain ⟨uo, ro, go⟩ := name_sound (M := model prog w) (A := A) (E := E) (pos := op) X.G (S.ext e) R' h2
        obtain ⟨ui, ri, gi⟩ := name_sound (M := model prog w) (A := A) (E := E) (pos := ip) X.G (S.ext e) R' h3
        obtain ⟨hin, rfl⟩ := ro
        obtain ⟨t, rfl⟩ := ri
        refine wpAny_bind (wpAny_holding (go _ (wpAny_bind (wpAny_holding (gi _ (wpAny_bind (wpAny_standAt (wpAny_bind (wpAny_holding ?_)))))))))
        obtain ⟨_, _, vs, hls, q⟩ := R'.obj _ _ hj
        have hlen := q.length
        obtain ⟨oo, ho, nn, rfl⟩ := hls
        refine ki_setAt (n := nn) ho hc.1 (by omega) (by rw [List.size_toArray, hlen]; exact hc.2.1) ?_
        refine wpAny_release' (k _ _ _ e (R'.setObj hj (Heap.SameBut.update ..) ho (fun _ z => by cases z) (fun _ _ z => by cases z) (fun _ _ z => by cases z) (fun _ z => by cases z) ?_) .next)
        refine ⟨vs.set kk.toNat u, ⟨_, Heap.get?_update_self _ ho rfl, ?_⟩, q.set r _⟩
        refine ⟨nn, ?_⟩
        show (Obj.mapSeq _ (listOf vs.toArray nn)) = _
        simp [Obj.mapSeq]
      · cases hC
    · cases hC
  · cases hC

theorem evs_noStar {z : List AV × St} : ∀ {es : List Expr} {n : Nat} {st : St} {z : List AV × St}, evs T n sc st es = some z → (starEach es env).map (·.1) = es.map fun _ => false
  | [], _, _, _, _ => rfl
  | e :: r, n, st, z, h => by
    rw [evs_head h]
    obtain ⟨m, st₁, z', h'⟩ := evs_tail h
    rw [List.map_cons, List.map_cons, evs_noStar (z := z') h']

theorem evs_length : ∀ {es : List Expr} {n : Nat} {st : St} {z : List AV × St}, evs T n sc st es = some z → z.1.length = es.length
  | [], n, st, z, h => by
    cases n with
    | zero => simp [evs] at h
    | succ n => simp only [evs] at h; cases h; rfl
  | e :: r, n, st, z, h => by
    cases n with
    | zero => simp [evs] at h
    | succ n =>
      simp only [evs] at h
      obtain ⟨⟨a, sta⟩, h1, hA⟩ := bind_some h
      obtain ⟨⟨b, stb⟩, h2, hB⟩ := bind_some hA
      cases hB
      have := evs_length h2
      simp only [List.length_cons]
      rw [← this]
theorem zip_reverse {α β : Type} : ∀ {xs : List α} {as : List β}, xs.length = as.length → xs.reverse.zip as.reverse = (xs.zip as).reverse
  | [], [], _ => rfl
  | x :: xs, a :: as, h => by
    have h : xs.length = as.length := by simpa using h
    rw [List.reverse_cons, List.reverse_cons, List.zip_append (by simp [h]), zip_reverse h]
    show (xs.zip as).reverse ++ [(x, a)] = ((x, a) :: xs.zip as).reverse
    rw [List.reverse_cons]
  | [], _ :: _, h => by simp at h
  | _ :: _, [], h => by simp at h

theorem assignEach_names : ∀ (l : List (Str × Pos)), assignEach (l.map fun p => Expr.Name p.1 p.2) env = l.map fun p => (false, assign (.Name p.1 p.2) env)
  | [] => rfl
  | p :: r => by
    rw [List.map_cons, List.map_cons]
    show (false, assign (.Name p.1 p.2) env) :: assignEach (r.map fun p => Expr.Name p.1 p.2) env = _
    rw [assignEach_names r]

theorem ex_Assign_Tuple_sound {ts vs : List Expr} {k k2 : Nat} {tp vp pos : Pos} {fl : AFl} (is : EvsS prog w K T n) (X : Ctxt K c sc A) (S : SRel c sc ρ env) (R : Rel c ρ st s) (h : ex T (n + 1) sc st (.Assign [.Tuple ts k tp] (.Tuple vs k2 vp) pos) = some (fl, st')) :
    Gets (model prog w) A c ρ st' (fun ρ' u => FlRel ρ' fl u) (exec (.Assign [.Tuple ts k tp] (.Tuple vs k2 vp) pos) env) s := by
  simp only [ex] at h
  obtain ⟨xs, h1, hA⟩ := bind_some h
  obtain ⟨sw, h2, hB⟩ := bind_some hA
  clear h hA
  split at hB
  · rename_i hc
    obtain ⟨c1, c2, c3, c4⟩ := hc
    obtain ⟨⟨as, st₁⟩, h3, hC⟩ := bind_some hB
    obtain ⟨st₂, h4, hD⟩ := map_some hC
    cases hD
    dsimp only at h4
    clear hB hC
    have hw : swappedStores [.Tuple ts k tp] (.Tuple vs k2 vp) env = Pure.pure sw := by
      rw [swapped_scope (env' := scEnv sc.scope) S.scope]
      exact of_pureOf h2
    obtain ⟨ps, p1, p2⟩ := namesOf_map h1
    -- the tuple is there
    have tup : ∀ (Q : Value → Shared → Prop) (E : Value → Shared → Prop), (∀ ρ' s' t us, Ext ρ ρ' → Rel c ρ' st₁ s' → VRels ρ' as us → IsTup s'.heap t us.toArray → Q (.ref t) s') → wpAny (model prog w) A (eval (.Tuple vs k2 vp) env) Q E s := fun Q E go => by
      refine wpAny_Tuple (is X S R h3 _ _ fun ρ' s' us e R' q => ⟨fits1000 ?_, go ρ' _ _ us e (R'.push _) q ?_⟩)
      · have : as.length < 1000 ∨ True := .inr trivial
        rw [q.length]
        have := evs_length h3
        dsimp only at this
        omega
      · exact ⟨_, Heap.get?_push_size _ rfl, rfl, 0, rfl⟩
    have hlen : ∀ ρ' us, VRels ρ' as us → xs.length = as.length → us.length = xs.length := fun ρ' us q e => by rw [q.length, e]
    have hal : xs.length = as.length := by
      have := evs_length h3
      dsimp only at this
      omega
    intro Q E kk
    rcases c4 with rfl | ⟨rfl, hloc⟩
    · -- in order
      refine Assign_Tuple (tup _ _ fun ρ' s' t us e R' q ht => ?_) rfl hw
      have hul := hlen ρ' us q hal
      have ha : assignEach ts env = (xs.zip ps).map fun p => (false, assign (.Name p.1 p.2) env) := by rw [p2, assignEach_names]
      have hzl : (xs.zip ps).length = xs.length := by rw [List.length_zip, p1, Nat.min_self]
      refine assign_Tuple_tuple X.A.handled ht (by rw [ha, List.length_map, hzl, List.size_toArray, hul]) (by rw [ha, List.findIdx?_eq_none_iff]; intro x hx; obtain ⟨p, _, rfl⟩ := List.mem_map.mp hx; rfl) fun h' he => ?_
      have R₂ : Rel c ρ' st₁ { s' with heap := h' } := R'.grow fun b o eb => he b o (Nat.ne_of_lt (Heap.lt_size eb)) eb
      rw [ha, List.map_map]
      show wpAny _ _ (assignInOrder _ us) _ _ _
      refine stores_sound (S.ext e) R₂ q hal (by rw [List.length_map, hzl]) (fun j x f hx hf u s₁ Q₁ z => ?_) h4 fun ρ'' s'' e' R'' => kk _ _ _ (e.trans e') R'' .next
      obtain ⟨p, hp, rfl⟩ : ∃ p, (xs.zip ps)[j]? = some p ∧ f = assign (.Name p.1 p.2) env := by
        rw [List.getElem?_map] at hf
        obtain ⟨p, hp, rfl⟩ := Option.map_eq_some_iff.mp hf
        exact ⟨p, hp, rfl⟩
      have hpx : p.1 = x := by
        have := List.getElem?_zip_eq_some.mp hp
        rw [this.1] at hx
        cases hx; rfl
      rw [hpx]
      exact assign_Name z
    · -- swapped
      refine Assign_Tuple_swapped (tup _ _ fun ρ' s' t us e R' q ht => ?_) rfl hw
      have hul := hlen ρ' us q hal
      have hl : ∀ p ∈ xs.zip as, sc.scope.names.lookup p.1 = some .local := fun p hp => by
        have := List.all_eq_true.mp hloc p.1 (List.of_mem_zip hp).1
        exact of_decide_eq_true this
      rw [wrs_local _ _ hl] at h4
      cases h4
      have hus : us.toArray.size = xs.length := by rw [List.size_toArray, hul]
      rw [← hus]
      refine unpackItems_tuple X.A.handled ht fun h' he => ?_
      have R₂ : Rel c ρ' st₁ { s' with heap := h' } := R'.grow fun b o eb => he b o (Nat.ne_of_lt (Heap.lt_size eb)) eb
      show wpAny _ _ (assignInOrder _ us.reverse) _ _ _
      have hzr : xs.reverse.zip as.reverse = (xs.zip as).reverse := by
        exact zip_reverse hal
      have qr : VRels ρ' as.reverse us.reverse := by
        have : ∀ {as : List AV} {us : List Value}, VRels ρ' as us → VRels ρ' as.reverse us.reverse := by
          intro as
          induction as with
          | nil => intro us q; cases us with | nil => trivial | cons _ _ => exact q.elim
          | cons a r ihh =>
            intro us q
            cases us with
            | nil => exact q.elim
            | cons u r' =>
              rw [List.reverse_cons, List.reverse_cons]
              exact (ihh q.2).append ⟨q.1, trivial⟩
        exact this q
      have hnd : ((xs.zip as).map (·.1)).Nodup := by rw [zip_names hal.symm]; exact c1
      refine stores_sound (xs := xs.reverse) (as := as.reverse) (st' := { st₁ with loc := sets (xs.zip as).reverse st₁.loc }) (S.ext e) R₂ qr (by simp [hal]) (by simp) (fun j x f hx hf u s₁ Q₁ z => ?_) (by rw [hzr]; exact wrs_local _ _ fun p hp => hl p (List.mem_reverse.mp hp)) fun ρ'' s'' e' R'' => kk _ _ _ (e.trans e') (R''.loc_eq fun y => ?_) .next
      · rw [List.getElem?_map] at hf
        obtain ⟨y, hy, rfl⟩ := Option.map_eq_some_iff.mp hf
        rw [hx] at hy
        cases hy
        exact bindName_ z
      · show (sets (xs.zip as) st₁.loc).lookup y = (sets (xs.zip as).reverse st₁.loc).lookup y
        rw [sets_lookup y _ _ hnd, sets_lookup y _ _ (by rw [List.map_reverse]; exact List.pairwise_reverse.mpr (hnd.imp Ne.symm)), lookup_reverse hnd]
  · cases hB

theorem ex_Aug_sound {x : Str} {p pos : Pos} {v : Expr} {fl : AFl} (ih : EvS prog w K T n) (X : Ctxt K c sc A) (S : SRel c sc ρ env) (R : Rel c ρ st s) (h : ex T (n + 1) sc st (.AugAssign (.Name x p) .Add v pos) = some (fl, st')) :
    Gets (model prog w) A c ρ st' (fun ρ' u => FlRel ρ' fl u) (exec (.AugAssign (.Name x p) .Add v pos) env) s := by
  simp only [ex] at h
  obtain ⟨a, h1, hA⟩ := bind_some h
  obtain ⟨⟨b, st₁⟩, h2, hB⟩ := bind_some hA
  dsimp only at hB
  clear h hA
  split at hB
  · rename_i i j
    obtain ⟨st₂, h3, hC⟩ := map_some hB
    cases hC
    intro Q E k
    obtain ⟨ua, ra, ga⟩ := rd_sound (M := model prog w) (A := A) (E := E) X.G S R h1
    obtain ⟨t, rfl⟩ := ra
    refine wpAny_AugAssign_Name (ga _ (ih X S R h2 _ _ fun ρ' s' u e R' r => ?_))
    obtain ⟨t', rfl⟩ := r
    exact iadd_int (wr_sound (v := .int (i + j)) (S.ext e) (R'.toks _) ⟨_, rfl⟩ h3 _ _ fun ρ'' s'' _ e' R'' _ => k _ _ _ (e.trans e') R'' .next)
  · cases hB

theorem ex_If_sound {t : Expr} {b o : List Stmt} {pos : Pos} {fl : AFl} (tp : Top A env) (it : TstS prog w K T n) (ixs : ExsS prog w K T n) (X : Ctxt K c sc A) (S : SRel c sc ρ env) (R : Rel c ρ st s) (h : ex T (n + 1) sc st (.If t b o pos) = some (fl, st')) :
    Gets (model prog w) A c ρ st' (fun ρ' u => FlRel ρ' fl u) (exec (.If t b o pos) env) s := by
  simp only [ex] at h
  obtain ⟨⟨q, st₁⟩, h1, hA⟩ := bind_some h
  dsimp only at hA
  intro Q E k
  refine wpAny_If (it X S R h1 _ _ fun ρ' s' u e R' r => ?_)
  subst r
  cases u
  · exact ixs tp X (S.ext e) R' hA _ _ fun ρ'' s'' u e' => k _ _ _ (e.trans e')
  · exact ixs tp X (S.ext e) R' hA _ _ fun ρ'' s'' u e' => k _ _ _ (e.trans e')

theorem exs_sound {xs : List Stmt} {fl : AFl} (tp : Top A env) (ix : ExS prog w K T n) (ixs : ExsS prog w K T n) (X : Ctxt K c sc A) (S : SRel c sc ρ env) (R : Rel c ρ st s) (h : exs T (n + 1) sc st xs = some (fl, st')) :
    Gets (model prog w) A c ρ st' (fun ρ' u => FlRel ρ' fl u) (execs xs env) s := by
  cases xs with
  | nil =>
    simp only [exs] at h
    cases h
    intro Q E k
    exact wpAny_execs_nil (k _ _ _ (Ext.refl _) R .next)
  | cons x r =>
    simp only [exs] at h
    obtain ⟨⟨f, st₁⟩, h1, hA⟩ := bind_some h
    dsimp only at hA
    intro Q E k
    refine wpAny_execs_cons (ix tp X S R h1 _ _ fun ρ' s' u e R' rr => ?_)
    cases rr with
    | next => exact ixs tp X (S.ext e) R' hA _ _ fun ρ'' s'' u e' => k _ _ _ (e.trans e')
    | brk => cases hA; exact k _ _ _ e R' .brk
    | ret z => cases hA; exact k _ _ _ e R' (.ret z)
end
end Mine
end

section
open PySem PySem.W PyProof.Rows PySem.Calls
set_option maxRecDepth 100000
namespace Mine

def Turn := Value → (Flow → Shared → Prop) → Shared → Prop

/-- a loop over an iterator: an invariant that falls -/
def LoopI (prog : Program) (w : World) (A : Around) (it : Value) (turn : Turn) (Done Brk : Shared → Prop) (Ret : Value → Shared → Prop) (En : Value → Shared → Prop) (s : Shared) : Prop :=
  ∃ (I : Nat → Shared → Prop) (m : Nat), I m s ∧ (∀ n s, I n s → ∀ (Q E : Value → Shared → Prop), Q it s → wpAny (model prog w) A (pyIter it) Q E s) ∧
    ∀ n s, I n s → wpAny (model prog w) A (pyNext it) (fun r s₁ => match r with
      | none => Done s₁
      | some v => turn v (fun f s₃ => match f with
          | .next | .cont => ∃ m, m < n ∧ I m s₃
          | .brk => Brk s₃
          | .ret v => Ret v s₃) s₁) En s

def BodyS (c : Cx) (ρ : Loc) (body : St → AV → Option (AFl × St)) (turn : Turn) : Prop := ∀ c' ρ' st₁ s₁ v u fl st₂ Post, like c c' → Ext ρ ρ' → Rel c' ρ' st₁ s₁ → VRel ρ' v u → body st₁ v = some (fl, st₂) →
  (∀ ρ'' s₂ f, Ext ρ' ρ'' → Rel c' ρ'' st₂ s₂ → FlRel ρ'' fl f → Post f s₂) → turn u Post s₁

structure EndS (c : Cx) (ρ : Loc) (fl : AFl) (st' : St) (Done Brk : Shared → Prop) (Ret : Value → Shared → Prop) : Prop where
  next : fl = .next → ∀ ρ' s', Ext ρ ρ' → Rel c ρ' st' s' → Done s' ∧ Brk s'
  ret : ∀ v, fl = .ret v → ∀ ρ' s' u, Ext ρ ρ' → Rel c ρ' st' s' → VRel ρ' v u → Ret u s'

section
variable {prog : Program} {w : World} {A : Around} {E : Value → Shared → Prop} {c : Cx} {ρ : Loc} {st st₁ st' : St} {s : Shared} {sc : Sc} {env : Env} {K : Frag} {T : Addr → Option Fn} {n : Nat}

theorem Rel.dropHold {a : Addr} {o : Obj} (R : Rel (c.hold a o) ρ st s) : Rel c ρ st s := R.dropEx fun _ _ _ e => e
theorem like.hold (c : Cx) (a : Addr) (o : Obj) : like c (c.hold a o) := ⟨rfl, rfl, fun _ h => h, rfl⟩
theorem forL_sound {body : St → AV → Option (AFl × St)} {turn : Turn} {Done Brk : Shared → Prop} {Ret : Value → Shared → Prop} {En : Value → Shared → Prop} {i m : Nat} {it : Addr} {o : Obj} {fl : AFl} (hh : A.handled = none) (hi : i < ρ.n)
    (hc : o.cls = .type "list_iterator") (hd : o.data = .fields #[.ref (ρ.a i), .int 0 0]) (R : Rel (c.hold it o) ρ st s) (h : forL body i m 0 st = some (fl, st')) (B : BodyS c ρ body turn) (Z : EndS c ρ fl st' Done Brk Ret) :
    LoopI prog w A (.ref it) turn Done Brk Ret En s := by
  refine ⟨fun n s => ∃ (k : Nat) (ρ₁ : Loc) (st₁ : St) (o : Obj), Ext ρ ρ₁ ∧ o.cls = .type "list_iterator" ∧ o.data = .fields #[.ref (ρ.a i), .int k 0] ∧ Rel (c.hold it o) ρ₁ st₁ s ∧ forL body i n k st₁ = some (fl, st'), m, ⟨0, ρ, st, o, Ext.refl _, hc, hd, R, h⟩, ?_, ?_⟩
  · rintro n s ⟨k, ρ₁, st₁, o, e, hc, hd, R, h⟩ Q E q
    exact wpAny_pyIter_listiter ⟨o, R.exAt.1, hc, hd⟩ q
  · rintro n s ⟨k, ρ₁, st₁, o, e, hc, hd, R, h⟩
    have hit : s.heap.IsListIter it (ρ.a i) k := ⟨o, R.exAt.1, hc, hd⟩
    cases n with
    | zero => cases h
    | succ n =>
      unfold forL at h
      split at h
      · rename_i xs hx
        obtain ⟨vs, hl, q⟩ := R_list R hx
        rw [(e.2 i hi).1] at hl
        split at h
        · rename_i hk
          cases h
          have hn : vs.toArray[k]? = none := by
            rw [List.getElem?_toArray, List.getElem?_eq_none_iff, q.length]
            exact List.getElem?_eq_none_iff.mp hk
          exact wpAny_pyNext_list_end hh hit hl hn fun h' hs => (Z.next rfl ρ₁ _ e (R.dropEx hs)).1
        · rename_i v hk
          obtain ⟨u, hu, r⟩ := q.get hk
          refine wpAny_pyNext_list_item hit hl (by rw [List.getElem?_toArray]; exact hu) fun h' hit' hs => ?_
          obtain ⟨o', ho', hc', hd'⟩ := hit'
          have R' : Rel (c.hold it o') ρ₁ st₁ { s with heap := h' } := R.turnEx hs ho' ⟨_, hd'⟩ (by rw [hc']; simp)
          cases hb : body st₁ v with
          | none => rw [hb] at h; cases h
          | some z =>
            obtain ⟨f, st₂⟩ := z
            rw [hb] at h
            refine B (c.hold it o') ρ₁ st₁ _ v u f st₂ _ (like.hold ..) e R' r hb fun ρ₂ s₂ f' e₂ R₂ fr => ?_
            cases fr with
            | next => exact ⟨n, Nat.lt_succ_self _, k + 1, ρ₂, st₂, o', e.trans e₂, hc', hd', R₂, h⟩
            | brk => cases h; exact (Z.next rfl ρ₂ _ (e.trans e₂) R₂.dropHold).2
            | ret rr => cases h; exact Z.ret _ rfl ρ₂ _ _ (e.trans e₂) R₂.dropHold rr
      · cases h

theorem forR_sound {body : St → AV → Option (AFl × St)} {turn : Turn} {Done Brk : Shared → Prop} {Ret : Value → Shared → Prop} {En : Value → Shared → Prop} {m : Nat} {k : Int} {it : Addr} {fl : AFl} (hh : A.handled = none)
    (R : Rel (c.hold it { cls := .type "range_iterator", dict := none, data := .fields #[rawInt 0, rawInt k, rawInt 1], slots := #[] }) ρ st s) (h : forR body k m 0 st = some (fl, st')) (B : BodyS c ρ body turn) (Z : EndS c ρ fl st' Done Brk Ret) :
    LoopI prog w A (.ref it) turn Done Brk Ret En s := by
  refine ⟨fun n s => ∃ (j : Int) (ρ₁ : Loc) (st₁ : St), Ext ρ ρ₁ ∧ Rel (c.hold it { cls := .type "range_iterator", dict := none, data := .fields #[rawInt j, rawInt (k - j), rawInt 1], slots := #[] }) ρ₁ st₁ s ∧ forR body k n j st₁ = some (fl, st'), m, ⟨0, ρ, st, Ext.refl _, by simpa using R, h⟩, ?_, ?_⟩
  · rintro n s ⟨j, ρ₁, st₁, e, R, h⟩ Q E q
    exact wpAny_pyIter_rangeiter R.exAt.1 q
  · rintro n s ⟨j, ρ₁, st₁, e, R, h⟩
    have hit := R.exAt.1
    cases n with
    | zero => cases h
    | succ n =>
      unfold forR at h
      split at h
      · rename_i hj
        cases h
        exact wpAny_pyNext_range_end hh hit (by omega) fun h' hs => (Z.next rfl ρ₁ _ e (R.dropEx hs)).1
      · rename_i hj
        refine wpAny_pyNext_range_item hit (by omega) fun h' hit' hs => ?_
        have R' := (R.turnEx hs hit' ⟨_, rfl⟩ (by simp)).toks (s.toks + 1)
        cases hb : body st₁ (.int j) with
        | none => rw [hb] at h; cases h
        | some z =>
          obtain ⟨f, st₂⟩ := z
          rw [hb] at h
          refine B _ ρ₁ st₁ _ (.int j) _ f st₂ _ (like.hold ..) e R' ⟨_, rfl⟩ hb fun ρ₂ s₂ f' e₂ R₂ fr => ?_
          cases fr with
          | next => exact ⟨n, Nat.lt_succ_self _, j + 1, ρ₂, st₂, e.trans e₂, by rw [show k - (j + 1) = k - j - 1 by omega]; exact R₂, h⟩
          | brk => cases h; exact (Z.next rfl ρ₂ _ (e.trans e₂) R₂.dropHold).2
          | ret rr => cases h; exact Z.ret _ rfl ρ₂ _ _ (e.trans e₂) R₂.dropHold rr
end
end Mine
end

section
open PySem PySem.W PyProof.Rows PySem.Calls
set_option maxRecDepth 100000
namespace Mine

theorem Rel.perm {c c' : Cx} {ρ : Loc} {st : St} {s : Shared} (R : Rel c ρ st s) (h1 : c'.os = c.os) (h2 : c'.base = c.base) (h3 : c'.L = c.L) (h4 : c'.ex = c.ex) (h5 : c'.gn = c.gn) (h : c'.fs.Perm c.fs) : Rel c' ρ st s := by
  obtain ⟨o, b, f, e, g, L⟩ := c'
  dsimp only at h1 h2 h3 h4 h5 h
  subst h1 h2 h3 h4 h5
  have hf : ∀ L', L' ∈ (⟨c.os, c.base, f, c.ex, c.gn, c.L⟩ : Cx).fas ↔ L' ∈ c.fas := fun L' => by
    show L' ∈ c.L :: f.map (·.1) ↔ L' ∈ c.L :: c.fs.map (·.1)
    exact (List.Perm.cons _ (h.map _)).mem_iff
  refine ⟨R.os, R.keep, R.n, R.obj, R.loc, fun p hp => R.fr p (h.mem_iff.mp hp), fun L' hL => R.up L' ((hf L').mp hL), ?_, R.ia, fun i C F q => ⟨(R.dd i C F q).1, fun hm => (R.dd i C F q).2 ((hf _).mp hm)⟩, R.dj, R.ex, R.exn, R.gn, R.gnn, R.bare⟩
  show (c.L :: f.map (·.1)).Nodup
  exact (List.Perm.cons _ (h.map _)).nodup_iff.mpr R.nd

structure GenIs (o : Obj) (g : Nat) : Prop where
  cls : o.cls = .type "generator"
  data : ∃ nm qn, o.data = .fields #[.int g 0, nm, qn]
  slots : o.slots = #[]

/-- what the generator's frame is -/
structure GenEnv (G : Fn) (env : Env) : Prop where
  scope : env.scope = G.scope
  frame : env.frame = some env.locals
  glob : env.globals = mainGlobals
  bi : env.builtins = builtinsNs

/-- a loop's source has given its iterator: what more stands -/
inductive Started (T : Addr → Option Fn) (ρ : Loc) (st : St) (src : AV) (it : Value) : (Cx → Cx) → Prop
  | list {i xs a o} : src = .obj i → i < ρ.n → st.H i = some (.list xs) → it = .ref a → o.cls = .type "list_iterator" → o.data = .fields #[.ref (ρ.a i), .int 0 0] → Started T ρ st src it (fun c => c.hold a o)
  | range {i k a} : src = .obj i → i < ρ.n → st.H i = some (.range k) → 0 ≤ k ∧ k < 1000 → it = .ref a → Started T ρ st src it (fun c => c.hold a { cls := .type "range_iterator", dict := none, data := .fields #[rawInt 0, rawInt k, rawInt 1], slots := #[] })
  | gen {i Fs a o g env G self} : src = .obj i → i < ρ.n → st.H i = some (.inst 101 Fs) → it = .ref a → GenIs o g → T 98 = some G → G.names = [self] → GenEnv G env →
      Started T ρ st src it (fun c => { c with fs := (env.locals, [(self, .obj i)]) :: c.fs, ex := (a, o) :: c.ex, gn := (g, .fresh (.func G.body env)) :: c.gn })

section
variable (prog : Program) (w : World) (K : Frag) (T : Addr → Option Fn)
def SrcOK (dep un : Nat) (st : St) (src : AV) : Prop := ∃ i, src = .obj i ∧ ((∃ xs, st.H i = some (.list xs)) ∨ (∃ k, st.H i = some (.range k) ∧ 0 ≤ k ∧ k < 1000) ∨
  (∃ Fs, st.H i = some (.inst 101 Fs) ∧ Fs.lookup ("generator" : Str) = none ∧ dep < 800 ∧ un < 9000 ∧ ∃ G self, T 98 = some G ∧ G.names = [self]))
def IterS : Prop := ∀ {c A ρ st s sc src u}, Ctxt K c sc A → Rel c ρ st s → VRel ρ src u → SrcOK T sc.dep sc.un st src →
  ∀ (Q E : Value → Shared → Prop), (∀ F ρ' s' it, Ext ρ ρ' → Started T ρ' st src it F → Rel (F c) ρ' st s' → Q it s') → wpAny (model prog w) A (pyIter u) Q E s
def RunS (n : Nat) : Prop := ∀ {c A ρ₀ ρ st₀ st s sc src it F body turn fl st' Done Brk Ret En}, Ctxt K c sc A → Started T ρ₀ st₀ src it F → Ext ρ₀ ρ → (∀ i, i < ρ₀.n → st.H i = st₀.H i) → Rel (F c) ρ st s → loop T n sc body src st = some (fl, st') →
  BodyS c ρ body turn → EndS c ρ fl st' Done Brk Ret → LoopI prog w A it turn Done Brk Ret En s
end

section
variable {prog : Program} {w : World} {A : Around} {E : Value → Shared → Prop} {c : Cx} {ρ : Loc} {st st₁ st' : St} {s : Shared} {sc : Sc} {env : Env} {K : Frag} {T : Addr → Option Fn} {n : Nat}

theorem srcOK_of {body : St → AV → Option (AFl × St)} {src : AV} {z : AFl × St} (h : loop T n sc body src st = some z) : SrcOK T sc.dep sc.un st src := by
  cases n with
  | zero => simp [loop] at h
  | succ n =>
    simp only [loop] at h
    split at h
    · rename_i i
      refine ⟨i, rfl, ?_⟩
      split at h
      · rename_i xs hx; exact .inl ⟨xs, hx⟩
      · rename_i k hx
        split at h
        · rename_i hk; exact .inr (.inl ⟨k, hx, hk⟩)
        · cases h
      · rename_i C Fs hx
        split at h
        · rename_i hc
          obtain ⟨rfl, h1, h2, h3⟩ := hc
          split at h
          · rename_i G hG
            split at h
            · rename_i self hb hn
              exact .inr (.inr ⟨Fs, hx, h3, h1, h2, G, self, hG, hn⟩)
            · cases h
          · cases h
        · cases h
      · cases h
    · cases h

theorem Started.comm {src : AV} {it : Value} {F : Cx → Cx} {ρ' : Loc} {st₂ : St} {loc : List (Str × AV)} {L : Addr} (x : Started T ρ st src it F) (R : Rel ((F c).enter loc L) ρ' st₂ s) : Rel (F (c.enter loc L)) ρ' st₂ s := by
  cases x with
  | list => exact R
  | range => exact R
  | gen => exact R.perm rfl rfl rfl rfl rfl (List.Perm.swap ..)
theorem Started.like {src : AV} {it : Value} {F : Cx → Cx} (x : Started T ρ st src it F) (c : Cx) : like c (F c) := by
  cases x with
  | list => exact ⟨rfl, rfl, fun _ h => h, rfl⟩
  | range => exact ⟨rfl, rfl, fun _ h => h, rfl⟩
  | gen => exact ⟨rfl, rfl, fun L' h => by
      rcases List.mem_cons.mp h with e | h
      · exact List.mem_cons.mpr (.inl e)
      · exact List.mem_cons_of_mem _ (List.mem_cons_of_mem _ h), rfl⟩

theorem ex_For_sound {x : Str} {p pos : Pos} {it : Expr} {b : List Stmt} {fl : AFl} (tp : Top A env) (ih : EvS prog w K T n) (ixs : ExsS prog w K T n) (ii : IterS prog w K T) (ir : RunS prog w K T n) (X : Ctxt K c sc A) (S : SRel c sc ρ env) (R : Rel c ρ st s)
    (h : ex T (n + 1) sc st (.For (.Name x p) it b [] pos) = some (fl, st')) : Gets (model prog w) A c ρ st' (fun ρ' u => FlRel ρ' fl u) (exec (.For (.Name x p) it b [] pos) env) s := by
  simp only [ex] at h
  obtain ⟨⟨src, st₁⟩, h1, hA⟩ := bind_some h
  dsimp only at hA
  intro Q E k
  refine wpAny_For (ih X S R h1 _ _ fun ρ₁ s₁ u e₁ R₁ r₁ => ii X R₁ r₁ (srcOK_of hA) _ _ fun F ρ₂ s₂ itv e₂ St R₂ => ?_) (fun z => by cases it <;> first | rfl | (exfalso; clear hA ih; cases n <;> simp [ev] at h1))
  have lp := fun En => ir (En := En) X St (Ext.refl _) (fun _ _ => rfl) R₂ hA (turn := fun v Post s₁ => ∀ E, wpAny (model prog w) A (assign (.Name x p) env v) (fun _ s₂ => wpAny (model prog w) A (execs b env) Post E s₂) E s₁)
    (Done := fun s' => Q .next s') (Brk := fun s' => Q .next s') (Ret := fun v s' => Q (.ret v) s')
    (fun c' ρ' st₁ s₁ v u f st₂ Post lk e R' r hb post E' => by
      obtain ⟨st₃, w1, w2⟩ := bind_some hb
      have S' := lk.srel (S.ext ((e₁.trans e₂).trans e))
      exact assign_Name (wr_sound S' R' r w1 _ _ fun ρ₃ s₃ _ e₃ R₃ _ => ixs tp (lk.ctxt X) (S'.ext e₃) R₃ w2 _ _ fun ρ₄ s₄ f' e₄ R₄ fr => post ρ₄ s₄ f' (e₃.trans e₄) R₄ fr))
    ⟨fun hf ρ' s' e R' => by subst hf; exact ⟨k _ _ _ ((e₁.trans e₂).trans e) R' .next, k _ _ _ ((e₁.trans e₂).trans e) R' .next⟩, fun v hf ρ' s' u e R' r => by subst hf; exact k _ _ _ ((e₁.trans e₂).trans e) R' (.ret r)⟩
  obtain ⟨I, m, i0, _, turns⟩ := lp (notedBy (model prog w) A env fun e s' => cameBackBy (model prog w) A env E e s')
  refine codeAny_forLoop I (fun n s hI => wpAny_mono (turns n s hI) (fun r s₁ z => ?_) fun _ _ e => e) m i0
  cases r with
  | none => exact wpAny_execs_nil z
  | some v => exact wpAny_mono (z _) (fun _ s₂ z₂ => wpAny_mono z₂ (fun f s₃ z₃ => by cases f <;> exact z₃) fun _ _ e => e) fun _ _ e => e

/-- what a comprehension's scope is, beside its names -/
theorem relabel_eq (S : SRel c sc ρ env) (scope : Scope) : relabel scope env = relabelS scope sc.scope := by
  unfold relabel relabelS
  simp only [S.scope, S.kindOf]

def closeL (env : Env) : List (Str × NameKind) → List (Str × Addr) → List (Str × Addr)
  | [], acc => acc
  | (x, k) :: r, acc => closeL env r (if k = .free then (match env.cells.lookup x with | some a => (x, a) :: acc | none => acc) else acc)
theorem closeL_ok {env : Env} : ∀ (names : List (Str × NameKind)) (acc : List (Str × Addr)), (∀ p ∈ acc, env.cells.lookup p.1 = some p.2) → ∀ p ∈ closeL env names acc, env.cells.lookup p.1 = some p.2
  | [], acc, h => h
  | (x, k) :: r, acc, h => by
    refine closeL_ok r _ ?_
    split
    · split
      · rename_i a ha
        intro p hp
        rcases List.mem_cons.mp hp with rfl | hp
        · exact ha
        · exact h p hp
      · exact h
    · exact h
theorem closeL_sub {env : Env} : ∀ (names : List (Str × NameKind)) (acc : List (Str × Addr)), ∀ p ∈ acc, p ∈ closeL env names acc
  | [], acc, p, h => h
  | (x, k) :: r, acc, p, h => by
    refine closeL_sub r _ p ?_
    split
    · split
      · exact List.mem_cons_of_mem _ h
      · exact h
    · exact h
theorem closeL_mem {env : Env} {x : Str} {a : Addr} (ha : env.cells.lookup x = some a) : ∀ (names : List (Str × NameKind)) (acc : List (Str × Addr)), (x, NameKind.free) ∈ names → (x, a) ∈ closeL env names acc
  | (y, k) :: r, acc, h => by
    rcases List.mem_cons.mp h with e | h
    · cases e
      refine closeL_sub r _ _ ?_
      rw [if_pos rfl, ha]
      exact List.mem_cons_self
    · exact closeL_mem ha r _ h
theorem mem_lookup {α : Type} : ∀ {l : List (Str × α)} {x : Str} {a : α}, (x, a) ∈ l → ∃ b, l.lookup x = some b
  | (y, b) :: r, x, a, h => by
    rw [List.lookup_cons]
    cases hb : x == y with
    | true => exact ⟨b, rfl⟩
    | false =>
      rcases List.mem_cons.mp h with e | h
      · cases e; simp at hb
      · exact mem_lookup h
theorem closeL_lookup {env : Env} {names : List (Str × NameKind)} {x : Str} {a : Addr} (ha : env.cells.lookup x = some a) (h : (x, NameKind.free) ∈ names) : (closeL env names []).lookup x = some a := by
  obtain ⟨b, hb⟩ := mem_lookup (closeL_mem ha names [] h)
  have := closeL_ok (env := env) names [] (fun _ h => nomatch h) _ (mem_of_lookup hb)
  rw [ha] at this
  rw [hb, ← this]
theorem closureFor_of {scope : Scope} {env : Env} (h : ∀ x, (x, NameKind.free) ∈ scope.names → ∃ a, env.cells.lookup x = some a) : closureFor scope env = Pure.pure (closeL env scope.names []) := by
  have go : ∀ (names : List (Str × NameKind)) (acc : List (Str × Addr)), (∀ x, (x, NameKind.free) ∈ names → ∃ a, env.cells.lookup x = some a) →
      (forIn names acc (fun (x : Str × NameKind) (r : List (Str × Addr)) => (do
        if x.2 == NameKind.free then
          let a ← cellOf env x.1
          Pure.pure (ForInStep.yield ((x.1, a) :: r))
        else Pure.pure (ForInStep.yield r) : Sem (ForInStep (List (Str × Addr)))))) = Pure.pure (closeL env names acc) := by
    intro names
    induction names with
    | nil => intro acc _; rfl
    | cons p r ih =>
      intro acc h
      obtain ⟨x, k⟩ := p
      have hr := fun y hy => h y (List.mem_cons_of_mem _ hy)
      rw [List.forIn_cons]
      unfold closeL
      cases hk : decide (k = NameKind.free) with
      | true =>
        have hk := of_decide_eq_true hk
        subst hk
        obtain ⟨a, ha⟩ := h x List.mem_cons_self
        have hc : cellOf env x = Pure.pure a := by unfold cellOf; rw [ha]
        rw [if_pos rfl, ha]
        rw [if_pos (by rfl), hc]
        exact ih _ hr
      | false =>
        have hk := of_decide_eq_false hk
        rw [if_neg hk]
        rw [if_neg (by simpa using hk)]
        exact ih _ hr
  unfold closureFor
  have := go scope.names [] h
  exact this ▸ (by first | rfl | (simp))
theorem closeOver_spec : ∀ {names : List (Str × NameKind)} {cl : List (Str × Nat)}, closeOver sc names = some cl →
    (∀ x, (x, NameKind.free) ∈ names → ∃ i, sc.cells.lookup x = some i) ∧ ∀ x i, cl.lookup x = some i → (x, NameKind.free) ∈ names ∧ sc.cells.lookup x = some i
  | [], cl, h => by
    cases h
    exact ⟨fun _ h => (nomatch h), fun _ _ h => by cases h⟩
  | (y, k) :: r, cl, h => by
    obtain ⟨l, h1, h2⟩ := bind_some (show (closeOver sc r).bind (fun l => if k = .free then (sc.cells.lookup y).map fun i => (y, i) :: l else some l) = some cl from h)
    obtain ⟨ih1, ih2⟩ := closeOver_spec h1
    split at h2
    · rename_i hk
      subst hk
      obtain ⟨i, h3, rfl⟩ := map_some h2
      refine ⟨fun x hx => ?_, fun x j hx => ?_⟩
      · rcases List.mem_cons.mp hx with e | hx
        · cases e; exact ⟨i, h3⟩
        · exact ih1 x hx
      · rw [List.lookup_cons] at hx
        cases hb : x == y with
        | true => rw [hb] at hx; cases hx; rw [beq_iff_eq.mp hb]; exact ⟨List.mem_cons_self, h3⟩
        | false => rw [hb] at hx; exact ⟨List.mem_cons_of_mem _ (ih2 x j hx).1, (ih2 x j hx).2⟩
    · rename_i hk
      cases h2
      refine ⟨fun x hx => ?_, fun x j hx => ⟨List.mem_cons_of_mem _ (ih2 x j hx).1, (ih2 x j hx).2⟩⟩
      rcases List.mem_cons.mp hx with e | hx
      · cases e; exact absurd rfl hk
      · exact ih1 x hx
end

/-- the frame's place is told from outside -/
theorem Rel.outside {c : Cx} {ρ : Loc} {st : St} {s : Shared} {loc : List (Str × AV)} {L : Addr} (R : Rel (c.enter loc L) ρ st s) : Rel { c with fs := (L, st.loc) :: c.fs } ρ { st with loc := loc } s := by
  have hf : ∀ L', L' ∈ ({ c with fs := (L, st.loc) :: c.fs } : Cx).fas ↔ L' ∈ (c.enter loc L).fas := fun L' => by
    show L' ∈ c.L :: L :: c.fs.map (·.1) ↔ L' ∈ L :: c.L :: c.fs.map (·.1)
    exact (List.Perm.swap ..).mem_iff
  refine ⟨R.os, R.keep, R.n, R.obj, R.fr (c.L, loc) List.mem_cons_self, fun p hp => ?_, fun L' hL => R.up L' ((hf L').mp hL), ?_, R.ia, fun i C F q => ⟨(R.dd i C F q).1, fun hm => (R.dd i C F q).2 ((hf _).mp hm)⟩, R.dj, R.ex, R.exn, R.gn, R.gnn, R.bare⟩
  · rcases List.mem_cons.mp hp with rfl | hp
    · exact R.loc
    · exact R.fr p (List.mem_cons_of_mem _ hp)
  · show (c.L :: L :: c.fs.map (·.1)).Nodup
    exact (List.Perm.swap ..).nodup_iff.mpr R.nd
theorem Rel.inside {c : Cx} {ρ : Loc} {st : St} {s : Shared} {loc : List (Str × AV)} {L : Addr} (R : Rel { c with fs := (L, loc) :: c.fs } ρ st s) : Rel (c.enter st.loc L) ρ { st with loc := loc } s := by
  have hf : ∀ L', L' ∈ (c.enter st.loc L).fas ↔ L' ∈ ({ c with fs := (L, loc) :: c.fs } : Cx).fas := fun L' => by
    show L' ∈ L :: c.L :: c.fs.map (·.1) ↔ L' ∈ c.L :: L :: c.fs.map (·.1)
    exact (List.Perm.swap ..).mem_iff
  refine ⟨R.os, R.keep, R.n, R.obj, R.fr (L, loc) List.mem_cons_self, fun p hp => ?_, fun L' hL => R.up L' ((hf L').mp hL), ?_, R.ia, fun i C F q => ⟨(R.dd i C F q).1, fun hm => (R.dd i C F q).2 ((hf _).mp hm)⟩, R.dj, R.ex, R.exn, R.gn, R.gnn, R.bare⟩
  · rcases List.mem_cons.mp hp with rfl | hp
    · exact R.loc
    · exact R.fr p (List.mem_cons_of_mem _ hp)
  · show (L :: c.L :: c.fs.map (·.1)).Nodup
    exact (List.Perm.swap ..).nodup_iff.mpr R.nd
/-- a frame's place counts no more -/
theorem Rel.dropFr {c : Cx} {ρ : Loc} {st : St} {s : Shared} {loc : List (Str × AV)} {L : Addr} (R : Rel { c with fs := (L, loc) :: c.fs } ρ st s) {h' : Heap} (hs : Heap.ExtBut L s.heap h') : Rel c ρ st { s with heap := h' } := by
  have hL : L ∈ ({ c with fs := (L, loc) :: c.fs } : Cx).fas := List.mem_cons_of_mem _ List.mem_cons_self
  obtain ⟨oL, es, n, hoL, hdL⟩ := R.fas_dict hL
  have hnd : ∀ L' ∈ c.fas, L' ≠ L := fun L' h q => by
    subst q
    have nd : (c.L :: L' :: c.fs.map (·.1)).Nodup := R.nd
    obtain ⟨n1, n2⟩ := List.nodup_cons.mp nd
    rcases List.mem_cons.mp h with e | h
    · exact n1 (e ▸ List.mem_cons_self)
    · exact (List.nodup_cons.mp n2).1 h
  have nfd : ∀ i C F, st.H i = some (.inst C F) → ρ.d i ≠ L := fun i C F e q => (R.dd i C F e).2 (q ▸ hL)
  have nfa : ∀ i o', st.H i = some o' → ρ.a i ≠ L := fun i o' e q => R.a_not_fas e (q ▸ hL)
  have ns : ∀ L' l, L' ≠ L → NsRel ρ s.heap L' l → NsRel ρ h' L' l := by
    rintro L' l hne ⟨m, ⟨o', es, n, x, r⟩, q⟩
    exact ⟨m, ⟨o', es, n, hs _ _ hne x, r⟩, q⟩
  have sub : ∀ L' ∈ c.fas, L' ∈ ({ c with fs := (L, loc) :: c.fs } : Cx).fas := fun L' h => by
    rcases List.mem_cons.mp h with e | h
    · exact List.mem_cons.mpr (.inl e)
    · exact List.mem_cons_of_mem _ (List.mem_cons_of_mem _ h)
  refine ⟨R.os, fun b o' e => hs b o' (fun q => ltle (Heap.lt_size (q ▸ e)) (R.up _ hL)) (R.keep b o' e), R.n, fun i o' e => ?_, ns _ _ (hnd _ List.mem_cons_self) R.loc,
    fun p hp => ns _ _ (hnd _ (List.mem_cons_of_mem _ (List.mem_map_of_mem hp))) (R.fr p (List.mem_cons_of_mem _ hp)), fun L' h => R.up L' (sub L' h), ?_, R.ia, fun i C F q => ⟨(R.dd i C F q).1, fun hm => (R.dd i C F q).2 (sub _ hm)⟩, R.dj, fun p hp => ?_, R.exn, R.gn, R.gnn, R.bare⟩
  · obtain ⟨x, y, z⟩ := R.obj i o' e
    refine ⟨x, y, ?_⟩
    have ha := nfa i o' e
    cases o' with
    | inst C F =>
      obtain ⟨a', es, n, b, r⟩ := z
      exact ⟨hs _ _ ha a', es, n, hs _ _ (nfd i C F e) b, r⟩
    | list xs => obtain ⟨vs, ⟨o, x, r⟩, q⟩ := z; exact ⟨vs, ⟨o, hs _ _ ha x, r⟩, q⟩
    | args xs => obtain ⟨vs, ⟨o, x, r⟩, q⟩ := z; exact ⟨vs, ⟨o, hs _ _ ha x, r⟩, q⟩
    | range n => obtain ⟨t, u, v, x⟩ := z; exact ⟨t, u, v, hs _ _ ha x⟩
    | cell v => obtain ⟨v, ⟨o, x, r⟩, q⟩ := z; exact ⟨v, ⟨o, hs _ _ ha x, r⟩, q⟩
  · have nd : (c.L :: L :: c.fs.map (·.1)).Nodup := R.nd
    have := (List.Perm.swap L c.L (c.fs.map (·.1))).nodup_iff.mp nd
    exact (List.nodup_cons.mp this).2
  · obtain ⟨x1, x2⟩ := R.ex p hp
    exact ⟨hs _ _ (R.ex_ne hp hoL fun vs e => by rw [hdL] at e; cases e) x1, x2⟩
end Mine
end

section
open PySem PySem.W PyProof.Rows PySem.Calls
set_option maxRecDepth 100000
namespace Mine

section
variable {prog : Program} {w : World} {A : Around} {E : Value → Shared → Prop} {c : Cx} {ρ : Loc} {st st₁ st' : St} {s : Shared} {sc : Sc} {env : Env} {K : Frag} {T : Addr → Option Fn} {n : Nat}

theorem relabel_cell {names : List (Str × NameKind)} (h : hasCell names = false) : ∀ x ∈ names, x.2 ≠ .cell := fun x hx e => by
  unfold hasCell at h
  have := List.any_eq_false.mp h x hx
  simp [e] at this

/-- what is asked behind a comprehension -/
def HU (prog : Program) (w : World) (A : Around) (c : Cx) (ρ : Loc) (st' st'' : St) (v : AV) (Q : Value → Shared → Prop) : Option (Value → Sem Unit) → Prop
  | none => ∀ ρ' s' u, Ext ρ ρ' → Rel c ρ' st' s' → VRel ρ' v u → Q u s'
  | some u => (∀ c' ρ' s' y (Post : Unit → Shared → Prop) E, like c c' → Ext ρ ρ' → Rel c' ρ' st' s' → VRel ρ' v y → (∀ ρ'' s'', Ext ρ' ρ'' → Rel c' ρ'' st'' s'' → Post () s'') → wpAny (model prog w) A (u y) Post E s') ∧
      ∀ ρ' s', Ext ρ ρ' → Rel c ρ' st'' s' → Q .none s'

def TstsS (prog : Program) (w : World) (K : Frag) (T : Addr → Option Fn) (n : Nat) : Prop := ∀ {c A ρ st s sc env es b st'}, Ctxt K c sc A → SRel c sc ρ env → Rel c ρ st s → tsts T n sc st es = some (b, st') →
  Gets (model prog w) A c ρ st' (fun _ u => u = b) (forIn es true fun c r => if r = true then do let ok ← isTrue c env (eval c env); Pure.pure (ForInStep.yield ok) else Pure.pure (ForInStep.yield r)) s
theorem tsts_sound (it : TstS prog w K T n) : TstsS prog w K T (n + 1) := by
  intro c A ρ st s sc env es b st' X S R h Q E k
  match es with
  | [] => simp only [tsts] at h; cases h; exact wpAny_tests_nil (k _ _ _ (Ext.refl _) R rfl)
  | [e] => simp only [tsts] at h; exact wpAny_tests_one (it X S R h _ _ k)
  | _ :: _ :: _ => simp [tsts] at h

theorem comp_sound {elt iter : Expr} {x : Str} {px pos : Pos} {ifs : List Expr} {scope : Scope} {v : AV} {st'' : St} {use : Option (Value → Sem Unit)} {Q : Value → Shared → Prop} (ih : EvS prog w K T n) (its : TstsS prog w K T n) (ii : IterS prog w K T) (ir : RunS prog w K T n) (X : Ctxt K c sc A) (S : SRel c sc ρ env) (R : Rel c ρ st s)
    (h : ev T (n + 1) sc st (.ListComp elt [⟨.Name x px, iter, ifs, 0⟩] scope pos) = some (v, st')) (hu : HU prog w A c ρ st' st'' v Q use) :
    wpAny (model prog w) A (comprehension (.ListComp elt [⟨.Name x px, iter, ifs, 0⟩] scope pos) scope env (firstIterPos [⟨.Name x px, iter, ifs, 0⟩] pos) (newList []) false (eval iter env) use) Q E s := by
  simp only [ev] at h
  split at h
  · rename_i hc
    obtain ⟨c1, c2, c3, c4⟩ := hc
    obtain ⟨⟨src, st₀⟩, h1, hA⟩ := bind_some h
    obtain ⟨cl, h2, hB⟩ := bind_some hA
    obtain ⟨⟨fl, st₂⟩, h3, hC⟩ := bind_some hB
    clear h hA hB
    dsimp only at h2 h3 hC
    cases fl with
    | brk => cases hC
    | ret z => cases hC
    | next =>
    cases hC
    obtain ⟨cs1, cs2⟩ := closeOver_spec h2
    have hclos : closureFor scope env = Pure.pure (closeL env scope.names []) := closureFor_of fun y hy => by
      obtain ⟨i, hi⟩ := cs1 y hy
      exact ⟨_, (S.cells y i hi).2⟩
    refine wpAny_comprehension_free (g := ⟨.Name x px, iter, ifs, 0⟩) (gs := []) rfl (fun z => by cases iter <;> first | rfl | (exfalso; clear ih h3 hu; cases n <;> simp [ev] at h1)) hclos c1
      (fun y hy hl => of_decide_eq_true (List.all_eq_true.mp c4 y hy) hl) ?_
    refine ih X S R h1 _ _ fun ρ₁ s₁ u e₁ R₁ r₁ => ?_
    -- the source
    have hsrc : SrcOK T sc.dep sc.un st₀ src := by
      obtain ⟨i, hi, hk⟩ := srcOK_of h3
      subst hi
      obtain ⟨hin, _⟩ := r₁
      have hne : i ≠ st₀.n := Nat.ne_of_lt (R₁.n ▸ hin)
      have e0 : ({ H := (st₀.add (.list [])).H, n := (st₀.add (.list [])).n, loc := [] } : St).H i = st₀.H i := upd_ne _ _ hne
      rw [e0] at hk
      exact ⟨i, rfl, hk⟩
    refine ii X R₁ r₁ hsrc _ _ fun F ρ₂ s₂ itv e₂ Sd R₂ => ?_
    -- the list to come
    refine wpAny_newObj_type ?_ (by show ([] : List Value).toArray.size ≤ sizeLine; exact Nat.zero_le _)
    obtain ⟨e₃, R₃, r₃⟩ := R₂.newList (xs := []) (vs := []) trivial
    -- its own names
    refine wpAny_newFunctionEnv (relabel_cell c3) (by intro y hy; simp at hy) (fun h₁ hns₁ hsb₁ => ?_) c1
    dsimp only at hns₁ hsb₁ ⊢
    generalize hH2 : s₂.heap.push { cls := .type "list", dict := none, data := .seq ([] : List Value).toArray } = H2 at hns₁ hsb₁ ⊢
    have R₃ : Rel (F c) (ρ₂.add s₂.heap.objs.size s₂.heap.objs.size) (st₀.add (.list [])) { s₂ with heap := H2 } := by rw [← hH2]; exact R₃
    have keep₁ : ∀ b o, H2.get? b = some o → h₁.get? b = some o := fun b o e => hsb₁.extBut b o (Nat.ne_of_lt (Heap.lt_size e)) (Heap.get?_push_of_some _ e)
    have R₄ := Started.comm Sd ((R₃.enter keep₁ (Nat.le_refl _) ⟨_, hns₁, fun y z hy => by cases hy⟩ (loc' := [])).toks (s₂.toks + ([] : List (Str × Value)).length))
    generalize hC : H2.objs.size = C at hns₁ hsb₁ R₄ ⊢
    have e₀₃ := (e₁.trans e₂).trans e₃
    have S' : SRel (c.enter st₀.loc C) { scope := relabelS scope sc.scope, cells := cl, dep := sc.dep, un := sc.un } (ρ₂.add s₂.heap.objs.size s₂.heap.objs.size)
        { newEnv scope C env.globals (closeL env scope.names []) env.qual none .none (some env) builtinsNs with scope := relabel scope env } := by
      refine ⟨relabel_eq S scope, c1, rfl, S.glob, S.bi, fun y i hy => ?_⟩
      obtain ⟨hf, hs⟩ := cs2 y i hy
      obtain ⟨hin, hc⟩ := (S.ext e₀₃).cells y i hs
      exact ⟨hin, closeL_lookup hc hf⟩
    have X' : Ctxt K (c.enter st₀.loc C) { scope := relabelS scope sc.scope, cells := cl, dep := sc.dep, un := sc.un } A := by
      obtain ⟨a1, a2, a3, fr, a4, a5⟩ := X.A
      refine ⟨X.G, ⟨a1, a2, a3, fr, a4, fun e he => ?_⟩, X.dep, X.un⟩
      obtain ⟨z1, L', z2, z3⟩ := a5 e he
      exact ⟨z1, L', z2, List.mem_cons_of_mem _ z3⟩
    have hH : ∀ i, i < ρ₂.n → (st₀.add (.list [])).H i = st₀.H i := fun i hi => upd_ne _ _ (Nat.ne_of_lt (R₂.n ▸ hi))
    -- what the end gives
    have fin : ∀ ρ' s', Ext (ρ₂.add s₂.heap.objs.size s₂.heap.objs.size) ρ' → Rel (c.enter st₀.loc C) ρ' st₂ s' → compPost (model prog w) A E use Q (.ref s₂.heap.objs.size) C (.ok .next) s' := fun ρ' s' e R' => by
      have R₆ := R'.outside
      have ra : VRel ρ' (.obj st₀.n) (.ref s₂.heap.objs.size) := VRel.ext e r₃
      cases use with
      | none =>
        obtain ⟨m, hm, _⟩ := R'.loc
        exact ⟨m, hm, fun h' hs => hu ρ' _ _ (e₀₃.trans e) (R₆.dropFr hs.extBut) ra⟩
      | some uu =>
        refine hu.1 { c with fs := (C, st₂.loc) :: c.fs } ρ' s' _ _ E ⟨rfl, rfl, fun L' hL => ?_, rfl⟩ (e₀₃.trans e) R₆ ra fun ρ'' s'' e' R'' => ?_
        · rcases List.mem_cons.mp hL with z | z
          · exact List.mem_cons.mpr (.inl z)
          · exact List.mem_cons_of_mem _ (List.mem_cons_of_mem _ z)
        · obtain ⟨m, hm, _⟩ := R''.fr (C, st₂.loc) List.mem_cons_self
          exact ⟨m, hm, fun h' hs => hu.2 ρ'' _ ((e₀₃.trans e).trans e') (R''.dropFr hs.extBut)⟩
    have lp := fun En => ir (En := En) (st := { H := (st₀.add (.list [])).H, n := (st₀.add (.list [])).n, loc := [] }) X' Sd e₃ hH R₄ h3
      (turn := fun vv Post s₃ => ∀ E, wpAny (model prog w) A (assign (.Name x px) { newEnv scope C env.globals (closeL env scope.names []) env.qual none .none (some env) builtinsNs with scope := relabel scope env } vv) (fun _ s₄ =>
        wpAny (model prog w) A (forIn ifs true fun c r => if r = true then do let ok ← isTrue c { newEnv scope C env.globals (closeL env scope.names []) env.qual none .none (some env) builtinsNs with scope := relabel scope env } (eval c { newEnv scope C env.globals (closeL env scope.names []) env.qual none .none (some env) builtinsNs with scope := relabel scope env }); Pure.pure (ForInStep.yield ok) else Pure.pure (ForInStep.yield r)) (fun ok s₅ =>
          if ok = true then wpAny (model prog w) A (eval elt { newEnv scope C env.globals (closeL env scope.names []) env.qual none .none (some env) builtinsNs with scope := relabel scope env }) (fun y s₆ =>
            wpAny (model prog w) A (call (.builtin "list.append") [.ref s₂.heap.objs.size, y]) (fun _ s₇ => Post .next s₇) E s₆) E s₅ else Post .next s₅) E s₄) E s₃)
      (Done := fun s' => compPost (model prog w) A E use Q (.ref s₂.heap.objs.size) C (.ok .next) s') (Brk := fun _ => True) (Ret := fun _ _ => True)
      (fun c' ρ' st₃ s₃ vv u f st₄ Post lk e R' r hb post E' => by
        obtain ⟨st₅, w1, w2⟩ := bind_some hb
        obtain ⟨⟨ok, st₆⟩, w3, w4⟩ := bind_some w2
        have S₁ := lk.srel (S'.ext e)
        refine assign_Name (wr_sound S₁ R' r w1 _ _ fun ρ₃ s₄ _ e₄ R₅ _ => its (lk.ctxt X') (S₁.ext e₄) R₅ w3 _ _ fun ρ₄ s₅ b e₅ R₆ hb' => ?_)
        subst hb'
        dsimp only at w4
        cases b with
        | false =>
          rw [if_neg Bool.false_ne_true] at w4 ⊢
          cases w4
          exact post _ _ _ (e₄.trans e₅) R₆ .next
        | true =>
          rw [if_pos rfl] at w4 ⊢
          obtain ⟨⟨y, st₇⟩, w5, w6⟩ := bind_some w4
          dsimp only at w6
          refine ih (lk.ctxt X') ((S₁.ext e₄).ext e₅) R₆ w5 _ _ fun ρ₅ s₆ yv e₆ R₇ ry => ?_
          split at w6
          · rename_i ys hacc
            split at w6
            · rename_i hl
              cases w6
              obtain ⟨hin, hre⟩ := VRel.ext (((e.trans e₄).trans e₅).trans e₆) r₃
              obtain ⟨_, _, ws', hls, q''⟩ := R₇.obj _ _ hacc
              have hre : Value.ref s₂.heap.objs.size = .ref (ρ₅.a st₀.n) := hre
              rw [hre]
              have hpl := hls.plain
              refine wpAny_list_append_plain hpl (fun h' hp' hs' => post _ _ _ ((e₄.trans e₅).trans e₆) ?_ .next) (fits1000 (by rw [List.size_toArray, q''.length]; exact hl))
              have hls' : IsLs h' (ρ₅.a st₀.n) (ws' ++ [yv]) := IsLs.of (by simpa using hp')
              exact R₇.setObj hacc hs' hpl.choose_spec (fun _ z => by cases z) (fun _ _ z => by cases z) (fun _ _ z => by cases z) (fun _ z => by cases z) ⟨ws' ++ [yv], hls', q''.append ⟨ry, trivial⟩⟩
            · cases w6
          · cases w6)
      ⟨fun _ ρ' s' e R' => ⟨fin ρ' s' e R', trivial⟩, fun z hz => by cases hz⟩
    obtain ⟨I0, m0, i00, sf, _⟩ := lp (fun _ _ => True)
    refine (fun go => codeAny_compStart_list go (sf m0 _ i00 _ _ go)) ?_
    obtain ⟨I, m, i0, _, turns⟩ := lp (notedBy (model prog w) A { newEnv scope C env.globals (closeL env scope.names []) env.qual none .none (some env) builtinsNs with scope := relabel scope env } fun e s' => compPost (model prog w) A E use Q (.ref s₂.heap.objs.size) C (.error e) s')
    refine codeAny_compLoop_tests I (fun n s hI => wpAny_mono (turns n s hI) (fun r s₁ z => ?_) fun _ _ e => e) m i0
    cases r with
    | none => exact z
    | some v => exact z _
  · cases h

theorem comp_shape {elt : Expr} {gens : List Comprehension} {scope : Scope} {pos : Pos} {z : AV × St} (h : ev T (n + 1) sc st (.ListComp elt gens scope pos) = some z) : ∃ x px iter ifs, gens = [⟨.Name x px, iter, ifs, 0⟩] := by
  match gens with
  | [] => simp [ev] at h
  | _ :: _ :: _ => simp [ev] at h
  | [⟨t, iter, ifs, a⟩] =>
    cases t with
    | Name x px =>
      cases a with
      | ofNat k =>
        cases k with
        | zero => exact ⟨x, px, iter, ifs, rfl⟩
        | succ k => simp only [ev] at h; cases h
      | negSucc k => simp only [ev] at h; cases h
    | _ => simp [ev] at h

theorem ev_ListComp_sound {elt : Expr} {gens : List Comprehension} {scope : Scope} {pos : Pos} {v : AV} (ih : EvS prog w K T n) (its : TstsS prog w K T n) (ii : IterS prog w K T) (ir : RunS prog w K T n) (X : Ctxt K c sc A) (S : SRel c sc ρ env) (R : Rel c ρ st s)
    (h : ev T (n + 1) sc st (.ListComp elt gens scope pos) = some (v, st')) : Gets (model prog w) A c ρ st' (fun ρ' u => VRel ρ' v u) (eval (.ListComp elt gens scope pos) env) s := by
  obtain ⟨x, px, iter, ifs, rfl⟩ := comp_shape h
  intro Q E k
  exact comp_sound (use := none) (st'' := st') ih its ii ir X S R h k

theorem use_sound (ih : EvS prog w K T n) (its : TstsS prog w K T n) (ii : IterS prog w K T) (ir : RunS prog w K T n) : UseS prog w K T (n + 1) := by
  intro c A ρ st s sc env elt gens scope pos v st' st'' X S R h use Q E h1 h2
  obtain ⟨x, px, iter, ifs, rfl⟩ := comp_shape h
  rw [arm_evalThenUse_ListComp]
  exact wpAny_bind (wpAny_mono (comp_sound (use := some use) (st'' := st'') (Q := fun _ s' => Q () s') ih its ii ir X S R h ⟨h1, h2⟩) (fun _ s' hq => wpAny_pure hq) fun _ _ e => e)
end
end Mine
end

section
open PySem PySem.W PyProof.Rows PySem.Calls Builtin Builtin.ObjectAttr
set_option maxRecDepth 100000
namespace Mine

section
variable {prog : Program} {w : World} {A : Around} {E : Value → Shared → Prop} {c : Cx} {ρ : Loc} {st st₁ st' : St} {s : Shared} {sc : Sc} {env : Env} {K : Frag} {T : Addr → Option Fn} {n : Nat}

theorem findObj_missing {C : Addr} {od : Obj} {name : Str} (hh : hasDictIn K C = true) (ha : findIn K (.ref C) name = some none) (hl : lookIn name od = some none) (hc : copiedNames.contains name = false) :
    findObj K C (some od) name = some .missing := by
  obtain ⟨cd, hc', hd⟩ := any_some hh
  unfold findObj
  have ho : W.ownOf cd (some od) name = some none := by unfold W.ownOf; rw [if_pos hd]; exact hl
  rw [hc', Option.bind_some, ha, Option.bind_some]
  simp only [Option.bind_some, ho, hc, Bool.false_and, Bool.false_eq_true, if_false]

theorem get_missing {x C : Addr} {ox : Obj} {od : Option Obj} {name : Str} {cd : ClassData} {expr : Bool} {Q : Value → Shared → Prop} (X : K.In s.heap) (I : InstAt s.heap x ox C od) (hga : findIn K (.ref C) "__getattribute__" = some (some (.builtin "object.__getattribute__")))
    (hk : findIn K (.ref C) "__getattr__" = some none) (hf : findObj K C od name = some .missing) (hcd : clsIn K C = some cd) (hn : cd.name.cps.foldl (fun k c => k + (Str.utf8Of c).length) 0 ≤ 100) (hm : ((s!"'{cd.name.toString}' object has no attribute '" : Str) ++ name ++ "'" : Str).length ≤ sizeLine)
    (hA : A.handled = none) (h : ∀ h' tk e, Heap.NewExcOf s.heap h' e "AttributeError" → E (.ref e) { s with heap := h', toks := tk }) : wpAny (model prog w) A (getAttr (.ref x) name expr) Q E s := by
  refine get_open X I hga ?_
  obtain ⟨hh', g, d, t, os⟩ := s
  have L0 := I.type (M := model prog w)
  have L1 := looks_find (M := model prog w) X I hf
  have L2 := looks_findIn (M := model prog w) X hk
  have L3 := looks_clsIn (M := model prog w) X hcd
  refine wpAny_bind (wpAny_pure (wpAny_bind (L0.at (wpAny_bind (L1.at (wpAny_bind (L2.at ?_)))))))
  show wpAny _ _ (noSuchAttribute (.ref x) name) _ _ _
  unfold noSuchAttribute typeNameOfCut
  refine wpAny_bind (wpAny_bind ?_)
  unfold shownTypeOf
  refine wpAny_bind (L0.at ?_)
  rw [if_neg (by simp)]
  refine wpAny_pure ?_
  unfold typeNameCut
  refine wpAny_bind (L3.at ?_)
  rw [if_pos hn]
  refine wpAny_pure ?_
  refine wpAny_raiseAttrError hA (fun h' tk e hx => ?_) hm
  obtain ⟨t', u', he⟩ := hx.there
  unfold noteIf
  rw [if_pos rfl]
  have f1 := sub_AttributeError
  repeat (any_goals (first | assumption | wp_step))
  exact h _ _ _ hx.of

theorem sub_base_AttributeError : isSubtype (.type "AttributeError") (.type "BaseException") = Pure.pure true := by rw [isSubtype_type]; kernel_rfl
theorem meta_AttributeError : isSubtype (.type ((Manifest.find? "AttributeError").elim "type" fun x => x.metatype)) (.type "tuple") = Pure.pure false := by kernel_rfl

/-- the frames that a run stands on, as dicts -/
theorem funFrames_of (R : Rel c ρ st s) : ∀ {fl : List Env}, (∀ e ∈ fl, e.scope.kind ≠ .module ∧ ∃ L', e.frame = some L' ∧ L' ∈ c.fas) → ∀ {base : Heap}, (∀ L' ∈ c.fas, base.get? L' = none) → s.heap.FunFrames base fl
  | [], _, _, _ => trivial
  | e :: r, h, base, hb => by
    obtain ⟨h1, L', h2, h3⟩ := h e List.mem_cons_self
    obtain ⟨ob, es, n, h4, h5⟩ := R.fas_dict h3
    exact ⟨h1, ⟨L', ob, h2, hb L' h3, h4, fun vs z => by rw [h5] at z; cases z⟩, funFrames_of R (fun e he => h e (List.mem_cons_of_mem _ he)) hb⟩

theorem ex_Try_sound {x a y : Str} {xp ap rp yp np hp pos tp' : Pos} {k : Nat} {rp2 : Pos} {fl : AFl} (KK : KOK K) (tp : Top A env) (X : Ctxt K c sc A) (S : SRel c sc ρ env) (R : Rel c ρ st s)
    (h : ex T (n + 1) sc st (.Try [.Return (some (.Attribute (.Name x xp) a ap)) rp] [.ExceptHandler (some (.Name y yp)) none [.Return (some (.Constant .none k np)) rp2] hp] [] [] pos) = some (fl, st')) :
    Gets (model prog w) A c ρ st' (fun ρ' u => FlRel ρ' fl u) (exec (.Try [.Return (some (.Attribute (.Name x xp) a ap)) rp] [.ExceptHandler (some (.Name y yp)) none [.Return (some (.Constant .none k np)) rp2] hp] [] [] pos) env) s := by
  simp only [ex] at h
  split at h
  · rename_i ha
    split at h
    · rename_i t hy
      split at h
      · rename_i ht
        subst ht
        obtain ⟨v, h1, hA⟩ := bind_some h
        clear h
        split at hA
        · rename_i i
          split at hA
          · rename_i C F hi
            split at hA
            · rename_i hC
              have hown : own C := hC.elim .inl fun z => .inr (.inr z)
              have hfld : fld a := ha.elim .inl fun z => .inr (.inl z)
              split at hA
              · rename_i u hu
                split at hA
                · rename_i ht
                  cases hA
                  -- the field is there
                  intro Q E kk
                  refine wpAny_Try_except (wpAny_execs_cons (wpAny_Return_some ?_))
                  rw [arm_eval_Attribute, attributeBase_plain rfl]
                  obtain ⟨uo, ro, go⟩ := name_sound (M := model prog w) (A := A) (E := fun e s₁ => wpAny (model prog w) A (noteFrame e env) (fun _ s₂ => wpAny (model prog w) A (setFlight e none) (fun _ s₃ => wpAny (model prog w) A (handleBy e env [.ExceptHandler (some (.Name y yp)) none [.Return (some (.Constant .none k np)) rp2] hp]) Q E s₃) E s₂) E s₁) (pos := xp) X.G S R h1
                  obtain ⟨hin, rfl⟩ := ro
                  refine wpAny_bind (go _ (wpAny_bind (wpAny_standAt (wpAny_bind (wpAny_holding (field_sound X.G KK R hi hown hfld hu ht _ _ fun ρ' s' u' e R' r => ?_))))))
                  exact wpAny_bind (wpAny_letTemporaryGo (wpAny_pure (kk _ _ _ e R' (.ret r))))
                · cases hA
              · rename_i hu
                cases hA
                intro Q E kk
                refine wpAny_Try_except (wpAny_execs_cons (wpAny_Return_some ?_))
                rw [arm_eval_Attribute, attributeBase_plain rfl]
                obtain ⟨uo, ro, go⟩ := name_sound (M := model prog w) (A := A) (E := fun e s₁ => wpAny (model prog w) A (noteFrame e env) (fun _ s₂ => wpAny (model prog w) A (setFlight e none) (fun _ s₃ => wpAny (model prog w) A (handleBy e env [.ExceptHandler (some (.Name y yp)) none [.Return (some (.Constant .none k np)) rp2] hp]) Q E s₃) E s₂) E s₁) (pos := xp) X.G S R h1
                obtain ⟨hin, rfl⟩ := ro
                refine wpAny_bind (go _ (wpAny_bind (wpAny_standAt (wpAny_bind (wpAny_holding ?_)))))
                -- the field is missing
                obtain ⟨es, m, I, q, _⟩ := R.inst hi
                have XK := R.K_in X.G
                obtain ⟨cd, hcd, hnm⟩ := KK.nm C hC
                have hcop : copiedNames.contains a = false := by rcases ha with rfl | rfl <;> decide
                have hmiss : findObj K C (some (dictOf es m)) a = some .missing := findObj_missing (KK.hd C hown) (KK.nof C a hown hfld) (q.getL.2 hu) hcop
                obtain ⟨pg1, pg2⟩ := plainGet_of (KK.pg C a hown)
                refine get_missing XK I pg1 pg2 hmiss hcd (by rcases hnm with z | z <;> rw [z] <;> decide) (by rcases hnm with z | z <;> rw [z] <;> rcases ha with rfl | rfl <;> decide) X.A.handled fun h' tk e hx => ?_
                -- it flies
                obtain ⟨oe, vs, he, hcls, hd, h1'⟩ := hx.there
                obtain ⟨⟨outer, hfr⟩, hloc⟩ := tp
                obtain ⟨fl₀, hfl₀, hall⟩ := X.A.frames
                rw [hfr] at hfl₀
                cases hfl₀
                have hbase : ∀ L' ∈ c.fas, (hideAll s.heap c.fas).get? L' = none := fun L' hL => hideAll_none _ hL
                have hff : ({ s with heap := h', toks := tk } : Shared).heap.FunFrames (hideAll s.heap c.fas) (env :: outer) := (funFrames_of R hall hbase).of_keeps fun b o hb _ => ⟨o, hx.keeps b o hb, rfl⟩
                have hst : (hideAll s.heap c.fas).StaysIn h' := fun b o hb => hx.keeps b o (of_hideAll _ hb)
                have hen : (hideAll s.heap c.fas).get? e = none := by
                  cases hq : (hideAll s.heap c.fas).get? e with
                  | none => rfl
                  | some o => have := of_hideAll _ hq; rw [hx.new] at this; cases this
                unfold noteFrame
                rw [hloc]
                refine wpAny_bind (wpAny_field he hd h1' ?_)
                rw [if_neg (by decide)]
                refine wpAny_newEntry (s := { s with heap := h', toks := tk }) hfr hff hloc he hst hen hd (Array.getElem?_eq_some_iff.mp h1').1 fun h₂ hL => ?_
                obtain ⟨l1, l2, l3, l4⟩ := hL
                obtain ⟨oe₂, vs₂, T₂, oT, ts, t1, t2, t3, t4, t5, t6, t7, t8, t9⟩ := l3
                -- what stands still stands
                have nT : ∀ b o, s.heap.get? b = some o → T₂ ≠ b := fun b o hb q => by
                  subst q
                  by_cases hm : T₂ ∈ c.fas
                  · obtain ⟨ob, es', n', z1, z2⟩ := R.fas_dict hm
                    obtain ⟨sl, z3⟩ := l4 T₂ ob (hx.keeps _ _ z1) (fun vs z => by rw [z2] at z; cases z)
                    rw [t7] at z3
                    cases z3
                    rw [t8] at z2
                    cases z2
                  · rw [hideAll_get _ hb hm] at t5; cases t5
                have R₂ : Rel c ρ st { s with heap := h₂.update T₂ (Obj.mapFields (·.setIfInBounds 3 .none)), toks := tk } := by
                  refine (R.slots (h' := h₂.update T₂ (Obj.mapFields (·.setIfInBounds 3 .none))) (fun b o hb hm => ?_) fun b o hb => ?_).toks tk
                  · rw [Heap.get?_update_other _ _ (nT b o hb)]
                    exact l1 b o (hideAll_get _ hb hm)
                  · rw [Heap.get?_update_other _ _ (nT b o hb)]
                    by_cases hm : b ∈ c.fas
                    · obtain ⟨ob, es', n', z1, z2⟩ := R.fas_dict hm
                      rw [hb] at z1
                      cases z1
                      exact l4 b o (hx.keeps _ _ hb) (fun vs z => by rw [z2] at z; cases z)
                    · exact ⟨o.slots, l1 b o (hideAll_get _ hb hm)⟩
                have R₁ : Rel c ρ st { s with heap := h₂, toks := tk } := by
                  refine (R.slots (h' := h₂) (fun b o hb hm => l1 b o (hideAll_get _ hb hm)) fun b o hb => ?_).toks tk
                  by_cases hm : b ∈ c.fas
                  · obtain ⟨ob, es', n', z1, z2⟩ := R.fas_dict hm
                    rw [hb] at z1
                    cases z1
                    exact l4 b o (hx.keeps _ _ hb) (fun vs z => by rw [z2] at z; cases z)
                  · exact ⟨o.slots, l1 b o (hideAll_get _ hb hm)⟩
                refine wpAny_handleBy_builtin (X := "AttributeError") (T := "AttributeError") (b := true) sub_base_AttributeError meta_AttributeError sub_AttributeError ?_
                obtain ⟨uy, ry, gy⟩ := name_sound (M := model prog w) (A := A.mark (some (.ref e))) (E := notedBy (model prog w) (A.mark (some (.ref e))) env (cameBackBy (model prog w) A env E)) (pos := yp) X.G S R₁ hy
                cases ry
                refine gy _ ⟨rfl, ⟨oe₂, t1, t2.trans hcls⟩, ?_⟩
                rw [if_pos rfl]
                refine wpAny_setFlight_none t1 t3 t4 t7 t8 (Array.getElem?_eq_some_iff.mp t9).1 ?_
                refine wpAny_execs_cons (wpAny_Return_some (wpAny_Constant_none ?_))
                exact kk _ _ _ (Ext.refl _) R₂ (.ret rfl)
            · cases hA
          · cases hA
        · cases hA
      · cases h
    · cases h
  · cases h
end
end Mine
end

section
open PySem PySem.W PyProof.Rows PySem.Calls
set_option maxRecDepth 100000
namespace Mine

/-- the ground of the own list's iteration -/
structure GK (K : Frag) (T : Addr → Option Fn) : Prop where
  it : findIn K (.ref 101) "__iter__" = some (some (.ref 77)) ∧ isFn K (.ref 77) = true
  f77 : ∃ F self p1 p2 p3 p4, FnOK K 77 F ∧ F.names = [self] ∧ F.body = [.Return (some (.Call (.Attribute (.Name self p1) "generator" p2) [] [] p3)) p4] ∧ F.scope.names.lookup self = some .local ∧ hasCell F.scope.names = false ∧ self ≠ "__debug__" ∧ self ≠ "__classdict__" ∧ p2.endLine = p3.line ∧
    ∀ (u : Value) (s : Shared), Binds K s 77 ⟨[u], []⟩ [(self, u)]
  gen : findIn K (.ref 101) "generator" = some (some (.ref 98)) ∧ isFn K (.ref 98) = true ∧ keepIn K (.ref 98) = true
  f98 : ∀ G, T 98 = some G → (∃ oc od osl fd, K.lookup 98 = some ⟨oc, od, .func fd, osl⟩ ∧ fd.body = .stmts G.body ∧ fd.scope = G.scope ∧ fd.closure = [] ∧ fd.globals = mainGlobals ∧ fd.builtins = builtinsNs ∧ codeIn K fd.code fd.qualname = true) ∧
    G.scope.isCoroutine = false ∧ G.scope.isGenerator = true ∧ G.scope.kind = .function ∧ (G.scope.names.map (·.1)).Nodup ∧ hasCell G.scope.names = false ∧ ∀ self, G.names = [self] → G.scope.names.lookup self = some .local ∧ ∀ (u : Value) (s : Shared), Binds K s 98 ⟨[u], []⟩ [(self, u)]

section
variable {prog : Program} {w : World} {A : Around} {E : Value → Shared → Prop} {c : Cx} {ρ : Loc} {st st₁ st' : St} {s : Shared} {sc : Sc} {env : Env} {K : Frag} {T : Addr → Option Fn} {n : Nat}

theorem layCells_none {bs : List (Str × AV)} : ∀ {names : List (Str × NameKind)}, hasCell names = false → ∀ st, layCells bs names st = (st, [])
  | [], _, _ => rfl
  | (x, k) :: r, h, st => by
    have h1 : k ≠ .cell := fun e => by
      have := List.any_eq_false.mp h (x, k) List.mem_cons_self
      simp [e] at this
    have h2 : hasCell r = false := by
      unfold hasCell at h ⊢
      rw [List.any_cons] at h
      exact (Bool.or_eq_false_iff.mp h).2
    unfold layCells
    rw [if_neg h1]
    exact layCells_none h2 st

/-- a new generator -/
theorem Rel.pushGen (R : Rel c ρ st s) (code : Code) : Rel { c with gn := (s.gens.size, .fresh code) :: c.gn } ρ st { s with gens := s.gens.push (.fresh code) } := by
  refine ⟨R.os, R.keep, R.n, R.obj, R.loc, R.fr, R.up, R.nd, R.ia, R.dd, R.dj, R.ex, R.exn, fun p hp => ?_, ?_, R.bare.push rfl⟩
  · rcases List.mem_cons.mp hp with rfl | hp
    · exact Array.getElem?_push_size ..
    have := R.gn p hp
    obtain ⟨hlt, _⟩ := Array.getElem?_eq_some_iff.mp this
    show (s.gens.push (.fresh code))[p.1]? = some p.2
    rw [Array.getElem?_push_lt hlt]
    exact (Array.getElem?_eq_getElem hlt).symm.trans this
  · refine List.nodup_cons.mpr ⟨fun hm => ?_, R.gnn⟩
    obtain ⟨p, hp, e⟩ := List.mem_map.mp hm
    have hp := R.gn p hp
    obtain ⟨hlt, _⟩ := Array.getElem?_eq_some_iff.mp hp
    rw [show p.1 = s.gens.size from e] at hlt
    exact Nat.lt_irrefl _ hlt

theorem call_shape {o : Expr} {x : Str} {apos pos : Pos} {as : List Expr} {Q : Value → Shared → Prop} (hic : isCall o = false) (hlen : as.length < 20) (hpos : apos.endLine = pos.line) (hpl : (backTo pos (starEach as env)).any (·.1) = false)
    (h : wpAny (model prog w) A (eval o env) (fun u s' => wpAny (model prog w) A (getMethod u x (do return (← importBound o env).getD true)) (fun fx s₂ => wpAny (model prog w) A (callWith pos fx.1 fx.2 (backTo pos (starEach as env)) []) Q E s₂) E s') E s) :
    wpAny (model prog w) A (eval (.Call (.Attribute o x apos) as [] pos) env) Q E s := by
  rw [arm_eval_Call, attributeBase_plain hic]
  refine wpAny_bind (wpAny_mono h (fun u s' z => wpAny_bind (wpAny_standAt ?_)) fun _ _ z => z)
  unfold methodCall
  have hf : methodCallForm (as.length + 0) (backTo pos (starEach as env)) [] = true := by
    unfold methodCallForm
    have : (backTo pos (starEach as env)).all (fun x => !x.1) = true := by
      rw [List.all_eq_true]
      intro p hp'
      cases hq : p.1 with
      | false => rfl
      | true => exact absurd hq (List.any_eq_false.mp hpl p hp')
    rw [this]
    simp
    omega
  show wpAny _ _ (holding [u] (calleeOf (methodCallForm (as.length + 0) (backTo pos (starEach as env)) []) o env u x) >>= _) _ _ s'
  rw [hf]
  refine wpAny_bind (wpAny_holding (wpAny_mono z (fun fx s₂ z => ?_) fun _ _ z => z))
  have hp : methodCallPos true o env apos pos = Pure.pure pos := by
    unfold methodCallPos
    rw [if_pos (by rw [hpos]; simp)]
  obtain ⟨f, first⟩ := fx
  show wpAny _ _ (methodCallPos (methodCallForm (as.length + 0) (backTo pos (starEach as env)) []) o env apos pos >>= _) _ _ s₂
  rw [hf, hp]
  exact wpAny_bind (wpAny_pure z)

theorem filter_one {names : List (Str × NameKind)} {self : Str} {v : AV} (h : names.lookup self = some .local) : (([self].zip [v]).filter fun p => names.lookup p.1 == some .local) = [(self, v)] := by
  show (List.filter _ [(self, v)]) = _
  rw [List.filter_cons, h]
  rfl

theorem iter_sound (KK : KOK K) (GG : GK K T) : IterS prog w K T := by
  intro c A ρ st s sc src u X R r hs Q E k
  obtain ⟨i, rfl, hs⟩ := hs
  obtain ⟨hin, rfl⟩ := r
  rcases hs with ⟨xs, hx⟩ | ⟨kk, hx, hk⟩ | ⟨Fs, hx, hno, hdep, hun, G, self, hG, hGn⟩
  · obtain ⟨vs, hl, q⟩ := R_list R hx
    refine wpAny_pyIter_list hl (k _ ρ _ _ (Ext.refl _) (.list rfl hin hx rfl rfl rfl) (R.pushEx ⟨_, rfl⟩ (by simp) rfl))
  · obtain ⟨_, _, t, tu, tv, hr⟩ := R.obj _ _ hx
    have hsz : Builtin.Range.rangeSize 0 kk 1 = kk := by
      rw [rangeSize_one]
      split <;> omega
    refine wpAny_pyIter_range hr (small_one (by omega) (by omega) (by omega) (by omega)) ?_
    rw [hsz]
    exact k _ ρ _ _ (Ext.refl _) (.range rfl hin hx hk rfl) (R.pushEx ⟨_, rfl⟩ (by simp) rfl)
  · obtain ⟨F, sf, p1, p2, p3, p4, ok77, hFn, hFb, hFl, hFc, hnd, hnc, hpp, hbind⟩ := GG.f77
    obtain ⟨⟨oc, od, osl, fd, hl, hbody, hscope, hclo, hglob, hbi, hcode⟩, g1, g2, g3, g4, g5, g6⟩ := GG.f98 G hG
    obtain ⟨g7, g8⟩ := g6 self hGn
    obtain ⟨es, m, I, q, _⟩ := R.inst hx
    obtain ⟨m', F₀⟩ := R.fr₀
    refine owit_iter F₀ X.G.inK I GG.it.1 GG.it.2 (wpAny_call ?_)
    have q1 : VRels ρ [AV.obj i] [.ref (ρ.a i)] := ⟨⟨hin, rfl⟩, trivial⟩
    refine enter_sound (args := [.obj i]) (us := [.ref (ρ.a i)]) ok77 X.G X.a10 hdep hun R q1 (by rw [hFn]; rfl) (by rw [hFn]; exact hbind _ _) fun env ρ₁ s₁ e₁ tp X₁ S₁ R₁ E' => ?_
    rw [hFn] at S₁ R₁ X₁
    rw [layCells_none hFc] at S₁ R₁ X₁
    rw [filter_one hFl] at R₁
    rw [hFb]
    refine wpAny_execs_cons (wpAny_Return_some (call_shape (as := []) rfl (by simp) hpp rfl ?_))
    have hrd : rd { scope := F.scope, cells := [], dep := sc.dep + 3, un := sc.un + 20 } { st with loc := [(sf, .obj i)] } sf = some (.obj i) := by
      unfold rd
      rw [if_neg (by simp [hnd, hnc])]
      show (match F.scope.names.lookup sf with | some .local => _ | some .cell | some .free => _ | some .globalImplicit => _ | _ => none) = _
      rw [hFl]
      show List.lookup sf [(sf, AV.obj i)] = _
      rw [List.lookup_cons, beq_self_eq_true]
    obtain ⟨uo, ro, go⟩ := name_sound (M := model prog w) (A := A.deeper env) (E := E') (pos := p1) X₁.G S₁ R₁ hrd
    obtain ⟨hin₁, rfl⟩ := ro
    refine go _ ?_
    have hx₁ : ({ st with loc := [(sf, .obj i)] } : St).H i = some (.inst 101 Fs) := hx
    obtain ⟨es₁, m₁, I₁, q₁, _⟩ := R₁.inst hx₁
    obtain ⟨m₁', F₁⟩ := R₁.fr₀
    refine method_inst F₁ X₁.G.inK I₁ (KK.pg 101 _ (.inl rfl)) GG.gen.1 GG.gen.2.1 (q₁.getL.2 hno) ?_
    refine callWith_K0 (R₁.K_in X₁.G) GG.gen.2.2 (wpAny_call ?_)
    -- the generator
    have XK := R₁.K_in X₁.G
    have hrl : recursionLimit = 1000 := rfl
    have hdp := X₁.A.depth
    refine codeAny_call_generator (by dsimp only at hdp; omega) (XK _ _ hl) rfl (by rw [hscope]; exact g1) (by rw [hscope]; exact g2) hbody (codeRec_of XK hcode) (g8 _ _ fd oc od osl hl _ _ _ _ ?_)
    rw [hscope, hglob, hclo, hbi]
    have q2 : VRels ρ₁ [AV.obj i] [.ref (ρ₁.a i)] := ⟨⟨hin₁, rfl⟩, trivial⟩
    have hz : [(self, Value.ref (ρ₁.a i))] = G.names.zip [.ref (ρ₁.a i)] := by rw [hGn]; rfl
    rw [hz]
    refine env_sound (args := [.obj i]) g3 g4 (by rw [hGn]; simp) (fun x hx => by rw [hGn] at hx; rw [List.mem_singleton.mp hx]; exact .inl g7) (by rw [hGn]; rfl) R₁ q2 0 0 fun genv h₂ tk ρ₂ e₂ hk₂ hfr₂ hL₂ hsc₂ S₂ R₂ => ?_
    refine ⟨(X₁.G.lim.keeps R₁.keep).keeps hk₂, ?_⟩
    rw [hGn, layCells_none g5] at R₂
    rw [filter_one g7] at R₂
    have R₃ := ((R₂.outside.pushGen (.func G.body genv)).pushEx (o := { cls := .type "generator", data := .fields #[.int s₁.gens.size 0, .str fd.name tk, .str fd.qualname (tk + 1)] }) ⟨_, rfl⟩ (by simp) rfl).toks (tk + 1 + 1)
    have R₄ := (R₃.perm (c' := { c with fs := (genv.locals, [(self, .obj i)]) :: c.fs, ex := (h₂.objs.size, { cls := .type "generator", data := .fields #[.int s₁.gens.size 0, .str fd.name tk, .str fd.qualname (tk + 1)] }) :: c.ex, gn := (s₁.gens.size, .fresh (.func G.body genv)) :: c.gn }.enter st.loc env.locals) rfl rfl rfl rfl rfl (List.Perm.swap ..)).leave
    have hg : GenIs { cls := .type "generator", data := .fields #[.int s₁.gens.size 0, .str fd.name tk, .str fd.qualname (tk + 1)] } s₁.gens.size := ⟨rfl, ⟨_, _, rfl⟩, rfl⟩
    show OwitIt _ _ _ _ _ _
    unfold OwitIt
    refine wpAny_specialOf (T := "generator") ⟨_, (R₄.ex _ List.mem_cons_self).1, rfl⟩ slot_gen_next.lookup ?_
    exact k _ ρ₂ _ _ (e₁.trans e₂) (.gen rfl (Nat.lt_of_lt_of_le hin (e₁.trans e₂).1) hx rfl hg hG hGn ⟨hsc₂, hfr₂, S₂.glob, S₂.bi⟩) R₄
end
end Mine
end

section
open PySem PySem.W PyProof.Rows PySem.Calls
set_option maxRecDepth 100000
namespace Mine

theorem execs_append_wrap {env : Env} {K : Flow → Sem Fin} {H : Value → Sem Fin} {gd lv} {ys : List Stmt} : ∀ xs : List Stmt, (execs (xs ++ ys) env).wrap K H gd lv = (execs xs env).wrap (fun f => match f with | .next => (execs ys env).wrap K H gd lv | f => K f) H gd lv
  | [] => rfl
  | x :: xs => by
    rw [List.cons_append, execs_cons_wrap, execs_cons_wrap]
    exact Sem.wrap_congr _ _ _ (fun f => by cases f <;> first | exact execs_append_wrap xs | rfl) (fun _ => rfl)

/-- where a generator's own code runs -/
structure GA (A A' : Around) (env : Env) : Prop where
  handled : A'.handled = A.handled
  depth : A'.depth ≤ A.depth + 2
  units : A'.units ≤ A.units + 20
  frames : A'.frames = A.frames.map (env :: ·)

theorem ga_func (A : Around) (body : List Stmt) (env : Env) : GA A (A.in1.over (.func body env) []) env := by
  obtain ⟨hd, d, fr, gs, u⟩ := A
  refine ⟨rfl, ?_, ?_, ?_⟩
  · show d + 0 + 1 ≤ d + 2
    omega
  · show u + 1 + 0 + 3 ≤ u + 20
    omega
  · cases fr <;> rfl
theorem ga_loop (A : Around) (t : PySem.Expr) (body fbody : List Stmt) (env : Env) (k l p kp) : GA A (A.in1.over (.whileLoop t body [] env) [.ret k none false l (.func fbody env) p kp]) env := by
  obtain ⟨hd, d, fr, gs, u⟩ := A
  refine ⟨?_, ?_, ?_, ?_⟩
  · cases hd <;> rfl
  · show d + (1 + 0) + 0 ≤ d + 2
    omega
  · show u + 1 + (3 + 0) + 0 ≤ u + 20
    omega
  · cases fr <;> rfl

section
variable {prog : Program} {w : World} {A : Around} {E : Value → Shared → Prop} {c : Cx} {ρ : Loc} {st st₁ st' : St} {s : Shared} {sc : Sc} {env : Env} {K : Frag} {T : Addr → Option Fn} {n : Nat}

theorem Rel.setGn {gn : List (Nat × GenState)} {g : Nat} {gs gs' : GenState} (R : Rel { c with gn := (g, gs) :: gn } ρ st s) (hb : gs'.bare = true) : Rel { c with gn := (g, gs') :: gn } ρ st (s.setGen g gs') := by
  obtain ⟨n1, n2⟩ := List.nodup_cons.mp R.gnn
  refine ⟨R.os, R.keep, R.n, R.obj, R.loc, R.fr, R.up, R.nd, R.ia, R.dd, R.dj, R.ex, R.exn, fun p hp => ?_, R.gnn, fun y hy => ?_⟩
  · rcases List.mem_cons.mp hp with rfl | hp
    · exact setGen_self (R.gn (g, gs) List.mem_cons_self)
    · have hne : g ≠ p.1 := fun e => n1 (by rw [e]; exact List.mem_map_of_mem (f := (·.1)) hp)
      have := R.gn p (List.mem_cons_of_mem _ hp)
      show (s.gens.setIfInBounds g gs')[p.1]? = some p.2
      rw [Array.getElem?_setIfInBounds_ne hne]
      exact this
  · rcases Array.mem_or_eq_of_mem_setIfInBounds hy with h | h
    · exact R.bare y h
    · rw [h]; exact hb
theorem Rel.dropGn {g : Nat} {gs : GenState} (R : Rel { c with gn := (g, gs) :: c.gn } ρ st s) : Rel c ρ st s :=
  ⟨R.os, R.keep, R.n, R.obj, R.loc, R.fr, R.up, R.nd, R.ia, R.dd, R.dj, R.ex, R.exn, fun p hp => R.gn p (List.mem_cons_of_mem _ hp), (List.nodup_cons.mp R.gnn).2, R.bare⟩

/-- a generator is asked for its next -/
theorem pyNext_gen {a : Addr} {g n : Nat} {gs : GenState} {P : Nat → Shared → Shared → Prop} {Y : Protocol} {Q : Option Value → Shared → Prop} (hh : A.handled = none) (hl : s.heap.NoLimit) (hroom : A.depth < recursionLimit)
    (hg : s.heap.IsGen a g) (hgs : s.gens[g]? = some gs) (hgo : gs.Goes (model prog w) A.in1 (fun n s₀ r s₁ => r = .ok (.ret .none) ∧ P n s₀ s₁) Y n (.send .none) (s.setGen g .running))
    (hY : ∀ v s₁ gs', gs'.bare = true → Y (n - 1) (s.setGen g .running) v s₁ (fun r' s'' => match n with
        | 0 => False
        | m + 1 => gs'.Goes (model prog w) A.in1 (fun n s₀ r s₁ => r = .ok (.ret .none) ∧ P n s₀ s₁) Y m r' s'') → Q (some v) (s₁.setGen g gs'))
    (hP : ∀ s₁, P n (s.setGen g .running) s₁ → ∀ h', (∀ b o, s₁.heap.get? b = some o → h'.get? b = some o) → Q none { s₁.setGen g .finished with heap := h' }) : wpAny (model prog w) A (pyNext (.ref a)) Q E s := by
  unfold pyNext
  refine wpAny_bind (wpAny_attempt (wpAny_callSpecial?_slot (name := Str.ofString "__next__") hg.typeIs slot_gen_next (wpAny_call_entry slot_gen_next hg.typeIs entry_gen_next ?_ (args_gen_next _))))
  show wpAny _ A.in1 (Builtin.Generator.genWake (.ref a) (.send .none)) _ _ s
  unfold Builtin.Generator.genWake
  refine wpAny_bind (wpAny_holding (wpAny_genNumber hg (wpAny_bind (wpAny_genState hgs ?_))))
  cases gs with
  | running => exact hgo.elim
  | finished => exact hgo.elim
  | _ =>
    refine wpAny_bind (wpAny_roomToWake hl hroom ?_)
    show wpAny _ A.in1 (.resume g (.send .none) [] _) _ _ s
    refine wpAny_resumeQ hgs hgo (fun x s₁ hx => ?_) (fun v s₁ gs' hb hv => wpAny_pure ⟨v, rfl, wpAny_pure (hY v s₁ gs' hb hv)⟩)
    obtain ⟨rfl, hp⟩ := hx
    show wpAny _ A.in1 (newExc (.type "StopIteration") [] >>= _) _ _ _
    refine wpAny_bind ?_
    simp only [newExc, newTuple]
    refine wpAny_bind (wpAny_newObj_type ?_ (by size_fits))
    refine wpAny_bind (m := firstArgMember _ _) (wpAny_of_eq (a := Value.none) (by first | rfl | (simp only [firstArgMember]; rfl)) ?_)
    refine wpAny_newObj_type ?_ (by size_fits)
    refine wpAny_bind (wpAny_raiseNew_none (show A.in1.handled = none from hh) ?_)
    refine wpAny_bind (wpAny_isInstance (T := "StopIteration") (b := true) ⟨_, Heap.get?_push_size _ rfl, rfl⟩ isSubtype_stop ?_)
    exact wpAny_pure (hP s₁ hp _ fun b o hb => Heap.get?_push_of_some _ (Heap.get?_push_of_some _ hb))

/-- what stands while a generator runs -/
def gcx (c : Cx) (a : Addr) (o : Obj) (g : Nat) (gs : GenState) (L : Addr) (gl : List (Str × AV)) : Cx := { c with fs := (L, gl) :: c.fs, ex := (a, o) :: c.ex, gn := (g, gs) :: c.gn }

section
variable {gsc : Sc} {t e : PySem.Expr} {rest : List Stmt} {yp ep : Pos} {body : St → AV → Option (AFl × St)} {a : Addr} {o : Obj} {g : Nat} {fl : AFl} {st'' : St} {fbody : List Stmt} {wpos : Pos} {pre : List Stmt} {n₁ : Nat}

/-- behind a yield, as it stands when the loop's turn has ended -/
def Pend (T : Addr → Option Fn) (n : Nat) (gsc : Sc) (t e : PySem.Expr) (rest : List Stmt) (body : St → AV → Option (AFl × St)) (m : Nat) (gl : List (Str × AV)) (st : St) (fl : AFl) (st' : St) : Prop :=
  (exs T n gsc { st with loc := gl } rest).bind (fun (f, st₄) => (match f with
    | .next => forG (fun st => tst T n gsc st t) (fun st => ev T n gsc st e) (fun st => exs T n gsc st rest) body m st₄.loc { st₄ with loc := st.loc }
    | _ => none)) = some (fl, st')

/-- the generator's word for what it yields -/
def GY (T : Addr → Option Fn) (n : Nat) (gsc : Sc) (t e : PySem.Expr) (rest : List Stmt) (body : St → AV → Option (AFl × St)) (c : Cx) (ρ : Loc) (a : Addr) (o : Obj) (g : Nat) (L : Addr) (fl : AFl) (st' : St) : Protocol := fun m _ v s kap =>
  ∃ ρ₂ gl st₂ vv, Ext ρ ρ₂ ∧ Rel (gcx c a o g .running L gl) ρ₂ st₂ s ∧ VRel ρ₂ vv v ∧ (∃ st₃, body st₂ vv = some (.next, st₃) ∧ Pend T n gsc t e rest body m gl st₃ fl st') ∧
    ∀ ρ₃ st₃ s'', Ext ρ₂ ρ₃ → Rel (gcx c a o g .running L gl) ρ₃ st₃ s'' → Pend T n gsc t e rest body m gl st₃ fl st' → kap (.send .none) s''

/-- and for its end -/
def GP (c : Cx) (ρ : Loc) (a : Addr) (o : Obj) (g : Nat) (L : Addr) (fl : AFl) (st' : St) : Nat → Shared → Shared → Prop := fun _ _ s => fl = .next ∧ ∃ ρ₂ gl, Ext ρ ρ₂ ∧ Rel (gcx c a o g .running L gl) ρ₂ st' s

structure GCtx (K : Frag) (c : Cx) (sc gsc : Sc) (A : Around) (env : Env) (G : Fn) : Prop where
  X : Ctxt K c sc A
  genv : GenEnv G env
  gsc : gsc = { scope := G.scope, cells := [], dep := sc.dep + 6, un := sc.un + 60 }
  dep : sc.dep < 800
  un : sc.un < 9000
  kind : G.scope.kind = .function
  co : G.scope.isCoroutine = false

theorem GCtx.inn {G : Fn} (H : GCtx K c sc gsc A env G) {A' : Around} (ga : GA A A' env) {loc : List (Str × AV)} {gn : List (Nat × GenState)} {ex : List (Addr × Obj)} :
    Top A' env ∧ Ctxt K ({ c with ex := ex, gn := gn }.enter loc env.locals) gsc A' ∧ ∀ ρ, SRel ({ c with ex := ex, gn := gn }.enter loc env.locals) gsc ρ env := by
  obtain ⟨X, genv, rfl, hd, hu, hk, hco⟩ := H
  obtain ⟨a1, a2, a3, fr, a4, a5⟩ := X.A
  have hfr : A'.frames = some (env :: fr) := by rw [ga.frames, a4]; rfl
  refine ⟨⟨⟨fr, hfr⟩, genv.frame⟩, ⟨X.G, ⟨ga.handled.trans a1, ?_, ?_, env :: fr, hfr, fun e he => ?_⟩, ?_, ?_⟩, fun ρ => ⟨genv.scope, hk, rfl, genv.glob, genv.bi, fun x i h => by cases h⟩⟩
  · have := ga.depth
    show A'.depth ≤ sc.dep + 6
    omega
  · have := ga.units
    show A'.units ≤ sc.un + 60
    omega
  · rcases List.mem_cons.mp he with rfl | he
    · exact ⟨by rw [genv.scope, hk]; decide, e.locals, genv.frame, List.mem_cons_self⟩
    · obtain ⟨z1, L', z2, z3⟩ := a5 e he
      exact ⟨z1, L', z2, List.mem_cons_of_mem _ z3⟩
  · show sc.dep + 6 ≤ 900
    omega
  · show sc.un + 60 ≤ 9400
    omega

theorem gen_in {gl : List (Str × AV)} {L : Addr} {gs : GenState} (R : Rel (gcx c a o g gs L gl) ρ st s) : Rel ({ c with ex := (a, o) :: c.ex, gn := (g, gs) :: c.gn }.enter st.loc L) ρ { st with loc := gl } s := R.inside
theorem gen_out {loc : List (Str × AV)} {L : Addr} {gs : GenState} (R : Rel ({ c with ex := (a, o) :: c.ex, gn := (g, gs) :: c.gn }.enter loc L) ρ st s) : Rel (gcx c a o g gs L st.loc) ρ { st with loc := loc } s := R.outside

/-- the while loop from its head on -/
theorem head_sound {G : Fn} (H : GCtx K c sc gsc A env G) (ih : EvS prog w K T n) (it : TstS prog w K T n) (ixs : ExsS prog w K T n) {ρ₀ : Loc} {k : Result → Sem Fin} {l : List Value} {p kp} (hk : ∀ s₀ m s, (Seg (model prog w) A.in1 (fun n s₀ r s₁ => r = .ok (.ret .none) ∧ GP c ρ₀ a o g env.locals fl st'' n s₀ s₁) (GY T n gsc t e rest body c ρ₀ a o g env.locals fl st'') m s₀ (.func fbody env) (leafOf (.ok (.ret .none))) [] s) →
      Seg (model prog w) A.in1 (fun n s₀ r s₁ => r = .ok (.ret .none) ∧ GP c ρ₀ a o g env.locals fl st'' n s₀ s₁) (GY T n gsc t e rest body c ρ₀ a o g env.locals fl st'') m s₀ (.func fbody env) (k (.ok .next)) [] s) :
    ∀ (m : Nat) (gl : List (Str × AV)) (st : St) (ρ : Loc) (s s₀ : Shared), Ext ρ₀ ρ → Rel (gcx c a o g .running env.locals gl) ρ st s →
      forG (fun st => tst T n gsc st t) (fun st => ev T n gsc st e) (fun st => exs T n gsc st rest) body m gl st = some (fl, st'') →
      Seg (model prog w) A.in1 (fun n s₀ r s₁ => r = .ok (.ret .none) ∧ GP c ρ₀ a o g env.locals fl st'' n s₀ s₁) (GY T n gsc t e rest body c ρ₀ a o g env.locals fl st'') m s₀ (.whileLoop t (.Expr (.Yield (some e) yp) ep :: rest) [] env)
        ((model prog w).den (.whileLoop t (.Expr (.Yield (some e) yp) ep :: rest) [] env)) [.ret k none false l (.func fbody env) p kp] s
  | 0, _, _, _, _, _, _, _, h => by cases h
  | m + 1, gl, st, ρ, s, s₀, e₀, R, h => by
    have ga := ga_loop A t (.Expr (.Yield (some e) yp) ep :: rest) fbody env k l p kp
    obtain ⟨tp, X', S'⟩ := H.inn ga (loc := st.loc) (gn := (g, .running) :: c.gn) (ex := (a, o) :: c.ex)
    obtain ⟨⟨b, st₁⟩, h1, hA⟩ := bind_some (show (tst T n gsc { st with loc := gl } t).bind _ = some (fl, st'') from h)
    dsimp only at hA
    refine seg_whileLoop (it X' (S' ρ) (gen_in R) h1 _ _ fun ρ₁ s₁ b' e₁ R₁ hb => ?_)
    subst hb
    cases b' with
    | false =>
      rw [if_neg Bool.false_ne_true] at hA ⊢
      cases hA
      refine seg_leaf (r := .ok .next) (hk _ _ _ (seg_end (.ok (.ret .none)) ⟨rfl, rfl, ρ₁, st₁.loc, e₀.trans e₁, ?_⟩))
      exact gen_out R₁
    | true =>
      rw [if_pos rfl] at hA ⊢
      obtain ⟨⟨v, st₂⟩, h2, hB⟩ := bind_some hA
      dsimp only at hB
      refine seg_execs_cons (seg_Expr_Yield rfl rfl rfl (ih X' ((S' ρ).ext e₁) R₁ h2 _ _ fun ρ₂ s₂ u e₂ R₂ r₂ kap hkap => ?_) (by rw [H.genv.scope]; exact H.co) (S' ρ).interactive)
      split at hB
      · rename_i st₃ hbd
        refine ⟨ρ₂, st₂.loc, { st₂ with loc := st.loc }, v, (e₀.trans e₁).trans e₂, gen_out R₂, r₂, ⟨st₃, hbd, hB⟩, fun ρ₃ st₅ s'' e₃ R₃ hp => hkap .none s'' ?_⟩
        obtain ⟨⟨f, st₄⟩, h5, hC⟩ := bind_some (show (exs T n gsc { st₅ with loc := st₂.loc } rest).bind _ = some (fl, st'') from hp)
        obtain ⟨tp₃, X₃, S₃⟩ := H.inn ga (loc := st₅.loc) (gn := (g, .running) :: c.gn) (ex := (a, o) :: c.ex)
        refine seg_wrap (ixs tp₃ X₃ (S₃ ρ₃) (gen_in R₃) h5 _ _ fun ρ₄ s₄ u' e₄ R₄ fr => ?_)
        cases fr with
        | next => exact seg_again rfl (head_sound H ih it ixs hk m st₄.loc { st₄ with loc := st₅.loc } ρ₄ s₄ s'' ((((e₀.trans e₁).trans e₂).trans e₃).trans e₄) (gen_out R₄) hC)
        | brk => cases hC
        | ret _ => cases hC
      · cases hB
end
end
end Mine
end

section
open PySem PySem.W PyProof.Rows PySem.Calls
set_option maxRecDepth 100000
namespace Mine

section
variable {prog : Program} {w : World} {A : Around} {E : Value → Shared → Prop} {c : Cx} {ρ : Loc} {st st₁ st' : St} {s : Shared} {sc : Sc} {env : Env} {K : Frag} {T : Addr → Option Fn} {n : Nat}
variable {gsc : Sc} {t e : PySem.Expr} {rest : List Stmt} {yp ep : Pos} {body : St → AV → Option (AFl × St)} {a : Addr} {o : Obj} {g : Nat} {fl : AFl} {st'' : St}

theorem start_sound {G : Fn} {s1 s2 : Stmt} {wpos : Pos} (H : GCtx K c sc gsc A env G) (ih : EvS prog w K T n) (it : TstS prog w K T n) (ixs : ExsS prog w K T n) {ρ₀ : Loc} {gl : List (Str × AV)} {s₀ : Shared} (e₀ : Ext ρ₀ ρ) (R : Rel (gcx c a o g .running env.locals gl) ρ st s)
    (h : (exs T n gsc { st with loc := gl } [s1, s2]).bind (fun (f, st₁) => (match f with
      | .next => forG (fun st => tst T n gsc st t) (fun st => ev T n gsc st e) (fun st => exs T n gsc st rest) body 100 st₁.loc { st₁ with loc := st.loc }
      | _ => none)) = some (fl, st'')) :
    Seg (model prog w) A.in1 (fun n s₀ r s₁ => r = .ok (.ret .none) ∧ GP c ρ₀ a o g env.locals fl st'' n s₀ s₁) (GY T n gsc t e rest body c ρ₀ a o g env.locals fl st'') 100 s₀
      (.func [s1, s2, .While t (.Expr (.Yield (some e) yp) ep :: rest) [] wpos] env) ((model prog w).den (.func [s1, s2, .While t (.Expr (.Yield (some e) yp) ep :: rest) [] wpos] env)) [] s := by
  have ga := ga_func A [s1, s2, .While t (.Expr (.Yield (some e) yp) ep :: rest) [] wpos] env
  obtain ⟨tp, X', S'⟩ := H.inn ga (loc := st.loc) (gn := (g, .running) :: c.gn) (ex := (a, o) :: c.ex)
  obtain ⟨⟨f, st₁⟩, h1, hA⟩ := bind_some h
  refine seg_func ?_
  rw [show ([s1, s2, .While t (.Expr (.Yield (some e) yp) ep :: rest) [] wpos] : List Stmt) = [s1, s2] ++ [.While t (.Expr (.Yield (some e) yp) ep :: rest) [] wpos] from rfl, execs_append_wrap]
  refine seg_wrap (ixs tp X' (S' ρ) (gen_in R) h1 _ _ fun ρ₁ s₁ u e₁ R₁ fr => ?_)
  cases fr with
  | next =>
    refine seg_execs_cons (seg_While fun p => ?_)
    exact head_sound (fbody := [s1, s2, .While t (.Expr (.Yield (some e) yp) ep :: rest) [] wpos]) H ih it ixs (fun _ _ _ h => h) 100 st₁.loc { st₁ with loc := st.loc } ρ₁ s₁ s₀ (e₀.trans e₁) (gen_out R₁) hA
  | brk => cases hA
  | ret _ => cases hA

theorem genIs_at {h : Heap} (x : GenIs o g) (ho : h.get? a = some o) : h.IsGen a g := by
  obtain ⟨x1, ⟨nm, qn, x2⟩, x3⟩ := x
  exact ⟨o, nm, qn, ho, x1, x2, x3⟩

theorem run_sound (ih : EvS prog w K T n) (it : TstS prog w K T n) (ixs : ExsS prog w K T n) (GG : GK K T) : RunS prog w K T (n + 1) := by
  intro c A ρ₀ ρ st₀ st s sc src itv F body turn fl st' Done Brk Ret En X Sd e₀ hH R h B Z
  cases Sd with
  | list h1 h2 h3 h4 h5 h6 =>
    rename_i i xs a o
    subst h1 h4
    simp only [loop] at h
    rw [hH i h2, h3] at h
    dsimp only at h
    split at h
    · exact forL_sound X.A.handled (Nat.lt_of_lt_of_le h2 e₀.1) h5 (by rw [(e₀.2 i h2).1]; exact h6) R h B Z
    · cases h
  | range h1 h2 h3 hk h4 =>
    rename_i i k a
    subst h1 h4
    simp only [loop] at h
    rw [hH i h2, h3] at h
    dsimp only at h
    rw [if_pos hk] at h
    exact forR_sound X.A.handled R h B Z
  | gen h1 h2 h3 h4 h5 h6 h7 h8 =>
    rename_i i Fs a o g env G self
    subst h1 h4
    simp only [loop] at h
    rw [hH i h2, h3] at h
    dsimp only at h
    split at h
    · rename_i hc
      obtain ⟨_, hdep, hun, _⟩ := hc
      rw [h6] at h
      dsimp only at h
      split at h
      · rename_i s1 s2 t e yp ep rest wpos sf hb hn
        have hsf : self = sf := by rw [h7] at hn; cases hn; rfl
        subst hsf
        obtain ⟨_, g1, _, g3, _⟩ := GG.f98 G h6
        have H : GCtx K c sc { scope := G.scope, cells := [], dep := sc.dep + 6, un := sc.un + 60 } A env G := ⟨X, h8, rfl, hdep, hun, g3, g1⟩
        have hrl : recursionLimit = 1000 := rfl
        have hroom : A.depth < recursionLimit := by have := X.A.depth; omega
        -- the invariant
        refine ⟨fun m s => (m = 100 ∧ ∃ ρ₁ st₁, Ext ρ ρ₁ ∧ Rel (gcx c a o g (.fresh (.func G.body env)) env.locals [(self, .obj i)]) ρ₁ st₁ s ∧
            (exs T n { scope := G.scope, cells := [], dep := sc.dep + 6, un := sc.un + 60 } { st₁ with loc := [(self, .obj i)] } [s1, s2]).bind (fun (f, st₂) => (match f with
              | .next => forG (fun st => tst T n { scope := G.scope, cells := [], dep := sc.dep + 6, un := sc.un + 60 } st t) (fun st => ev T n { scope := G.scope, cells := [], dep := sc.dep + 6, un := sc.un + 60 } st e) (fun st => exs T n { scope := G.scope, cells := [], dep := sc.dep + 6, un := sc.un + 60 } st rest) body 100 st₂.loc { st₂ with loc := st₁.loc }
              | _ => none)) = some (fl, st')) ∨
          (∃ ρ₁ st₁ gl gs, Ext ρ ρ₁ ∧ Rel (gcx c a o g gs env.locals gl) ρ₁ st₁ s ∧ Pend T n { scope := G.scope, cells := [], dep := sc.dep + 6, un := sc.un + 60 } t e rest body m gl st₁ fl st' ∧ gs.bare = true ∧
            ∀ ρ₃ st₃ s'', Ext ρ₁ ρ₃ → Rel (gcx c a o g .running env.locals gl) ρ₃ st₃ s'' → Pend T n { scope := G.scope, cells := [], dep := sc.dep + 6, un := sc.un + 60 } t e rest body m gl st₃ fl st' →
              gs.Goes (model prog w) A.in1 (fun n s₀ r s₁ => r = .ok (.ret .none) ∧ GP c ρ a o g env.locals fl st' n s₀ s₁) (GY T n { scope := G.scope, cells := [], dep := sc.dep + 6, un := sc.un + 60 } t e rest body c ρ a o g env.locals fl st') m (.send .none) s''),
          100, .inl ⟨rfl, ρ, st, Ext.refl _, R, h⟩, ?_, ?_⟩
        · rintro m s (⟨_, ρ₁, st₁, _, R, _⟩ | ⟨ρ₁, st₁, gl, gs, _, R, _⟩) Q E q
          · exact wpAny_pyIter_gen (genIs_at h5 (R.ex _ List.mem_cons_self).1) q
          · exact wpAny_pyIter_gen (genIs_at h5 (R.ex _ List.mem_cons_self).1) q
        · intro m s hI
          -- what it is to go on
          have key : ∃ ρ₁ st₁ gl gs, Ext ρ ρ₁ ∧ Rel (gcx c a o g gs env.locals gl) ρ₁ st₁ s ∧ 0 < m ∧
              gs.Goes (model prog w) A.in1 (fun n s₀ r s₁ => r = .ok (.ret .none) ∧ GP c ρ a o g env.locals fl st' n s₀ s₁) (GY T n { scope := G.scope, cells := [], dep := sc.dep + 6, un := sc.un + 60 } t e rest body c ρ a o g env.locals fl st') m (.send .none) (s.setGen g .running) := by
            rcases hI with ⟨rfl, ρ₁, st₁, e₁, R₁, hx⟩ | ⟨ρ₁, st₁, gl, gs, e₁, R₁, hp, hb, hgo⟩
            · refine ⟨ρ₁, st₁, _, _, e₁, R₁, by decide, rfl, ?_⟩
              rw [hb]
              exact start_sound H ih it ixs e₁ (Rel.setGn (c := { c with fs := (env.locals, [(self, .obj i)]) :: c.fs, ex := (a, o) :: c.ex }) R₁ rfl) hx
            · refine ⟨ρ₁, st₁, gl, gs, e₁, R₁, ?_, hgo ρ₁ st₁ _ (Ext.refl _) (Rel.setGn (c := { c with fs := (env.locals, gl) :: c.fs, ex := (a, o) :: c.ex }) R₁ rfl) hp⟩
              cases m with
              | zero =>
                obtain ⟨⟨f, st₄⟩, z1, z2⟩ := bind_some hp
                cases f <;> cases z2
              | succ m => exact Nat.succ_pos m
          obtain ⟨ρ₁, st₁, gl, gs, e₁, R₁, hm, hgo⟩ := key
          refine pyNext_gen X.A.handled (X.G.lim.keeps R₁.keep) hroom (genIs_at h5 (R₁.ex _ List.mem_cons_self).1) (R₁.gn (g, gs) List.mem_cons_self) hgo (fun v s₁ gs' hb' hv => ?_) fun s₁ hp h' hk => ?_
          · obtain ⟨ρ₂, gl₂, st₂, vv, e₂, R₂, r₂, ⟨st₃, hbd, hpd⟩, hres⟩ := hv
            refine B (gcx c a o g gs' env.locals gl₂) ρ₂ st₂ _ vv v .next st₃ _ ⟨rfl, rfl, fun L' hL => ?_, rfl⟩ e₂ (Rel.setGn (c := { c with fs := (env.locals, gl₂) :: c.fs, ex := (a, o) :: c.ex }) R₂ hb') r₂ hbd fun ρ₃ s₃ f e₃ R₃ fr => ?_
            · rcases List.mem_cons.mp hL with z | z
              · exact List.mem_cons.mpr (.inl z)
              · exact List.mem_cons_of_mem _ (List.mem_cons_of_mem _ z)
            · cases fr with
              | next =>
                refine ⟨m - 1, Nat.sub_lt hm (by decide), .inr ⟨ρ₃, st₃, gl₂, gs', e₂.trans e₃, R₃, hpd, hb', fun ρ₄ st₄ s'' e₄ R₄ hp₄ => ?_⟩⟩
                have := hres ρ₄ st₄ s'' (e₃.trans e₄) R₄ hp₄
                cases m with
                | zero => exact absurd hm (Nat.lt_irrefl _)
                | succ m => exact this
          · obtain ⟨hf, ρ₂, gl₂, e₂, R₂⟩ := hp
            have R₃ := (Rel.setGn (c := { c with fs := (env.locals, gl₂) :: c.fs, ex := (a, o) :: c.ex }) (gs' := .finished) R₂ rfl).grow hk
            have R₄ := (Rel.dropGn (c := { c with fs := (env.locals, gl₂) :: c.fs, ex := (a, o) :: c.ex }) R₃)
            have R₅ := (Rel.dropHold (c := { c with fs := (env.locals, gl₂) :: c.fs }) R₄)
            exact (Z.next hf ρ₂ _ e₂ (R₅.dropFr fun _ _ _ e => e)).1
      · cases h
    · cases h
end
end Mine
end

section
open PySem PySem.W PyProof.Rows PySem.Calls
set_option maxRecDepth 100000
namespace Mine

structure Snd (prog : Program) (w : World) (K : Frag) (T : Addr → Option Fn) (n : Nat) : Prop where
  ev : EvS prog w K T n
  evs : EvsS prog w K T n
  tst : TstS prog w K T n
  tsts : TstsS prog w K T n
  ex : ExS prog w K T n
  exs : ExsS prog w K T n
  call : CallS prog w K T n
  run : RunS prog w K T n
  use : UseS prog w K T n

section
variable {prog : Program} {w : World} {A : Around} {E : Value → Shared → Prop} {c : Cx} {ρ : Loc} {st st₁ st' : St} {s : Shared} {sc : Sc} {env : Env} {K : Frag} {T : Addr → Option Fn} {n : Nat}

theorem snd_zero : Snd prog w K T 0 where
  ev := fun _ _ _ h => by simp [Mine.ev] at h
  evs := fun _ _ _ h => by simp [Mine.evs] at h
  tst := fun _ _ _ h => by simp [Mine.tst] at h
  tsts := fun _ _ _ h => by simp [Mine.tsts] at h
  ex := fun _ _ _ _ h => by simp [Mine.ex] at h
  exs := fun _ _ _ _ h => by simp [Mine.exs] at h
  call := fun _ _ _ _ h => by simp [callF] at h
  run := fun _ _ _ _ _ h => by simp [loop] at h
  use := fun _ _ _ h => by simp [Mine.ev] at h

theorem ev_step (KK : KOK K) (KM : KMk K T) (GG : GK K T) (S : Snd prog w K T n) : EvS prog w K T (n + 1) := by
  intro c A ρ st s sc env e v st' X Sr R h
  cases e with
  | Constant cc k pos => exact ev_Constant_sound R h
  | Name x pos =>
    simp only [Mine.ev] at h
    obtain ⟨u, h1, h2⟩ := map_some h
    cases h2
    intro Q E k
    obtain ⟨u, r, g⟩ := name_sound (M := model prog w) (A := A) (E := E) (pos := pos) X.G Sr R h1
    exact g Q (k _ _ _ (Ext.refl _) R r)
  | BinOp l op r pos => exact ev_BinOp_sound S.ev X Sr R h
  | UnaryOp op x pos => exact ev_UnaryOp_sound S.ev X Sr R h
  | IfExp t b o pos => exact ev_IfExp_sound S.ev S.tst X Sr R h
  | Compare l ops rs pos => exact ev_Compare_sound S.ev X Sr R h
  | Attribute o x pos => exact ev_Attribute_sound KK KM S.ev S.call X Sr R h
  | Subscript o sl pos => exact ev_Subscript_sound S.ev X Sr R h
  | List es pos => exact ev_List_sound S.evs X Sr R h
  | ListComp elt gens scope pos => exact ev_ListComp_sound S.ev S.tsts (iter_sound KK GG) S.run X Sr R h
  | Call f as kws pos =>
    cases f with
    | Attribute o x apos =>
      cases kws with
      | nil => exact ev_CallM_sound KK KM S.ev S.evs S.call X Sr R h
      | cons k r => simp [Mine.ev] at h
    | Name f np => exact ev_CallN_sound KK KM S.ev S.evs S.call X Sr R h
    | _ => simp [Mine.ev] at h
  | _ => simp [Mine.ev] at h

theorem ex_step (KK : KOK K) (KM : KMk K T) (GG : GK K T) (S : Snd prog w K T n) : ExS prog w K T (n + 1) := by
  intro c A ρ st s sc env x fl st' tp X Sr R h
  cases x with
  | Pass p => simp only [Mine.ex] at h; cases h; exact fun Q E k => wpAny_Pass (k _ _ _ (Ext.refl _) R .next)
  | Break p => simp only [Mine.ex] at h; cases h; exact fun Q E k => wpAny_Break (k _ _ _ (Ext.refl _) R .brk)
  | Return v p =>
    cases v with
    | none => simp only [Mine.ex] at h; cases h; exact fun Q E k => wpAny_Return_none (k _ _ _ (Ext.refl _) R (.ret rfl))
    | some e =>
      simp only [Mine.ex] at h
      obtain ⟨⟨u, st₁⟩, h1, h2⟩ := map_some h
      cases h2
      exact fun Q E k => wpAny_Return_some (S.ev X Sr R h1 _ _ fun ρ' s' u e R' r => k _ _ _ e R' (.ret r))
  | Expr e p =>
    cases e with
    | Call f as kws q =>
      simp only [Mine.ex] at h
      obtain ⟨⟨u, st₁⟩, h1, h2⟩ := bind_some h
      dsimp only at h2
      split at h2
      · cases h2
        exact fun Q E k => wpAny_Expr (S.ev X Sr R h1 _ _ fun ρ' s' u e R' r => by cases r; exact k _ _ _ e R' .next) Sr.interactive
      · cases h2
    | _ => simp [Mine.ex] at h
  | Assert t m p =>
    cases m with
    | some m => simp [Mine.ex] at h
    | none =>
      simp only [Mine.ex] at h
      obtain ⟨⟨b, st₁⟩, h1, h2⟩ := bind_some h
      dsimp only at h2
      split at h2
      · rename_i hb
        cases h2
        exact fun Q E k => wpAny_Assert_holds (S.tst X Sr R h1 _ _ fun ρ' s' u e R' r => ⟨r.trans hb, k _ _ _ e R' .next⟩)
      · cases h2
  | If t b o p => exact ex_If_sound tp S.tst S.exs X Sr R h
  | AugAssign t op v p =>
    cases t with
    | Name x np =>
      cases op with
      | Add => exact ex_Aug_sound S.ev X Sr R h
      | _ => simp [Mine.ex] at h
    | _ => simp [Mine.ex] at h
  | Assign ts v p =>
    match ts with
    | [] => simp [Mine.ex] at h
    | _ :: _ :: _ => simp [Mine.ex] at h
    | [t] =>
      cases t with
      | Name x np => exact ex_Assign_Name_sound S.ev S.use X Sr R h
      | Attribute o x ap =>
        cases o with
        | Name o op => exact ex_Assign_Attr_sound KK S.ev X Sr R h
        | _ => simp [Mine.ex] at h
      | Subscript o i ap =>
        cases o with
        | Name o op =>
          cases i with
          | Name i ip => exact ex_Assign_Sub_sound S.ev X Sr R h
          | _ => simp [Mine.ex] at h
        | _ => simp [Mine.ex] at h
      | Tuple es k tp' =>
        cases v with
        | Tuple vs k2 vp => exact ex_Assign_Tuple_sound S.evs X Sr R h
        | _ => simp [Mine.ex] at h
      | _ => simp [Mine.ex] at h
  | For t it b o p =>
    cases t with
    | Name x np =>
      cases o with
      | nil => exact ex_For_sound tp S.ev S.exs (iter_sound KK GG) S.run X Sr R h
      | cons _ _ => simp [Mine.ex] at h
    | _ => simp [Mine.ex] at h
  | Try b hs o f p =>
    have shape : ∃ x xp a ap rp y yp k np rp2 hp, b = [.Return (some (.Attribute (.Name x xp) a ap)) rp] ∧ hs = [.ExceptHandler (some (.Name y yp)) none [.Return (some (.Constant .none k np)) rp2] hp] ∧ o = [] ∧ f = [] := by
      simp only [Mine.ex] at h
      split at h
      all_goals first
        | (rename_i q; cases q; done)
        | (cases h; done)
        | (rename_i q; cases q; exact ⟨_, _, _, _, _, _, _, _, _, _, _, rfl, rfl, rfl, rfl⟩)
    obtain ⟨x, xp, a, ap, rp, y, yp, k, np, rp2, hp, rfl, rfl, rfl, rfl⟩ := shape
    exact ex_Try_sound (tp' := p) KK tp X Sr R h
  | _ => simp [Mine.ex] at h

theorem snd (KK : KOK K) (KM : KMk K T) (GG : GK K T) : ∀ n, Snd prog w K T n
  | 0 => snd_zero
  | n + 1 => by
    have S : Snd prog w K T n := snd KK KM GG n
    exact {
      ev := ev_step KK KM GG S
      evs := fun X Sr R h => evs_sound S.ev S.evs X Sr R h
      tst := fun X Sr R h => tst_sound S.ev S.tst X Sr R h
      tsts := tsts_sound S.tst
      ex := ex_step KK KM GG S
      exs := fun tp X Sr R h => exs_sound tp S.ex S.exs X Sr R h
      call := call_sound KM.fn S.exs
      run := run_sound S.ev S.tst S.exs GG
      use := use_sound S.ev S.tsts (iter_sound KK GG) S.run }
end
end Mine
end

section
open PySem PySem.W PyProof.Rows
set_option maxRecDepth 100000
set_option maxHeartbeats 8000000
open_top hd for PySem.Challenge.rw_fd0044_01
end

section
open PySem PySem.W PyProof.Rows PySem.Calls
set_option maxRecDepth 100000
set_option maxHeartbeats 4000000
namespace Mine

def clsBody (n : Str) : List Stmt → List Stmt
  | [] => []
  | .ClassDef m _ _ b _ _ _ _ _ _ _ :: r => if m = n then b else clsBody n r
  | _ :: r => clsBody n r
def defIn (n : Str) : List Stmt → Option Fn
  | [] => none
  | .FunctionDef m a b _ _ _ sc _ _ _ :: r => if m = n then some ⟨a.args.map (·.arg), b, sc⟩ else defIn n r
  | _ :: r => defIn n r
def topBody : List Stmt := Challenge.pw_fd0044_01.main.body
def cC : List Stmt := clsBody "CircularListType" topBody
def cL : List Stmt := clsBody "List" cC
def cO : List Stmt := clsBody "OutgoingRoute" topBody
/-- the own functions, by where they lie in the ground -/
def T (f : Addr) : Option Fn :=
  if f = 35 then defIn "__init__" cL else
  if f = 42 then defIn "is_empty" cL else
  if f = 49 then defIn "clear" cL else
  if f = 56 then defIn "is_on_list" cL else
  if f = 63 then defIn "append" cL else
  if f = 70 then defIn "prepend" cL else
  if f = 84 then defIn "remove" cL else
  if f = 91 then defIn "pop_first" cL else
  if f = 98 then defIn "generator" cL else
  if f = 113 then defIn "__init__" cC else
  if f = 120 then defIn "create" cC else
  if f = 134 then defIn "node_init" cC else
  if f = 141 then defIn "node_next" cC else
  if f = 148 then defIn "node_set_next" cC else
  if f = 155 then defIn "node_prev" cC else
  if f = 162 then defIn "node_set_prev" cC else
  if f = 169 then defIn "node_is_on_list" cC else
  if f = 176 then defIn "node_insert_after" cC else
  if f = 183 then defIn "node_insert_before" cC else
  if f = 190 then defIn "node_unlink" cC else
  if f = 212 then defIn "__init__" cO else
  if f = 219 then defIn "path" cO else
  if f = 247 then defIn "_law_alike" topBody else
  if f = 252 then defIn "law" topBody else
  none
def fF : Option Fn := defIn "__iter__" cL

def fdAt (K : Frag) (f : Addr) : Option FuncData := match K.lookup f with
  | some ⟨_, _, .func fd, _⟩ => some fd
  | _ => none
theorem fdAt_some {K : Frag} {f : Addr} {fd : FuncData} (h : fdAt K f = some fd) : ∃ oc od osl, K.lookup f = some ⟨oc, od, .func fd, osl⟩ := by
  unfold fdAt at h
  split at h
  · rename_i e; cases h; exact ⟨_, _, _, e⟩
  · cases h
theorem fdAt_of {K : Frag} {f : Addr} {fd : FuncData} {oc od osl} (h : K.lookup f = some ⟨oc, od, .func fd, osl⟩) : fdAt K f = some fd := by
  unfold fdAt
  rw [h]
def face (K : Frag) (fd : FuncData) : FuncBody × Scope × List (Str × Addr) × Addr × Addr × Bool := (fd.body, fd.scope, fd.closure, fd.globals, fd.builtins, codeIn K fd.code fd.qualname)
def faceF (F : Fn) : FuncBody × Scope × List (Str × Addr) × Addr × Addr × Bool := (.stmts F.body, F.scope, [], mainGlobals, builtinsNs, true)
/-- what can be seen of a function without the ground -/
def okF (gen : Bool) (F : Fn) : Bool := !F.scope.isCoroutine && (F.scope.isGenerator == gen && (decide (F.scope.kind = .function) && (decide (F.scope.names.map (·.1)).Nodup && (decide F.names.Nodup &&
  F.names.all (fun x => decide (F.scope.names.lookup x = some .local) || decide (F.scope.names.lookup x = some .cell))))))

theorem face_of {K : Frag} {f : Addr} {F : Fn} {o : Option Fn} (h : o = some F) (h1 : (fdAt K f).map (face K) = o.map faceF) :
    ∃ oc od osl fd, K.lookup f = some ⟨oc, od, .func fd, osl⟩ ∧ fd.body = .stmts F.body ∧ fd.scope = F.scope ∧ fd.closure = [] ∧ fd.globals = mainGlobals ∧ fd.builtins = builtinsNs ∧ codeIn K fd.code fd.qualname = true := by
  subst h
  obtain ⟨fd, h2, h3⟩ := Option.map_eq_some_iff.mp h1
  obtain ⟨oc, od, osl, h4⟩ := fdAt_some h2
  unfold face faceF at h3
  simp only [Prod.mk.injEq] at h3
  obtain ⟨a1, a2, a3, a4, a5, a6⟩ := h3
  exact ⟨oc, od, osl, fd, h4, a1, a2, a3, a4, a5, a6⟩
theorem fnOK_of {K : Frag} {f : Addr} {F : Fn} {o : Option Fn} (h : o = some F) (h1 : (fdAt K f).map (face K) = o.map faceF) (h2 : o.map (okF false) = some true) : FnOK K f F := by
  have fo := face_of h h1
  subst h
  have h2 := Option.some.inj h2
  unfold okF at h2
  simp only [Bool.and_eq_true, Bool.not_eq_true', beq_iff_eq, decide_eq_true_eq, List.all_eq_true, Bool.or_eq_true] at h2
  obtain ⟨b1, b2, b3, b4, b5, b6⟩ := h2
  exact ⟨fo, b1, b2, b3, b4, b5, b6⟩

/-- a tree that looks at most once into the ground -/
def oneLoad {α : Type} (K : Frag) : Sem α → Option α
  | .pure x => some x
  | .load a _ k => (K.lookup a).bind fun o => pureOf (k o)
  | _ => none
theorem oneLoad_run {α : Type} {K : Frag} {t : Sem α} {x : α} {s : Shared} (X : K.In s.heap) (h : oneLoad K t = some x) {M : Model} {A : Around} {E : Value → Shared → Prop} {Q : α → Shared → Prop} (q : Q x s) : wpAny M A t Q E s := by
  unfold oneLoad at h
  split at h
  · cases h; exact wpAny_pure q
  · rename_i a p k
    obtain ⟨o, h1, h2⟩ := Option.bind_eq_some_iff.mp h
    refine nd_load (X _ _ h1) ?_
    rw [of_pureOf h2]
    exact wpAny_pure q
  · cases h
theorem binds_of {K : Frag} {f : Addr} {F : Fn} {o : Option Fn} {args : Args} {us : List Value} {s : Shared} (h : o = some F) (h1 : (fdAt K f).bind (fun fd => oneLoad K (bindArgs fd args)) = o.map fun F => F.names.zip us) (X : K.In s.heap) : Binds K s f args (F.names.zip us) := by
  subst h
  intro fd oc od osl hl M A E Q q
  rw [fdAt_of hl] at h1
  exact oneLoad_run X (h1 : oneLoad K (bindArgs fd args) = some (F.names.zip us)) q

section
variable (P : Params)
theorem face_35 : (fdAt (hd.heap_39 P) 35).map (face (hd.heap_39 P)) = (T 35).map faceF := by kernel_rfl
theorem ok_35 : (T 35).map (okF false) = some true := by kernel_rfl
theorem bind_35 (a b : Value) : (fdAt (hd.heap_39 P) 35).bind (fun fd => oneLoad (hd.heap_39 P) (bindArgs fd ⟨[a, b], []⟩)) = (T 35).map fun F => F.names.zip [a, b] := by kernel_rfl
theorem len_35 : (T 35).map (fun F => F.names.length) = some 2 := by kernel_rfl
theorem face_42 : (fdAt (hd.heap_39 P) 42).map (face (hd.heap_39 P)) = (T 42).map faceF := by kernel_rfl
theorem ok_42 : (T 42).map (okF false) = some true := by kernel_rfl
theorem bind_42 (a : Value) : (fdAt (hd.heap_39 P) 42).bind (fun fd => oneLoad (hd.heap_39 P) (bindArgs fd ⟨[a], []⟩)) = (T 42).map fun F => F.names.zip [a] := by kernel_rfl
theorem len_42 : (T 42).map (fun F => F.names.length) = some 1 := by kernel_rfl
theorem face_49 : (fdAt (hd.heap_39 P) 49).map (face (hd.heap_39 P)) = (T 49).map faceF := by kernel_rfl
theorem ok_49 : (T 49).map (okF false) = some true := by kernel_rfl
theorem bind_49 (a : Value) : (fdAt (hd.heap_39 P) 49).bind (fun fd => oneLoad (hd.heap_39 P) (bindArgs fd ⟨[a], []⟩)) = (T 49).map fun F => F.names.zip [a] := by kernel_rfl
theorem len_49 : (T 49).map (fun F => F.names.length) = some 1 := by kernel_rfl
theorem face_56 : (fdAt (hd.heap_39 P) 56).map (face (hd.heap_39 P)) = (T 56).map faceF := by kernel_rfl
theorem ok_56 : (T 56).map (okF false) = some true := by kernel_rfl
theorem bind_56 (a b : Value) : (fdAt (hd.heap_39 P) 56).bind (fun fd => oneLoad (hd.heap_39 P) (bindArgs fd ⟨[a, b], []⟩)) = (T 56).map fun F => F.names.zip [a, b] := by kernel_rfl
theorem len_56 : (T 56).map (fun F => F.names.length) = some 2 := by kernel_rfl
theorem face_63 : (fdAt (hd.heap_39 P) 63).map (face (hd.heap_39 P)) = (T 63).map faceF := by kernel_rfl
theorem ok_63 : (T 63).map (okF false) = some true := by kernel_rfl
theorem bind_63 (a b : Value) : (fdAt (hd.heap_39 P) 63).bind (fun fd => oneLoad (hd.heap_39 P) (bindArgs fd ⟨[a, b], []⟩)) = (T 63).map fun F => F.names.zip [a, b] := by kernel_rfl
theorem len_63 : (T 63).map (fun F => F.names.length) = some 2 := by kernel_rfl
theorem face_70 : (fdAt (hd.heap_39 P) 70).map (face (hd.heap_39 P)) = (T 70).map faceF := by kernel_rfl
theorem ok_70 : (T 70).map (okF false) = some true := by kernel_rfl
theorem bind_70 (a b : Value) : (fdAt (hd.heap_39 P) 70).bind (fun fd => oneLoad (hd.heap_39 P) (bindArgs fd ⟨[a, b], []⟩)) = (T 70).map fun F => F.names.zip [a, b] := by kernel_rfl
theorem len_70 : (T 70).map (fun F => F.names.length) = some 2 := by kernel_rfl
theorem face_84 : (fdAt (hd.heap_39 P) 84).map (face (hd.heap_39 P)) = (T 84).map faceF := by kernel_rfl
theorem ok_84 : (T 84).map (okF false) = some true := by kernel_rfl
theorem bind_84 (a b : Value) : (fdAt (hd.heap_39 P) 84).bind (fun fd => oneLoad (hd.heap_39 P) (bindArgs fd ⟨[a, b], []⟩)) = (T 84).map fun F => F.names.zip [a, b] := by kernel_rfl
theorem len_84 : (T 84).map (fun F => F.names.length) = some 2 := by kernel_rfl
theorem face_91 : (fdAt (hd.heap_39 P) 91).map (face (hd.heap_39 P)) = (T 91).map faceF := by kernel_rfl
theorem ok_91 : (T 91).map (okF false) = some true := by kernel_rfl
theorem bind_91 (a : Value) : (fdAt (hd.heap_39 P) 91).bind (fun fd => oneLoad (hd.heap_39 P) (bindArgs fd ⟨[a], []⟩)) = (T 91).map fun F => F.names.zip [a] := by kernel_rfl
theorem len_91 : (T 91).map (fun F => F.names.length) = some 1 := by kernel_rfl
theorem face_98 : (fdAt (hd.heap_39 P) 98).map (face (hd.heap_39 P)) = (T 98).map faceF := by kernel_rfl
theorem ok_98 : (T 98).map (okF true) = some true := by kernel_rfl
theorem bind_98 (a : Value) : (fdAt (hd.heap_39 P) 98).bind (fun fd => oneLoad (hd.heap_39 P) (bindArgs fd ⟨[a], []⟩)) = (T 98).map fun F => F.names.zip [a] := by kernel_rfl
theorem len_98 : (T 98).map (fun F => F.names.length) = some 1 := by kernel_rfl
theorem face_113 : (fdAt (hd.heap_39 P) 113).map (face (hd.heap_39 P)) = (T 113).map faceF := by kernel_rfl
theorem ok_113 : (T 113).map (okF false) = some true := by kernel_rfl
theorem bind_113 (a b c : Value) : (fdAt (hd.heap_39 P) 113).bind (fun fd => oneLoad (hd.heap_39 P) (bindArgs fd ⟨[a, b, c], []⟩)) = (T 113).map fun F => F.names.zip [a, b, c] := by kernel_rfl
theorem len_113 : (T 113).map (fun F => F.names.length) = some 3 := by kernel_rfl
theorem face_120 : (fdAt (hd.heap_39 P) 120).map (face (hd.heap_39 P)) = (T 120).map faceF := by kernel_rfl
theorem ok_120 : (T 120).map (okF false) = some true := by kernel_rfl
theorem bind_120 (a : Value) : (fdAt (hd.heap_39 P) 120).bind (fun fd => oneLoad (hd.heap_39 P) (bindArgs fd ⟨[a], []⟩)) = (T 120).map fun F => F.names.zip [a] := by kernel_rfl
theorem len_120 : (T 120).map (fun F => F.names.length) = some 1 := by kernel_rfl
theorem face_134 : (fdAt (hd.heap_39 P) 134).map (face (hd.heap_39 P)) = (T 134).map faceF := by kernel_rfl
theorem ok_134 : (T 134).map (okF false) = some true := by kernel_rfl
theorem bind_134 (a b : Value) : (fdAt (hd.heap_39 P) 134).bind (fun fd => oneLoad (hd.heap_39 P) (bindArgs fd ⟨[a, b], []⟩)) = (T 134).map fun F => F.names.zip [a, b] := by kernel_rfl
theorem len_134 : (T 134).map (fun F => F.names.length) = some 2 := by kernel_rfl
theorem face_141 : (fdAt (hd.heap_39 P) 141).map (face (hd.heap_39 P)) = (T 141).map faceF := by kernel_rfl
theorem ok_141 : (T 141).map (okF false) = some true := by kernel_rfl
theorem bind_141 (a b : Value) : (fdAt (hd.heap_39 P) 141).bind (fun fd => oneLoad (hd.heap_39 P) (bindArgs fd ⟨[a, b], []⟩)) = (T 141).map fun F => F.names.zip [a, b] := by kernel_rfl
theorem len_141 : (T 141).map (fun F => F.names.length) = some 2 := by kernel_rfl
theorem face_148 : (fdAt (hd.heap_39 P) 148).map (face (hd.heap_39 P)) = (T 148).map faceF := by kernel_rfl
theorem ok_148 : (T 148).map (okF false) = some true := by kernel_rfl
theorem bind_148 (a b c : Value) : (fdAt (hd.heap_39 P) 148).bind (fun fd => oneLoad (hd.heap_39 P) (bindArgs fd ⟨[a, b, c], []⟩)) = (T 148).map fun F => F.names.zip [a, b, c] := by kernel_rfl
theorem len_148 : (T 148).map (fun F => F.names.length) = some 3 := by kernel_rfl
theorem face_155 : (fdAt (hd.heap_39 P) 155).map (face (hd.heap_39 P)) = (T 155).map faceF := by kernel_rfl
theorem ok_155 : (T 155).map (okF false) = some true := by kernel_rfl
theorem bind_155 (a b : Value) : (fdAt (hd.heap_39 P) 155).bind (fun fd => oneLoad (hd.heap_39 P) (bindArgs fd ⟨[a, b], []⟩)) = (T 155).map fun F => F.names.zip [a, b] := by kernel_rfl
theorem len_155 : (T 155).map (fun F => F.names.length) = some 2 := by kernel_rfl
theorem face_162 : (fdAt (hd.heap_39 P) 162).map (face (hd.heap_39 P)) = (T 162).map faceF := by kernel_rfl
theorem ok_162 : (T 162).map (okF false) = some true := by kernel_rfl
theorem bind_162 (a b c : Value) : (fdAt (hd.heap_39 P) 162).bind (fun fd => oneLoad (hd.heap_39 P) (bindArgs fd ⟨[a, b, c], []⟩)) = (T 162).map fun F => F.names.zip [a, b, c] := by kernel_rfl
theorem len_162 : (T 162).map (fun F => F.names.length) = some 3 := by kernel_rfl
theorem face_169 : (fdAt (hd.heap_39 P) 169).map (face (hd.heap_39 P)) = (T 169).map faceF := by kernel_rfl
theorem ok_169 : (T 169).map (okF false) = some true := by kernel_rfl
theorem bind_169 (a b : Value) : (fdAt (hd.heap_39 P) 169).bind (fun fd => oneLoad (hd.heap_39 P) (bindArgs fd ⟨[a, b], []⟩)) = (T 169).map fun F => F.names.zip [a, b] := by kernel_rfl
theorem len_169 : (T 169).map (fun F => F.names.length) = some 2 := by kernel_rfl
theorem face_176 : (fdAt (hd.heap_39 P) 176).map (face (hd.heap_39 P)) = (T 176).map faceF := by kernel_rfl
theorem ok_176 : (T 176).map (okF false) = some true := by kernel_rfl
theorem bind_176 (a b c : Value) : (fdAt (hd.heap_39 P) 176).bind (fun fd => oneLoad (hd.heap_39 P) (bindArgs fd ⟨[a, b, c], []⟩)) = (T 176).map fun F => F.names.zip [a, b, c] := by kernel_rfl
theorem len_176 : (T 176).map (fun F => F.names.length) = some 3 := by kernel_rfl
theorem face_183 : (fdAt (hd.heap_39 P) 183).map (face (hd.heap_39 P)) = (T 183).map faceF := by kernel_rfl
theorem ok_183 : (T 183).map (okF false) = some true := by kernel_rfl
theorem bind_183 (a b c : Value) : (fdAt (hd.heap_39 P) 183).bind (fun fd => oneLoad (hd.heap_39 P) (bindArgs fd ⟨[a, b, c], []⟩)) = (T 183).map fun F => F.names.zip [a, b, c] := by kernel_rfl
theorem len_183 : (T 183).map (fun F => F.names.length) = some 3 := by kernel_rfl
theorem face_190 : (fdAt (hd.heap_39 P) 190).map (face (hd.heap_39 P)) = (T 190).map faceF := by kernel_rfl
theorem ok_190 : (T 190).map (okF false) = some true := by kernel_rfl
theorem bind_190 (a b : Value) : (fdAt (hd.heap_39 P) 190).bind (fun fd => oneLoad (hd.heap_39 P) (bindArgs fd ⟨[a, b], []⟩)) = (T 190).map fun F => F.names.zip [a, b] := by kernel_rfl
theorem len_190 : (T 190).map (fun F => F.names.length) = some 2 := by kernel_rfl
theorem face_212 : (fdAt (hd.heap_39 P) 212).map (face (hd.heap_39 P)) = (T 212).map faceF := by kernel_rfl
theorem ok_212 : (T 212).map (okF false) = some true := by kernel_rfl
theorem bind_212 (a b c : Value) : (fdAt (hd.heap_39 P) 212).bind (fun fd => oneLoad (hd.heap_39 P) (bindArgs fd ⟨[a, b, c], []⟩)) = (T 212).map fun F => F.names.zip [a, b, c] := by kernel_rfl
theorem len_212 : (T 212).map (fun F => F.names.length) = some 3 := by kernel_rfl
theorem face_219 : (fdAt (hd.heap_39 P) 219).map (face (hd.heap_39 P)) = (T 219).map faceF := by kernel_rfl
theorem ok_219 : (T 219).map (okF false) = some true := by kernel_rfl
theorem bind_219 (a : Value) : (fdAt (hd.heap_39 P) 219).bind (fun fd => oneLoad (hd.heap_39 P) (bindArgs fd ⟨[a], []⟩)) = (T 219).map fun F => F.names.zip [a] := by kernel_rfl
theorem len_219 : (T 219).map (fun F => F.names.length) = some 1 := by kernel_rfl
theorem face_247 : (fdAt (hd.heap_39 P) 247).map (face (hd.heap_39 P)) = (T 247).map faceF := by kernel_rfl
theorem ok_247 : (T 247).map (okF false) = some true := by kernel_rfl
theorem bind_247 (a b c d : Value) : (fdAt (hd.heap_39 P) 247).bind (fun fd => oneLoad (hd.heap_39 P) (bindArgs fd ⟨[a, b, c, d], []⟩)) = (T 247).map fun F => F.names.zip [a, b, c, d] := by kernel_rfl
theorem len_247 : (T 247).map (fun F => F.names.length) = some 4 := by kernel_rfl
theorem face_252 : (fdAt (hd.heap_39 P) 252).map (face (hd.heap_39 P)) = (T 252).map faceF := by kernel_rfl
theorem ok_252 : (T 252).map (okF false) = some true := by kernel_rfl
theorem bind_252 (a : Value) : (fdAt (hd.heap_39 P) 252).bind (fun fd => oneLoad (hd.heap_39 P) (bindArgs fd ⟨[a], []⟩)) = (T 252).map fun F => F.names.zip [a] := by kernel_rfl
theorem len_252 : (T 252).map (fun F => F.names.length) = some 1 := by kernel_rfl
theorem bind_113k (a b c : Value) : (fdAt (hd.heap_39 P) 113).bind (fun fd => oneLoad (hd.heap_39 P) (bindArgs fd ⟨[a], [("next_attr_name", b), ("prev_attr_name", c)]⟩)) = (T 113).map fun F => F.names.zip [a, b, c] := by kernel_rfl
theorem bind_212k (a b : Value) : (fdAt (hd.heap_39 P) 212).bind (fun fd => oneLoad (hd.heap_39 P) (bindArgs fd ⟨[a, b], []⟩)) = (T 212).map fun F => F.names.zip [a, b, .bool false] := by kernel_rfl

end
end Mine
end

section
open PySem PySem.W PyProof.Rows PySem.Calls
set_option maxRecDepth 100000
set_option maxHeartbeats 4000000
namespace Mine
section
variable (P : Params)

theorem T_cases {f : Addr} {F : Fn} (h : T f = some F) : f = 35 ∨ f = 42 ∨ f = 49 ∨ f = 56 ∨ f = 63 ∨ f = 70 ∨ f = 84 ∨ f = 91 ∨ f = 98 ∨ f = 113 ∨ f = 120 ∨ f = 134 ∨ f = 141 ∨ f = 148 ∨ f = 155 ∨ f = 162 ∨ f = 169 ∨ f = 176 ∨ f = 183 ∨ f = 190 ∨ f = 212 ∨ f = 219 ∨ f = 247 ∨ f = 252 := by
  apply Decidable.byContradiction
  intro hn
  simp only [not_or] at hn
  obtain ⟨h35, h42, h49, h56, h63, h70, h84, h91, h98, h113, h120, h134, h141, h148, h155, h162, h169, h176, h183, h190, h212, h219, h247, h252⟩ := hn
  unfold T at h
  rw [if_neg h35, if_neg h42, if_neg h49, if_neg h56, if_neg h63, if_neg h70, if_neg h84, if_neg h91, if_neg h98, if_neg h113, if_neg h120, if_neg h134, if_neg h141, if_neg h148, if_neg h155, if_neg h162, if_neg h169, if_neg h176, if_neg h183, if_neg h190, if_neg h212, if_neg h219, if_neg h247, if_neg h252] at h
  cases h
theorem fn_all (f : Addr) (F : Fn) (h : T f = some F) (hne : f ≠ 98) : FnOK (hd.heap_39 P) f F := by
  rcases T_cases h with rfl | rfl | rfl | rfl | rfl | rfl | rfl | rfl | rfl | rfl | rfl | rfl | rfl | rfl | rfl | rfl | rfl | rfl | rfl | rfl | rfl | rfl | rfl | rfl
  · exact fnOK_of h (face_35 P) ok_35
  · exact fnOK_of h (face_42 P) ok_42
  · exact fnOK_of h (face_49 P) ok_49
  · exact fnOK_of h (face_56 P) ok_56
  · exact fnOK_of h (face_63 P) ok_63
  · exact fnOK_of h (face_70 P) ok_70
  · exact fnOK_of h (face_84 P) ok_84
  · exact fnOK_of h (face_91 P) ok_91
  · exact absurd rfl hne
  · exact fnOK_of h (face_113 P) ok_113
  · exact fnOK_of h (face_120 P) ok_120
  · exact fnOK_of h (face_134 P) ok_134
  · exact fnOK_of h (face_141 P) ok_141
  · exact fnOK_of h (face_148 P) ok_148
  · exact fnOK_of h (face_155 P) ok_155
  · exact fnOK_of h (face_162 P) ok_162
  · exact fnOK_of h (face_169 P) ok_169
  · exact fnOK_of h (face_176 P) ok_176
  · exact fnOK_of h (face_183 P) ok_183
  · exact fnOK_of h (face_190 P) ok_190
  · exact fnOK_of h (face_212 P) ok_212
  · exact fnOK_of h (face_219 P) ok_219
  · exact fnOK_of h (face_247 P) ok_247
  · exact fnOK_of h (face_252 P) ok_252
theorem len_get {f : Addr} {F : Fn} {k : Nat} (h : T f = some F) (h1 : (T f).map (fun F => F.names.length) = some k) : F.names.length = k := by
  rw [h] at h1
  exact Option.some.inj h1
theorem pos1 {us : List Value} (h : us.length = 1) : ∃ a, us = [a] := by
  match us, h with | [a], _ => exact ⟨a, rfl⟩
theorem pos2 {us : List Value} (h : us.length = 2) : ∃ a b, us = [a, b] := by
  match us, h with | [a, b], _ => exact ⟨a, b, rfl⟩
theorem pos3 {us : List Value} (h : us.length = 3) : ∃ a b c, us = [a, b, c] := by
  match us, h with | [a, b, c], _ => exact ⟨a, b, c, rfl⟩
theorem pos4 {us : List Value} (h : us.length = 4) : ∃ a b c d, us = [a, b, c, d] := by
  match us, h with | [a, b, c, d], _ => exact ⟨a, b, c, d, rfl⟩
theorem pos_all (f : Addr) (F : Fn) (h : T f = some F) (hne : f ≠ 98) (us : List Value) (s : Shared) (X : (hd.heap_39 P).In s.heap) (hl : us.length = F.names.length) : Binds (hd.heap_39 P) s f ⟨us, []⟩ (F.names.zip us) := by
  rcases T_cases h with rfl | rfl | rfl | rfl | rfl | rfl | rfl | rfl | rfl | rfl | rfl | rfl | rfl | rfl | rfl | rfl | rfl | rfl | rfl | rfl | rfl | rfl | rfl | rfl
  · obtain ⟨a, b, rfl⟩ := pos2 (hl.trans (len_get h len_35)); exact binds_of h (bind_35 P a b) X
  · obtain ⟨a, rfl⟩ := pos1 (hl.trans (len_get h len_42)); exact binds_of h (bind_42 P a) X
  · obtain ⟨a, rfl⟩ := pos1 (hl.trans (len_get h len_49)); exact binds_of h (bind_49 P a) X
  · obtain ⟨a, b, rfl⟩ := pos2 (hl.trans (len_get h len_56)); exact binds_of h (bind_56 P a b) X
  · obtain ⟨a, b, rfl⟩ := pos2 (hl.trans (len_get h len_63)); exact binds_of h (bind_63 P a b) X
  · obtain ⟨a, b, rfl⟩ := pos2 (hl.trans (len_get h len_70)); exact binds_of h (bind_70 P a b) X
  · obtain ⟨a, b, rfl⟩ := pos2 (hl.trans (len_get h len_84)); exact binds_of h (bind_84 P a b) X
  · obtain ⟨a, rfl⟩ := pos1 (hl.trans (len_get h len_91)); exact binds_of h (bind_91 P a) X
  · exact absurd rfl hne
  · obtain ⟨a, b, c, rfl⟩ := pos3 (hl.trans (len_get h len_113)); exact binds_of h (bind_113 P a b c) X
  · obtain ⟨a, rfl⟩ := pos1 (hl.trans (len_get h len_120)); exact binds_of h (bind_120 P a) X
  · obtain ⟨a, b, rfl⟩ := pos2 (hl.trans (len_get h len_134)); exact binds_of h (bind_134 P a b) X
  · obtain ⟨a, b, rfl⟩ := pos2 (hl.trans (len_get h len_141)); exact binds_of h (bind_141 P a b) X
  · obtain ⟨a, b, c, rfl⟩ := pos3 (hl.trans (len_get h len_148)); exact binds_of h (bind_148 P a b c) X
  · obtain ⟨a, b, rfl⟩ := pos2 (hl.trans (len_get h len_155)); exact binds_of h (bind_155 P a b) X
  · obtain ⟨a, b, c, rfl⟩ := pos3 (hl.trans (len_get h len_162)); exact binds_of h (bind_162 P a b c) X
  · obtain ⟨a, b, rfl⟩ := pos2 (hl.trans (len_get h len_169)); exact binds_of h (bind_169 P a b) X
  · obtain ⟨a, b, c, rfl⟩ := pos3 (hl.trans (len_get h len_176)); exact binds_of h (bind_176 P a b c) X
  · obtain ⟨a, b, c, rfl⟩ := pos3 (hl.trans (len_get h len_183)); exact binds_of h (bind_183 P a b c) X
  · obtain ⟨a, b, rfl⟩ := pos2 (hl.trans (len_get h len_190)); exact binds_of h (bind_190 P a b) X
  · obtain ⟨a, b, c, rfl⟩ := pos3 (hl.trans (len_get h len_212)); exact binds_of h (bind_212 P a b c) X
  · obtain ⟨a, rfl⟩ := pos1 (hl.trans (len_get h len_219)); exact binds_of h (bind_219 P a) X
  · obtain ⟨a, b, c, d, rfl⟩ := pos4 (hl.trans (len_get h len_247)); exact binds_of h (bind_247 P a b c d) X
  · obtain ⟨a, rfl⟩ := pos1 (hl.trans (len_get h len_252)); exact binds_of h (bind_252 P a) X
theorem hd_101 : hasDictIn (hd.heap_39 P) 101 = true := by kernel_rfl
theorem sa_101 : findIn (hd.heap_39 P) (.ref 101) "__setattr__" = some (some (.builtin "object.__setattr__")) := by kernel_rfl
theorem po_101 : plainOver (hd.heap_39 P) 101 = true := by kernel_rfl
theorem pg_101 (x : Str) : plainGet (hd.heap_39 P) 101 x = true := by kernel_rfl
theorem nof_101_0 : findIn (hd.heap_39 P) (.ref 101) "next_on_list" = some none := by kernel_rfl
theorem tk_101_0 : takerIn (hd.heap_39 P) 101 "next_on_list" = some none := by kernel_rfl
theorem nof_101_1 : findIn (hd.heap_39 P) (.ref 101) "prev_on_list" = some none := by kernel_rfl
theorem tk_101_1 : takerIn (hd.heap_39 P) 101 "prev_on_list" = some none := by kernel_rfl
theorem nof_101_2 : findIn (hd.heap_39 P) (.ref 101) "list_type" = some none := by kernel_rfl
theorem tk_101_2 : takerIn (hd.heap_39 P) 101 "list_type" = some none := by kernel_rfl
theorem nof_101_3 : findIn (hd.heap_39 P) (.ref 101) "head" = some none := by kernel_rfl
theorem tk_101_3 : takerIn (hd.heap_39 P) 101 "head" = some none := by kernel_rfl
theorem nof_101_4 : findIn (hd.heap_39 P) (.ref 101) "sink" = some none := by kernel_rfl
theorem tk_101_4 : takerIn (hd.heap_39 P) 101 "sink" = some none := by kernel_rfl
theorem nof_101_5 : findIn (hd.heap_39 P) (.ref 101) "_path" = some none := by kernel_rfl
theorem tk_101_5 : takerIn (hd.heap_39 P) 101 "_path" = some none := by kernel_rfl
theorem nof_101_6 : findIn (hd.heap_39 P) (.ref 101) "_for_route_refresh" = some none := by kernel_rfl
theorem tk_101_6 : takerIn (hd.heap_39 P) 101 "_for_route_refresh" = some none := by kernel_rfl
theorem hd_193 : hasDictIn (hd.heap_39 P) 193 = true := by kernel_rfl
theorem sa_193 : findIn (hd.heap_39 P) (.ref 193) "__setattr__" = some (some (.builtin "object.__setattr__")) := by kernel_rfl
theorem po_193 : plainOver (hd.heap_39 P) 193 = true := by kernel_rfl
theorem pg_193 (x : Str) : plainGet (hd.heap_39 P) 193 x = true := by kernel_rfl
theorem nof_193_0 : findIn (hd.heap_39 P) (.ref 193) "next_on_list" = some none := by kernel_rfl
theorem tk_193_0 : takerIn (hd.heap_39 P) 193 "next_on_list" = some none := by kernel_rfl
theorem nof_193_1 : findIn (hd.heap_39 P) (.ref 193) "prev_on_list" = some none := by kernel_rfl
theorem tk_193_1 : takerIn (hd.heap_39 P) 193 "prev_on_list" = some none := by kernel_rfl
theorem nof_193_2 : findIn (hd.heap_39 P) (.ref 193) "list_type" = some none := by kernel_rfl
theorem tk_193_2 : takerIn (hd.heap_39 P) 193 "list_type" = some none := by kernel_rfl
theorem nof_193_3 : findIn (hd.heap_39 P) (.ref 193) "head" = some none := by kernel_rfl
theorem tk_193_3 : takerIn (hd.heap_39 P) 193 "head" = some none := by kernel_rfl
theorem nof_193_4 : findIn (hd.heap_39 P) (.ref 193) "sink" = some none := by kernel_rfl
theorem tk_193_4 : takerIn (hd.heap_39 P) 193 "sink" = some none := by kernel_rfl
theorem nof_193_5 : findIn (hd.heap_39 P) (.ref 193) "_path" = some none := by kernel_rfl
theorem tk_193_5 : takerIn (hd.heap_39 P) 193 "_path" = some none := by kernel_rfl
theorem nof_193_6 : findIn (hd.heap_39 P) (.ref 193) "_for_route_refresh" = some none := by kernel_rfl
theorem tk_193_6 : takerIn (hd.heap_39 P) 193 "_for_route_refresh" = some none := by kernel_rfl
theorem hd_238 : hasDictIn (hd.heap_39 P) 238 = true := by kernel_rfl
theorem sa_238 : findIn (hd.heap_39 P) (.ref 238) "__setattr__" = some (some (.builtin "object.__setattr__")) := by kernel_rfl
theorem po_238 : plainOver (hd.heap_39 P) 238 = true := by kernel_rfl
theorem pg_238 (x : Str) : plainGet (hd.heap_39 P) 238 x = true := by kernel_rfl
theorem nof_238_0 : findIn (hd.heap_39 P) (.ref 238) "next_on_list" = some none := by kernel_rfl
theorem tk_238_0 : takerIn (hd.heap_39 P) 238 "next_on_list" = some none := by kernel_rfl
theorem nof_238_1 : findIn (hd.heap_39 P) (.ref 238) "prev_on_list" = some none := by kernel_rfl
theorem tk_238_1 : takerIn (hd.heap_39 P) 238 "prev_on_list" = some none := by kernel_rfl
theorem nof_238_2 : findIn (hd.heap_39 P) (.ref 238) "list_type" = some none := by kernel_rfl
theorem tk_238_2 : takerIn (hd.heap_39 P) 238 "list_type" = some none := by kernel_rfl
theorem nof_238_3 : findIn (hd.heap_39 P) (.ref 238) "head" = some none := by kernel_rfl
theorem tk_238_3 : takerIn (hd.heap_39 P) 238 "head" = some none := by kernel_rfl
theorem nof_238_4 : findIn (hd.heap_39 P) (.ref 238) "sink" = some none := by kernel_rfl
theorem tk_238_4 : takerIn (hd.heap_39 P) 238 "sink" = some none := by kernel_rfl
theorem nof_238_5 : findIn (hd.heap_39 P) (.ref 238) "_path" = some none := by kernel_rfl
theorem tk_238_5 : takerIn (hd.heap_39 P) 238 "_path" = some none := by kernel_rfl
theorem nof_238_6 : findIn (hd.heap_39 P) (.ref 238) "_for_route_refresh" = some none := by kernel_rfl
theorem tk_238_6 : takerIn (hd.heap_39 P) 238 "_for_route_refresh" = some none := by kernel_rfl
theorem me_193_141 : findIn (hd.heap_39 P) (.ref 193) "node_next" = some (some (.ref 141)) ∧ isFn (hd.heap_39 P) (.ref 141) = true ∧ keepIn (hd.heap_39 P) (.ref 141) = true := ⟨by kernel_rfl, by kernel_rfl, by kernel_rfl⟩
theorem me_193_155 : findIn (hd.heap_39 P) (.ref 193) "node_prev" = some (some (.ref 155)) ∧ isFn (hd.heap_39 P) (.ref 155) = true ∧ keepIn (hd.heap_39 P) (.ref 155) = true := ⟨by kernel_rfl, by kernel_rfl, by kernel_rfl⟩
theorem me_193_148 : findIn (hd.heap_39 P) (.ref 193) "node_set_next" = some (some (.ref 148)) ∧ isFn (hd.heap_39 P) (.ref 148) = true ∧ keepIn (hd.heap_39 P) (.ref 148) = true := ⟨by kernel_rfl, by kernel_rfl, by kernel_rfl⟩
theorem me_193_162 : findIn (hd.heap_39 P) (.ref 193) "node_set_prev" = some (some (.ref 162)) ∧ isFn (hd.heap_39 P) (.ref 162) = true ∧ keepIn (hd.heap_39 P) (.ref 162) = true := ⟨by kernel_rfl, by kernel_rfl, by kernel_rfl⟩
theorem me_193_169 : findIn (hd.heap_39 P) (.ref 193) "node_is_on_list" = some (some (.ref 169)) ∧ isFn (hd.heap_39 P) (.ref 169) = true ∧ keepIn (hd.heap_39 P) (.ref 169) = true := ⟨by kernel_rfl, by kernel_rfl, by kernel_rfl⟩
theorem me_193_176 : findIn (hd.heap_39 P) (.ref 193) "node_insert_after" = some (some (.ref 176)) ∧ isFn (hd.heap_39 P) (.ref 176) = true ∧ keepIn (hd.heap_39 P) (.ref 176) = true := ⟨by kernel_rfl, by kernel_rfl, by kernel_rfl⟩
theorem me_193_183 : findIn (hd.heap_39 P) (.ref 193) "node_insert_before" = some (some (.ref 183)) ∧ isFn (hd.heap_39 P) (.ref 183) = true ∧ keepIn (hd.heap_39 P) (.ref 183) = true := ⟨by kernel_rfl, by kernel_rfl, by kernel_rfl⟩
theorem me_193_190 : findIn (hd.heap_39 P) (.ref 193) "node_unlink" = some (some (.ref 190)) ∧ isFn (hd.heap_39 P) (.ref 190) = true ∧ keepIn (hd.heap_39 P) (.ref 190) = true := ⟨by kernel_rfl, by kernel_rfl, by kernel_rfl⟩
theorem me_193_134 : findIn (hd.heap_39 P) (.ref 193) "node_init" = some (some (.ref 134)) ∧ isFn (hd.heap_39 P) (.ref 134) = true ∧ keepIn (hd.heap_39 P) (.ref 134) = true := ⟨by kernel_rfl, by kernel_rfl, by kernel_rfl⟩
theorem me_193_120 : findIn (hd.heap_39 P) (.ref 193) "create" = some (some (.ref 120)) ∧ isFn (hd.heap_39 P) (.ref 120) = true ∧ keepIn (hd.heap_39 P) (.ref 120) = true := ⟨by kernel_rfl, by kernel_rfl, by kernel_rfl⟩
theorem me_101_84 : findIn (hd.heap_39 P) (.ref 101) "remove" = some (some (.ref 84)) ∧ isFn (hd.heap_39 P) (.ref 84) = true ∧ keepIn (hd.heap_39 P) (.ref 84) = true := ⟨by kernel_rfl, by kernel_rfl, by kernel_rfl⟩
theorem me_101_63 : findIn (hd.heap_39 P) (.ref 101) "append" = some (some (.ref 63)) ∧ isFn (hd.heap_39 P) (.ref 63) = true ∧ keepIn (hd.heap_39 P) (.ref 63) = true := ⟨by kernel_rfl, by kernel_rfl, by kernel_rfl⟩
theorem me_101_70 : findIn (hd.heap_39 P) (.ref 101) "prepend" = some (some (.ref 70)) ∧ isFn (hd.heap_39 P) (.ref 70) = true ∧ keepIn (hd.heap_39 P) (.ref 70) = true := ⟨by kernel_rfl, by kernel_rfl, by kernel_rfl⟩
theorem me_101_56 : findIn (hd.heap_39 P) (.ref 101) "is_on_list" = some (some (.ref 56)) ∧ isFn (hd.heap_39 P) (.ref 56) = true ∧ keepIn (hd.heap_39 P) (.ref 56) = true := ⟨by kernel_rfl, by kernel_rfl, by kernel_rfl⟩
theorem me_101_42 : findIn (hd.heap_39 P) (.ref 101) "is_empty" = some (some (.ref 42)) ∧ isFn (hd.heap_39 P) (.ref 42) = true ∧ keepIn (hd.heap_39 P) (.ref 42) = true := ⟨by kernel_rfl, by kernel_rfl, by kernel_rfl⟩
theorem me_101_91 : findIn (hd.heap_39 P) (.ref 101) "pop_first" = some (some (.ref 91)) ∧ isFn (hd.heap_39 P) (.ref 91) = true ∧ keepIn (hd.heap_39 P) (.ref 91) = true := ⟨by kernel_rfl, by kernel_rfl, by kernel_rfl⟩
theorem me_101_49 : findIn (hd.heap_39 P) (.ref 101) "clear" = some (some (.ref 49)) ∧ isFn (hd.heap_39 P) (.ref 49) = true ∧ keepIn (hd.heap_39 P) (.ref 49) = true := ⟨by kernel_rfl, by kernel_rfl, by kernel_rfl⟩
theorem me_all (C : Addr) (x : Str) (f : Addr) (h : meth C x = some f) : findIn (hd.heap_39 P) (.ref C) x = some (some (.ref f)) ∧ isFn (hd.heap_39 P) (.ref f) = true ∧ keepIn (hd.heap_39 P) (.ref f) = true := by
  unfold meth at h
  split at h
  · rename_i e
    subst e
    repeat' split at h
    all_goals first | cases h; done | (rename_i e; subst e; cases h; first | exact me_193_141 P | exact me_193_155 P | exact me_193_148 P | exact me_193_162 P | exact me_193_169 P | exact me_193_176 P | exact me_193_183 P | exact me_193_190 P | exact me_193_134 P | exact me_193_120 P) | skip
  · split at h
    · rename_i e
      subst e
      repeat' split at h
      all_goals first | cases h; done | (rename_i e; subst e; cases h; first | exact me_101_84 P | exact me_101_63 P | exact me_101_70 P | exact me_101_56 P | exact me_101_42 P | exact me_101_91 P | exact me_101_49 P) | skip
    · cases h
theorem pr_ : ∃ p rest, findIn (hd.heap_39 P) (.ref 238) "path" = some (some (.ref p)) ∧ specialIn (hd.heap_39 P) (.ref p) "__get__" = some (some (.builtin "property.__get__")) ∧ takesIn (hd.heap_39 P) (.ref p) = some true ∧ recIn (hd.heap_39 P) p "property" = some (.ref 219 :: rest) := by
  have h0 : ((recIn (hd.heap_39 P) 220 "property").map fun l => l.head? == some (.ref 219)) = some true := by kernel_rfl
  obtain ⟨l, h1, h2⟩ := Option.map_eq_some_iff.mp h0
  cases l with
  | nil => cases h2
  | cons v r =>
    have hv : v = .ref 219 := by simpa using h2
    subst hv
    exact ⟨220, r, by kernel_rfl, by kernel_rfl, by kernel_rfl, h1⟩
theorem nm_ (C : Addr) (h : C = 101 ∨ C = 238) : ∃ cd, clsIn (hd.heap_39 P) C = some cd ∧ (cd.name = ("List" : Str) ∨ cd.name = ("OutgoingRoute" : Str)) := by
  rcases h with rfl | rfl
  · have h0 : (clsIn (hd.heap_39 P) 101).map (·.name) = some ("List" : Str) := by kernel_rfl
    obtain ⟨cd, h1, h2⟩ := Option.map_eq_some_iff.mp h0
    exact ⟨cd, h1, .inl h2⟩
  · have h0 : (clsIn (hd.heap_39 P) 238).map (·.name) = some ("OutgoingRoute" : Str) := by kernel_rfl
    obtain ⟨cd, h1, h2⟩ := Option.map_eq_some_iff.mp h0
    exact ⟨cd, h1, .inr h2⟩
theorem kok : KOK (hd.heap_39 P) where
  pg := fun C x h => by rcases h with rfl | rfl | rfl; exact pg_101 P x; exact pg_193 P x; exact pg_238 P x
  hd := fun C h => by rcases h with rfl | rfl | rfl; exact hd_101 P; exact hd_193 P; exact hd_238 P
  sa := fun C h => by rcases h with rfl | rfl | rfl; exact sa_101 P; exact sa_193 P; exact sa_238 P
  po := fun C h => by rcases h with rfl | rfl | rfl; exact po_101 P; exact po_193 P; exact po_238 P
  nof := fun C x h hx => by rcases h with rfl | rfl | rfl; (rcases hx with rfl | rfl | rfl | rfl | rfl | rfl | rfl; exact nof_101_0 P; exact nof_101_1 P; exact nof_101_2 P; exact nof_101_3 P; exact nof_101_4 P; exact nof_101_5 P; exact nof_101_6 P); (rcases hx with rfl | rfl | rfl | rfl | rfl | rfl | rfl; exact nof_193_0 P; exact nof_193_1 P; exact nof_193_2 P; exact nof_193_3 P; exact nof_193_4 P; exact nof_193_5 P; exact nof_193_6 P); (rcases hx with rfl | rfl | rfl | rfl | rfl | rfl | rfl; exact nof_238_0 P; exact nof_238_1 P; exact nof_238_2 P; exact nof_238_3 P; exact nof_238_4 P; exact nof_238_5 P; exact nof_238_6 P)
  tk := fun C x h hx => by rcases h with rfl | rfl | rfl; (rcases hx with rfl | rfl | rfl | rfl | rfl | rfl | rfl; exact tk_101_0 P; exact tk_101_1 P; exact tk_101_2 P; exact tk_101_3 P; exact tk_101_4 P; exact tk_101_5 P; exact tk_101_6 P); (rcases hx with rfl | rfl | rfl | rfl | rfl | rfl | rfl; exact tk_193_0 P; exact tk_193_1 P; exact tk_193_2 P; exact tk_193_3 P; exact tk_193_4 P; exact tk_193_5 P; exact tk_193_6 P); (rcases hx with rfl | rfl | rfl | rfl | rfl | rfl | rfl; exact tk_238_0 P; exact tk_238_1 P; exact tk_238_2 P; exact tk_238_3 P; exact tk_238_4 P; exact tk_238_5 P; exact tk_238_6 P)
  me := me_all P
  nm := nm_ P
  pr := pr_ P
theorem kmk : KMk (hd.heap_39 P) T where
  mkc := fun C fI h => by
    rcases h with ⟨rfl, rfl⟩ | ⟨rfl, rfl⟩ | ⟨rfl, rfl⟩
    · exact ⟨by kernel_rfl, by kernel_rfl, by kernel_rfl, by kernel_rfl⟩
    · exact ⟨by kernel_rfl, by kernel_rfl, by kernel_rfl, by kernel_rfl⟩
    · exact ⟨by kernel_rfl, by kernel_rfl, by kernel_rfl, by kernel_rfl⟩
  keep247 := by kernel_rfl
  ga193 := by kernel_rfl
  list193 := ⟨.type "type", by kernel_rfl, by kernel_rfl, by kernel_rfl⟩
  fn := fn_all P
  pos := pos_all P
  b113 := fun F h a b c s X => binds_of h (bind_113k P a b c) X
  b212 := fun F h a b s X => binds_of h (bind_212k P a b) X

end
end Mine
end

section
open PySem PySem.W PyProof.Rows PySem.Calls
set_option maxRecDepth 100000
set_option maxHeartbeats 4000000
namespace Mine

section
variable (P : Params)
def F77 : { F : Fn // fF = some F } := ⟨_, rfl⟩
theorem face_77 : (fdAt (hd.heap_39 P) 77).map (face (hd.heap_39 P)) = fF.map faceF := by kernel_rfl
theorem ok_77 : fF.map (okF false) = some true := by kernel_rfl
theorem pbind_77 (a : Value) : (fdAt (hd.heap_39 P) 77).bind (fun fd => pureOf (bindArgs fd ⟨[a], []⟩)) = fF.map fun F => F.names.zip [a] := by kernel_rfl
theorem pbind_98 (a : Value) : (fdAt (hd.heap_39 P) 98).bind (fun fd => pureOf (bindArgs fd ⟨[a], []⟩)) = (T 98).map fun F => F.names.zip [a] := by kernel_rfl
theorem pbinds_of {K : Frag} {f : Addr} {F : Fn} {o : Option Fn} {args : Args} {us : List Value} {s : Shared} (h : o = some F) (h1 : (fdAt K f).bind (fun fd => pureOf (bindArgs fd args)) = o.map fun F => F.names.zip us) : Binds K s f args (F.names.zip us) := by
  subst h
  intro fd oc od osl hl
  rw [fdAt_of hl] at h1
  exact BindsTo.of_eq (of_pureOf (h1 : pureOf (bindArgs fd args) = some (F.names.zip us)))
theorem hc_98 : (T 98).map (fun F => hasCell F.scope.names) = some false := by kernel_rfl

theorem gk : GK (hd.heap_39 P) T where
  it := ⟨by kernel_rfl, by kernel_rfl⟩
  f77 := ⟨F77.1, _, _, _, _, _, fnOK_of F77.2 (face_77 P) ok_77, rfl, rfl, by kernel_rfl, by kernel_rfl, by decide, by decide, rfl, fun u s => pbinds_of F77.2 (pbind_77 P u)⟩
  gen := ⟨by kernel_rfl, by kernel_rfl, by kernel_rfl⟩
  f98 := fun G h => by
    have h2 := ok_98
    have h3 := hc_98
    have fo := face_of h (face_98 P)
    have hb := fun (u : Value) (s : Shared) => pbinds_of (s := s) h (pbind_98 P u)
    rw [h] at h2 h3
    have h2 := Option.some.inj h2
    have h3 := Option.some.inj h3
    unfold okF at h2
    simp only [Bool.and_eq_true, Bool.not_eq_true', beq_iff_eq, decide_eq_true_eq, List.all_eq_true, Bool.or_eq_true] at h2
    obtain ⟨b1, b2, b3, b4, b5, b6⟩ := h2
    refine ⟨fo, b1, b2, b3, b4, h3, fun self hn => ⟨?_, fun u s => ?_⟩⟩
    · rcases b6 self (by rw [hn]; exact List.mem_singleton.mpr rfl) with z | z
      · exact z
      · exfalso
        have hm := mem_of_lookup z
        exact relabel_cell h3 _ hm rfl
    · have := hb u s
      rw [hn] at this
      exact this
end

theorem glob_cases {x : Str} {v : AV} (h : glob x = some v) : (x = "range" ∧ v = .raw (.type "range")) ∨ (x = "len" ∧ v = .raw (.builtin "len")) ∨ (x = "_law_alike" ∧ v = .raw (.ref 247)) ∨ (x = "CircularListType" ∧ v = .raw (.ref 193)) ∨ (x = "OutgoingRoute" ∧ v = .raw (.ref 238)) ∨ (x = "AttributeError" ∧ v = .raw (.type "AttributeError")) := by
  unfold glob at h
  repeat' split at h
  all_goals first
    | (rename_i e; cases h; simp [e]; done)
    | cases h
theorem gnd {P : Params} {p : Program} {loose : List Str} {mg mb : Str → Option Value} {h : Heap} (X : (hd.heap_39 P).In h) (TR : TopRead p loose mg mb h) : Gnd (hd.heap_39 P) h where
  inK := X
  lim := TR.nolimit
  gl := ⟨mg, mb, TR.g, TR.b, fun x v hx => by
    rcases glob_cases hx with ⟨rfl, rfl⟩ | ⟨rfl, rfl⟩ | ⟨rfl, rfl⟩ | ⟨rfl, rfl⟩ | ⟨rfl, rfl⟩ | ⟨rfl, rfl⟩
    · exact ⟨_, rfl, .inr ⟨mg_none_of X TR.g (by kernel_rfl), (TR.builtins _ (by decide)).trans (by kernel_rfl)⟩⟩
    · exact ⟨_, rfl, .inr ⟨mg_none_of X TR.g (by kernel_rfl), (TR.builtins _ (by decide)).trans (by kernel_rfl)⟩⟩
    · exact ⟨_, rfl, .inl (mg_of X TR.g (by kernel_rfl))⟩
    · exact ⟨_, rfl, .inl (mg_of X TR.g (by kernel_rfl))⟩
    · exact ⟨_, rfl, .inl (mg_of X TR.g (by kernel_rfl))⟩
    · exact ⟨_, rfl, .inr ⟨mg_none_of X TR.g (by kernel_rfl), (TR.builtins _ (by decide)).trans (by kernel_rfl)⟩⟩⟩
end Mine
end

section
open PySem PySem.W PyProof.Rows PySem.Calls
set_option maxRecDepth 100000
set_option maxHeartbeats 4000000
namespace Mine

def st0 (ns : List Int) : St := { H := fun j => if j = 0 then some (.args (ns.map .int)) else none, n := 1, loc := [] }
theorem ints_rel {ρ : Loc} : ∀ {vs : List Value} {ns : List Int}, IntsAre vs ns → VRels ρ (ns.map .int) vs
  | _, _, .nil => trivial
  | _, _, .cons n t h => ⟨⟨t, rfl⟩, ints_rel h⟩

theorem law_sound {prog : Program} {w : World} {s₁ : Shared} {mg mb : Str → Option Value} {p : Program} {loose : List Str} {E : Value → Shared → Prop} (X : (hd.heap_39 w.params).In s₁.heap) (TR : TopRead p loose mg mb s₁.heap) (hg : s₁.gens = #[])
    {l : Addr} {vs : List Value} {ns : List Int} (hL : s₁.heap.IsList l vs.toArray) (hI : IntsAre vs ns) {n : Nat} {st' : St} (hrun : callF T n 301 4 (st0 ns) 252 [.obj 0] = some (.bool true, st')) :
    wpAny (model prog w) callerA (call (.ref 252) [.ref l]) (fun v s' => v = .bool true ∧ s₁.heap.StaysIn s'.heap ∧ s'.os = s₁.os ∧ AllBare s'.gens) E s₁ := by
  have KK := kok w.params
  have KM := kmk w.params
  have GG := gk w.params
  have G := gnd X TR
  refine wpAny_call ?_
  cases n with
  | zero => simp [callF] at hrun
  | succ n =>
  have is : ExsS prog w (hd.heap_39 w.params) T n := (snd (prog := prog) (w := w) KK KM GG n).exs
  simp only [callF] at hrun
  cases hF : T 252 with
  | none => rw [hF] at hrun; cases hrun
  | some F =>
  rw [hF] at hrun
  dsimp only at hrun
  split at hrun
  · rename_i hc
    obtain ⟨hlen, hnd, _, _, _⟩ := hc
    obtain ⟨⟨fl, st₂⟩, hx, hres⟩ := bind_some hrun
    clear hrun
    have OK := KM.fn 252 F hF (by decide)
    obtain ⟨oc, od, osl, fd, hl, hbody, hscope, hclo, hglob, hbi, hcode⟩ := OK.fd
    have q : ∀ ρ : Loc, ρ.a 0 = l → 0 < ρ.n → VRels ρ [AV.obj 0] [.ref l] := fun ρ h1 h2 => ⟨⟨h2, by rw [h1]⟩, trivial⟩
    let ρ₀ : Loc := ⟨1, fun _ => l, fun _ => 0⟩
    have B := KM.pos 252 F hF (by decide) [.ref l] s₁ X (by rw [hlen]; rfl) fd oc od osl hl
    have hrl : recursionLimit = 1000 := rfl
    refine codeAny_call_function (by decide) (X _ _ hl) rfl (by rw [hscope]; exact OK.co) (by rw [hscope]; exact OK.gen) hbody (codeRec_of X hcode) (B _ _ _ _ ?_)
    rw [hscope, hglob, hclo, hbi]
    refine env_soundN (args := [.obj 0]) (st := st0 ns) (ρ := ρ₀) (fun L => { os := s₁.os, base := s₁.heap, fs := [], ex := [], gn := [], L := L }) OK.kind OK.nd OK.nn OK.ks hlen (fun _ => rfl) (fun h₁ L loc' hk hLs hn => ?_) (fun i o e => ?_) (fun _ => Nat.le_refl _) (q ρ₀ rfl Nat.zero_lt_one) (301 + 3) (4 + 20)
      fun env' h₁ tk ρ' E₁ hk₁ hfr hLe hsc S R₂ => ?_
    · have H0 : ∀ i o, (st0 ns).H i = some o → i = 0 ∧ o = .args (ns.map .int) := fun i o e => by
        have e : (if i = 0 then some (AO.args (ns.map .int)) else none) = some o := e
        split at e
        · rename_i h; cases e; exact ⟨h, rfl⟩
        · cases e
      refine ⟨rfl, hk, rfl, fun i o e => ?_, hn, fun p hp => (nomatch hp), fun L' hL' => ?_, by simp [Cx.fas], fun i j oi oj e1 e2 _ => ?_, fun i C F' e => ?_, fun i j C F' C' F'' e => ?_, fun p hp => (nomatch hp), List.nodup_nil, fun p hp => (nomatch hp), List.nodup_nil, ?_⟩
      · obtain ⟨rfl, rfl⟩ := H0 i o e
        exact ⟨Nat.zero_lt_one, .inl ⟨_, rfl⟩, vs, let ⟨oo, x, r⟩ := hL; ⟨oo, hk _ _ x, r⟩, ints_rel hI⟩
      · rw [List.mem_singleton.mp hL']; exact hLs
      · rw [(H0 i oi e1).1, (H0 j oj e2).1]
      · have := (H0 i _ e).2; cases this
      · have := (H0 i _ e).2; cases this
      · show AllBare s₁.gens
        exact .of_eq hg
    · have e : (if i = 0 then some (AO.args (ns.map .int)) else none) = some o := e
      obtain ⟨oo, x, _⟩ := hL
      exact Heap.lt_size x
    refine ⟨G.lim.keeps hk₁, codeAny_func ?_⟩
    have A' : ARel { os := s₁.os, base := s₁.heap, fs := [], ex := [], gn := [], L := env'.locals } (301 + 3) (4 + 20) (callerA.deeper env') :=
      ⟨rfl, (by show 1 + claimMargin + 1 ≤ 301 + 3; decide), (by show 4 + 3 ≤ 4 + 20; decide), [env'], rfl, fun e he => by
        rw [List.mem_singleton.mp he]
        exact ⟨by rw [hsc, OK.kind]; decide, env'.locals, hfr, List.mem_singleton.mpr rfl⟩⟩
    refine is (sc := { scope := F.scope, cells := (layCells (F.names.zip [.obj 0]) F.scope.names (st0 ns)).2, dep := 301 + 3, un := 4 + 20 }) ⟨⟨[], rfl⟩, hfr⟩ ⟨G, A', (by show 301 + 3 ≤ 900; decide), (by show 4 + 20 ≤ 9400; decide)⟩ S R₂ hx _ _ fun ρ'' s'' u e'' R'' fr => ?_
    cases fr with
    | next => cases hres
    | brk => cases hres
    | ret r =>
      cases hres
      cases r
      exact ⟨rfl, R''.keep, R''.os, R''.bare⟩
  · cases hrun

theorem law_at {P : Params} {h : Heap} {mg : Str → Option Value} {fa : Addr} (X : (hd.heap_39 P).In h) (G : h.Ns mainGlobals mg) (hmg : mg "law" = some (.ref fa)) : fa = 252 := by
  have := mg_of X G (n := "law") (v := .ref 252) (by kernel_rfl)
  rw [this] at hmg
  cases hmg
  rfl

/-- the run of the abstract law -/
def Runs : Prop := ∀ ns : List Int, ns.length ≤ 63 → ∃ n st', callF T n 301 4 (st0 ns) 252 [.obj 0] = some (.bool true, st')

theorem holds_of_runs (hr : Runs) : PySem.Challenge.rw_fd0044_01.Holds := hd (by
  intro w s₀ s₁ mg mb G Y fa o pm cd doc dV kV ho hd hcd hD hmg hg args vals as hpre hlay hrd hwl hlo
  have KX := kIn_of Y
  refine Ground.open G ?_
  intro T B D TE TW
  try (refine guard_noD D (by decide +kernel) ?_; clear D)
  clear hd
  wrow_args hpre hlay hrd hwl hlo
  rename_i ns _ _ _ _ _ _ _ l vs _ hL _ _ _ hI _ hc _
  have hfa := law_at KX (Top.g T) hmg
  subst hfa
  obtain ⟨n, st', hrun⟩ := hr ns (by omega)
  refine wpAny_mono (law_sound KX (topRead_of T) hg hL hI hrun) (fun v s' z => ?_) fun _ _ z => z
  obtain ⟨rfl, z2, z3, z4⟩ := z
  exact ⟨.inl ⟨.bool true, .bool true, [], rfl, fun cls => by with_unfolding_all rfl, .bool true, by with_unfolding_all rfl, fun _ => ⟨List.nodup_nil, fun a h => (nomatch h)⟩⟩, .of_keep z2, z3, z4⟩)
end Mine
end

section
open PySem PySem.W
set_option maxRecDepth 100000
namespace Mine

/-- from some fuel on -/
def Y {α : Type} (f : Nat → Option α) (r : α) : Prop := ∃ N, ∀ n, N ≤ n → f n = some r
theorem Y.up {α : Type} {f : Nat → Option α} {r : α} (h : ∃ N, ∀ m, N ≤ m → f (m + 1) = some r) : Y f r := by
  obtain ⟨N, h⟩ := h
  refine ⟨N + 1, fun n hn => ?_⟩
  obtain ⟨m, rfl⟩ : ∃ m, n = m + 1 := ⟨n - 1, by omega⟩
  exact h m (by omega)
theorem Y.now {α : Type} {f : Nat → Option α} {r : α} (h : ∀ m, f (m + 1) = some r) : Y f r := .up ⟨0, fun m _ => h m⟩
theorem Y.of1 {α β : Type} {f : Nat → Option α} {g : Nat → Option β} {r : α} {a : β} (x : Y g a) (h : ∀ m, g m = some a → f (m + 1) = some r) : Y f r := by
  obtain ⟨N, x⟩ := x
  exact .up ⟨N, fun m hm => h m (x m hm)⟩
theorem Y.of2 {α β γ : Type} {f : Nat → Option α} {g : Nat → Option β} {k : Nat → Option γ} {r : α} {a : β} {b : γ} (x : Y g a) (y : Y k b) (h : ∀ m, g m = some a → k m = some b → f (m + 1) = some r) : Y f r := by
  obtain ⟨N, x⟩ := x
  obtain ⟨M, y⟩ := y
  exact .up ⟨max N M, fun m hm => h m (x m (by omega)) (y m (by omega))⟩
theorem Y.of3 {α β γ δ : Type} {f : Nat → Option α} {g : Nat → Option β} {k : Nat → Option γ} {l : Nat → Option δ} {r : α} {a : β} {b : γ} {c : δ} (x : Y g a) (y : Y k b) (z : Y l c) (h : ∀ m, g m = some a → k m = some b → l m = some c → f (m + 1) = some r) : Y f r := by
  obtain ⟨N, x⟩ := x
  obtain ⟨M, y⟩ := y
  obtain ⟨L, z⟩ := z
  exact .up ⟨max N (max M L), fun m hm => h m (x m (by omega)) (y m (by omega)) (z m (by omega))⟩
theorem Y.here1 {α β : Type} {f : Nat → Option α} {g : Nat → Option β} {r : α} {a : β} (x : Y g a) (h : ∀ m, g m = some a → f m = some r) : Y f r := by
  obtain ⟨N, x⟩ := x
  exact ⟨N, fun m hm => h m (x m hm)⟩
theorem Y.here2 {α β γ : Type} {f : Nat → Option α} {g : Nat → Option β} {k : Nat → Option γ} {r : α} {a : β} {b : γ} (x : Y g a) (y : Y k b) (h : ∀ m, g m = some a → k m = some b → f m = some r) : Y f r := by
  obtain ⟨N, x⟩ := x
  obtain ⟨M, y⟩ := y
  exact ⟨max N M, fun m hm => h m (x m (by omega)) (y m (by omega))⟩

/-- what is run ends so -/
def W2 {α : Type} (f : Nat → Option (α × St)) (Q : α → St → Prop) : Prop := ∃ a st', Y f (a, st') ∧ Q a st'
def We (sc : Sc) (st : St) (e : Expr) (Q : AV → St → Prop) : Prop := W2 (fun n => ev T n sc st e) Q
def Ws (sc : Sc) (st : St) (es : List Expr) (Q : List AV → St → Prop) : Prop := W2 (fun n => evs T n sc st es) Q
def Wt (sc : Sc) (st : St) (e : Expr) (Q : Bool → St → Prop) : Prop := W2 (fun n => tst T n sc st e) Q
def Wx (sc : Sc) (st : St) (ss : List Stmt) (Q : AFl → St → Prop) : Prop := W2 (fun n => exs T n sc st ss) Q
def W1 (sc : Sc) (st : St) (s : Stmt) (Q : AFl → St → Prop) : Prop := W2 (fun n => ex T n sc st s) Q
def Wc (dep un : Nat) (st : St) (f : Addr) (as : List AV) (Q : AV → St → Prop) : Prop := W2 (fun n => callF T n dep un st f as) Q
theorem W2.mono {α : Type} {f : Nat → Option (α × St)} {Q Q' : α → St → Prop} (h : W2 f Q) (i : ∀ a st, Q a st → Q' a st) : W2 f Q' := by
  obtain ⟨a, st', y, q⟩ := h
  exact ⟨a, st', y, i _ _ q⟩

variable {sc : Sc} {st : St} {Q : AV → St → Prop}

/- expressions -/
theorem we_int {i k p} (q : Q (.int i) st) : We sc st (.Constant (.int i) k p) Q := ⟨_, _, .now fun m => by simp only [ev], q⟩
theorem we_none {k p} (q : Q .none st) : We sc st (.Constant .none k p) Q := ⟨_, _, .now fun m => by simp only [ev], q⟩
theorem we_bool {b k p} (q : Q (.bool b) st) : We sc st (.Constant (.bool b) k p) Q := ⟨_, _, .now fun m => by simp only [ev], q⟩
theorem we_str {b k p} (q : Q (.str b) st) : We sc st (.Constant (.str b) k p) Q := ⟨_, _, .now fun m => by simp only [ev], q⟩
theorem we_name {x p v} (h : rd sc st x = some v) (q : Q v st) : We sc st (.Name x p) Q := ⟨_, _, .now fun m => by simp only [ev, h, Option.map_some], q⟩
theorem we_bin {l op r p} (h : We sc st l fun a st => We sc st r fun b st => ∃ v st', bin st op a b = some (v, st') ∧ Q v st') : We sc st (.BinOp l op r p) Q := by
  obtain ⟨a, _, x, b, _, y, v, st', h, q⟩ := h
  exact ⟨_, _, .of2 x y fun m h1 h2 => by simp only [ev, h1, Option.bind_some, h2, h], q⟩
theorem we_neg {x p} (h : We sc st x fun a st => ∃ i, a = .int i ∧ Q (.int (-i)) st) : We sc st (.UnaryOp .USub x p) Q := by
  obtain ⟨a, _, x, i, rfl, q⟩ := h
  exact ⟨_, _, .of1 x fun m h1 => by simp only [ev, h1, Option.bind_some], q⟩
theorem we_not {x p} (h : We sc st x fun a st => ∃ b, truth a = some b ∧ Q (.bool (!b)) st) : We sc st (.UnaryOp .Not x p) Q := by
  obtain ⟨a, _, x, i, h, q⟩ := h
  exact ⟨_, _, .of1 x fun m h1 => by simp only [ev, h1, Option.bind_some, h, Option.map_some], q⟩
theorem we_ifx {t b o p} (h : Wt sc st t fun c st => if c then We sc st b Q else We sc st o Q) : We sc st (.IfExp t b o p) Q := by
  obtain ⟨c, st', x, h⟩ := h
  cases c
  · obtain ⟨v, st2, y, q⟩ := h
    exact ⟨_, _, .of2 x y fun m h1 h2 => by simp only [ev, h1, Option.bind_some, if_neg Bool.false_ne_true, h2], q⟩
  · obtain ⟨v, st2, y, q⟩ := h
    exact ⟨_, _, .of2 x y fun m h1 h2 => by simp only [ev, h1, Option.bind_some, if_pos, h2], q⟩
theorem we_cmp {l op r p} (hm : behindInMarks op r = false) (h : We sc st l fun a st => We sc st r fun b st => ∃ v, cmp st op a b = some v ∧ Q (.bool v) st) : We sc st (.Compare l [op] [r] p) Q := by
  obtain ⟨a, _, x, b, _, y, v, h, q⟩ := h
  exact ⟨_, _, .of2 x y fun m h1 h2 => by simp only [ev, hm, h1, Option.bind_some, h2, h, Option.map_some, if_neg Bool.false_ne_true], q⟩
theorem we_list {es p} (h : Ws sc st es fun vs st => vs.length < 1000 ∧ Q (.obj st.n) (st.add (.list vs))) : We sc st (.List es p) Q := by
  obtain ⟨vs, _, x, h, q⟩ := h
  exact ⟨_, _, .of1 x fun m h1 => by simp only [ev, h1, Option.bind_some, if_pos h], q⟩
theorem ws_nil {Q : List AV → St → Prop} (q : Q [] st) : Ws sc st [] Q := ⟨_, _, .now fun m => by simp only [evs], q⟩
theorem ws_cons {Q : List AV → St → Prop} {e r} (h : We sc st e fun v st => Ws sc st r fun vs st => Q (v :: vs) st) : Ws sc st (e :: r) Q := by
  obtain ⟨a, _, x, b, _, y, q⟩ := h
  exact ⟨_, _, .of2 x y fun m h1 h2 => by simp only [evs, h1, Option.bind_some, h2], q⟩
/-- an index that is no slice -/
def noSlice : Expr → Bool
  | .Slice .. => false
  | _ => true
theorem we_sub {o s p} (hs : noSlice s = true) (h : We sc st o fun a st => We sc st s fun b st => ∃ i k xs v, a = .obj i ∧ b = .int k ∧ st.H i = some (.list xs) ∧ (-1000 < k ∧ k < 1000 ∧ xs.length < 1000) ∧ idx xs k = some v ∧ Q v st) :
    We sc st (.Subscript o s p) Q := by
  obtain ⟨a, st1, x, b, st2, y, i, k, xs, v, rfl, rfl, hx, hk, h, q⟩ := h
  refine ⟨_, _, .of2 x y fun m h1 h2 => ?_, q⟩
  have e : ev T (m + 1) sc st (.Subscript o s p) = (ev T m sc st o).bind fun (a, st) => (ev T m sc st s).bind fun (b, st) => (match a, b with
            | .obj i, .int k => (match st.H i with
                | some (.list xs) => if -1000 < k ∧ k < 1000 ∧ xs.length < 1000 then (idx xs k).map fun v => (v, st) else none
                | _ => none)
            | _, _ => none) := by
    cases s <;> first | rfl | cases hs
  rw [e, h1, Option.bind_some]
  simp only [h2, Option.bind_some, hx, if_pos hk, h, Option.map_some]
theorem we_upto {o u p q} (h : We sc st o fun a st => We sc st u fun b st => ∃ i k xs, a = .obj i ∧ b = .int k ∧ sliceable (st.H i) = some xs ∧ (0 ≤ k ∧ k < 1000 ∧ xs.length < 1000) ∧ Q (.obj st.n) (st.add (.list (xs.take k.toNat)))) :
    We sc st (.Subscript o (.Slice none (some u) none q) p) Q := by
  obtain ⟨a, st1, x, b, st2, y, i, k, xs, rfl, rfl, hx, hk, q⟩ := h
  exact ⟨_, _, .of2 x y fun m h1 h2 => by simp only [ev, h1, Option.bind_some, h2, hx, if_pos hk], q⟩
theorem we_from {o u p q} (h : We sc st o fun a st => We sc st u fun b st => ∃ i k xs, a = .obj i ∧ b = .int k ∧ sliceable (st.H i) = some xs ∧ (0 ≤ k ∧ k < 1000 ∧ xs.length < 1000) ∧ Q (.obj st.n) (st.add (.list (xs.drop k.toNat)))) :
    We sc st (.Subscript o (.Slice (some u) none none q) p) Q := by
  obtain ⟨a, st1, x, b, st2, y, i, k, xs, rfl, rfl, hx, hk, q⟩ := h
  exact ⟨_, _, .of2 x y fun m h1 h2 => by simp only [ev, h1, Option.bind_some, h2, hx, if_pos hk], q⟩
theorem we_path {o p} (hc : isCall o = false) (h : We sc st o fun a st => ∃ i F, a = .obj i ∧ st.H i = some (.inst 238 F) ∧ Wc sc.dep sc.un st 219 [.obj i] fun v st => tame v = true ∧ Q v st) : We sc st (.Attribute o "path" p) Q := by
  obtain ⟨a, st1, x, i, F, rfl, hi, v, st2, y, ht, q⟩ := h
  refine ⟨_, _, .of2 x y fun m h1 h2 => ?_, q⟩
  simp only [ev, hc, if_neg Bool.false_ne_true, h1, Option.bind_some, hi]
  rw [if_pos ⟨by trivial, by trivial⟩, h2]
  simp only [Option.bind_some, if_pos ht]
theorem we_attr {o x p} (hc : isCall o = false) (h : We sc st o fun a st => ∃ i C F v, a = .obj i ∧ st.H i = some (.inst C F) ∧ ¬(C = 238 ∧ x = ("path" : Str)) ∧ (C = 101 ∧ (x = ("head" : Str) ∨ x = ("list_type" : Str)) ∨ C = 238 ∧ x = ("_path" : Str)) ∧ F.lookup x = some v ∧ tame v = true ∧ Q v st) :
    We sc st (.Attribute o x p) Q := by
  obtain ⟨a, st1, y, i, C, F, v, rfl, hi, ha, hf, h, ht, q⟩ := h
  refine ⟨_, _, .of1 y fun m h1 => ?_, q⟩
  simp only [ev, hc, if_neg Bool.false_ne_true, h1, Option.bind_some, hi]
  rw [if_neg ha, if_pos hf, h, Option.bind_some, if_pos ht]
/-- the form of a method's call -/
def mform (o : Expr) (as : List Expr) (ap p : Pos) : Bool := !(isCall o) && decide (as.length < 20) && decide (ap.endLine = p.line)
theorem mform_of {o as ap p} (h : mform o as ap p = true) : ¬(isCall o = true ∨ as.length ≥ 20 ∨ ap.endLine ≠ p.line) := by
  unfold mform at h
  simp only [Bool.and_eq_true, Bool.not_eq_true', decide_eq_true_eq] at h
  obtain ⟨⟨a, b⟩, c⟩ := h
  rintro (d | d | d)
  · rw [a] at d; cases d
  · omega
  · exact d c
theorem we_meth {o x ap as p} (hq : mform o as ap p = true) (hn : x ≠ ("List" : Str)) (h : We sc st o fun a st => ∃ i C F f, a = .obj i ∧ st.H i = some (.inst C F) ∧ meth C x = some f ∧ F.lookup x = none ∧
    Ws sc st as fun vs st => Wc sc.dep sc.un st f (.obj i :: vs) Q) : We sc st (.Call (.Attribute o x ap) as [] p) Q := by
  obtain ⟨a, st1, h0, i, C, F, f, rfl, hi, hm, hF, vs, st2, h1, v, st3, h2, q⟩ := h
  refine ⟨_, _, .of3 h0 h1 h2 fun m e0 e1 e2 => ?_, q⟩
  have hx : (x == ("List" : Str)) = false := by simpa using hn
  have e : ev T (m + 1) sc st (.Call (.Attribute o x ap) as [] p) = (ev T m sc st o).bind fun (a, st) => (match a with
            | .obj i => (match st.H i with
                | some (.inst C F) => (match meth C x with
                    | some f => if (F.lookup x).isSome then none else (evs T m sc st as).bind fun (vs, st) => callF T m sc.dep sc.un st f (a :: vs)
                    | none => none)
                | some (.list xs) => if x = "append" then (evs T m sc st as).bind fun (vs, st) => (match vs, st.H i with
                    | [v], some (.list xs) => if xs.length < 1000 then some (.none, { st with H := upd st.H i (.list (xs ++ [v])) }) else none
                    | _, _ => none) else none
                | _ => none)
            | _ => none) := by
    simp only [ev]
    rw [if_neg (mform_of hq), hx]
    cases o <;> rfl
  rw [e, e0, Option.bind_some]
  simp only [hi, hm]
  rw [hF]
  simp only [Option.isSome_none, if_neg Bool.false_ne_true, e1, Option.bind_some]
  exact e2
theorem we_append {o ap as p} (hq : mform o as ap p = true) (h : We sc st o fun a st => ∃ i ys, a = .obj i ∧ st.H i = some (.list ys) ∧ Ws sc st as fun vs st => ∃ v xs, vs = [v] ∧ st.H i = some (.list xs) ∧ xs.length < 1000 ∧ Q .none { st with H := upd st.H i (.list (xs ++ [v])) }) :
    We sc st (.Call (.Attribute o "append" ap) as [] p) Q := by
  obtain ⟨a, st1, h0, i, ys, rfl, hi, vs, st2, h1, v, xs, rfl, hx, hl, q⟩ := h
  refine ⟨_, _, .of2 h0 h1 fun m e0 e1 => ?_, q⟩
  have e : ev T (m + 1) sc st (.Call (.Attribute o "append" ap) as [] p) = (ev T m sc st o).bind fun (a, st) => (match a with
            | .obj i => (match st.H i with
                | some (.inst C F) => (match meth C "append" with
                    | some f => if (F.lookup ("append" : Str)).isSome then none else (evs T m sc st as).bind fun (vs, st) => callF T m sc.dep sc.un st f (a :: vs)
                    | none => none)
                | some (.list xs) => if ("append" : Str) = "append" then (evs T m sc st as).bind fun (vs, st) => (match vs, st.H i with
                    | [v], some (.list xs) => if xs.length < 1000 then some (.none, { st with H := upd st.H i (.list (xs ++ [v])) }) else none
                    | _, _ => none) else none
                | _ => none)
            | _ => none) := by
    simp only [ev]
    rw [if_neg (mform_of hq), show (("append" : Str) == ("List" : Str)) = false by decide]
    cases o <;> rfl
  rw [e, e0, Option.bind_some]
  simp only [hi, if_true, e1, Option.bind_some, hx, if_pos hl]
theorem we_mk {c cp ap as p} (hq : mform (.Name c cp) as ap p = true) (hc : rd sc st c = some (.raw (.ref 193))) (h : Ws sc st as fun vs st => ∃ a, vs = [a] ∧ Wc sc.dep sc.un (st.add (.inst 101 [])) 35 [.obj st.n, a] fun r st' => r = .none ∧ Q (.obj st.n) st') :
    We sc st (.Call (.Attribute (.Name c cp) "List" ap) as [] p) Q := by
  obtain ⟨vs, st1, h1, a, rfl, r, st2, h2, rfl, q⟩ := h
  refine ⟨_, _, .of2 h1 h2 fun m e1 e2 => ?_, q⟩
  simp only [ev]
  rw [if_neg (mform_of hq), show (("List" : Str) == ("List" : Str)) = true by decide]
  simp only [hc, Option.bind_some, e1, e2, madeRes]
theorem we_range {f fp as p} (hf : rd sc st f = some (.raw (.type "range"))) (h : Ws sc st as fun vs st => ∃ k, vs = [.int k] ∧ 0 ≤ k ∧ k < 1000 ∧ Q (.obj st.n) (st.add (.range k))) : We sc st (.Call (.Name f fp) as [] p) Q := by
  obtain ⟨vs, st1, h1, k, rfl, k1, k2, q⟩ := h
  refine ⟨_, _, .of1 h1 fun m e1 => ?_, q⟩
  simp only [ev, hf, Option.bind_some, and_self, if_true, e1, k1, k2]
theorem we_len {f fp as p} (hf : rd sc st f = some (.raw (.builtin "len"))) (h : Ws sc st as fun vs st => ∃ i xs, vs = [.obj i] ∧ st.H i = some (.list xs) ∧ xs.length < 1000 ∧ Q (.int xs.length) st) : We sc st (.Call (.Name f fp) as [] p) Q := by
  obtain ⟨vs, st1, h1, i, xs, rfl, hi, hl, q⟩ := h
  refine ⟨_, _, .of1 h1 fun m e1 => ?_, q⟩
  simp only [ev, hf, Option.bind_some, and_self, if_true, e1, hi, hl]
theorem we_alike {f fp as p} (hf : rd sc st f = some (.raw (.ref 247))) (h : Ws sc st as fun vs st => Wc sc.dep sc.un st 247 vs Q) : We sc st (.Call (.Name f fp) as [] p) Q := by
  obtain ⟨vs, st1, h1, v, st2, h2, q⟩ := h
  refine ⟨_, _, .of2 h1 h2 fun m e1 e2 => ?_, q⟩
  simp only [ev, hf, Option.bind_some, and_self, if_true, e1, e2]
theorem we_route {f fp as p} (hf : rd sc st f = some (.raw (.ref 238))) (h : Ws sc st as fun vs st => ∃ a, vs = [a] ∧ Wc sc.dep sc.un (st.add (.inst 238 [])) 212 [.obj st.n, a, .bool false] fun r st' => r = .none ∧ Q (.obj st.n) st') : We sc st (.Call (.Name f fp) as [] p) Q := by
  obtain ⟨vs, st1, h1, a, rfl, r, st2, h2, rfl, q⟩ := h
  refine ⟨_, _, .of2 h1 h2 fun m e1 e2 => ?_, q⟩
  simp only [ev, hf, Option.bind_some]
  rw [if_neg (by rintro ⟨h, _⟩; exact absurd h (by decide)), if_pos ⟨by trivial, by trivial⟩]
  simp only [e1, Option.bind_some, e2, madeRes]
theorem we_kind {f fp p v1 v2 p1 p2} (hf : rd sc st f = some (.raw (.ref 193))) (h : We sc st v1 fun a1 st => We sc st v2 fun a2 st => Wc sc.dep sc.un (st.add (.inst 193 [])) 113 [.obj st.n, a1, a2] fun r st' => r = .none ∧ Q (.obj st.n) st') :
    We sc st (.Call (.Name f fp) [] [⟨some "next_attr_name", v1, p1⟩, ⟨some "prev_attr_name", v2, p2⟩] p) Q := by
  obtain ⟨a1, st1, h1, a2, st2, h2, r, st3, h3, rfl, q⟩ := h
  refine ⟨_, _, .of3 h1 h2 h3 fun m e1 e2 e3 => ?_, q⟩
  simp only [ev, hf, Option.bind_some]
  rw [if_neg (by rintro ⟨h, _⟩; exact absurd h (by decide)), if_neg (by rintro ⟨h, _⟩; exact absurd h (by decide)), if_pos ⟨by trivial, by trivial⟩]
  simp only [and_self, if_true, e1, Option.bind_some, e2, e3, madeRes]

/- tests -/
section
variable {Q : Bool → St → Prop}
theorem wt_not {x p} (h : Wt sc st x fun b st => Q (!b) st) : Wt sc st (.UnaryOp .Not x p) Q := by
  obtain ⟨b, _, x, q⟩ := h
  exact ⟨_, _, .of1 x fun m h1 => by simp only [tst, h1, Option.map_some], q⟩
theorem wt_or {a b p} (h : Wt sc st a fun x st => if x then Q true st else Wt sc st b Q) : Wt sc st (.BoolOp .Or [a, b] p) Q := by
  obtain ⟨x, st1, y, h⟩ := h
  cases x
  · obtain ⟨z, st2, w, q⟩ := h
    exact ⟨_, _, .of2 y w fun m h1 h2 => by simp only [tst, h1, Option.bind_some, if_neg Bool.false_ne_true, h2], q⟩
  · exact ⟨_, _, .of1 y fun m h1 => by simp only [tst, h1, Option.bind_some, if_true], h⟩
theorem wt_and {a b p} (h : Wt sc st a fun x st => if x then Wt sc st b Q else Q false st) : Wt sc st (.BoolOp .And [a, b] p) Q := by
  obtain ⟨x, st1, y, h⟩ := h
  cases x
  · exact ⟨_, _, .of1 y fun m h1 => by simp only [tst, h1, Option.bind_some, if_neg Bool.false_ne_true], h⟩
  · obtain ⟨z, st2, w, q⟩ := h
    exact ⟨_, _, .of2 y w fun m h1 h2 => by simp only [tst, h1, Option.bind_some, if_true, h2], q⟩
theorem wt_cmp {l op r p} (hm : behindInMarks op r = false) (h : We sc st l fun a st => We sc st r fun b st => ∃ v, cmp st op a b = some v ∧ Q v st) : Wt sc st (.Compare l [op] [r] p) Q := by
  obtain ⟨a, _, x, b, _, y, v, h, q⟩ := h
  exact ⟨_, _, .of2 x y fun m h1 h2 => by simp only [tst, hm, h1, Option.bind_some, h2, h, Option.map_some, if_neg Bool.false_ne_true], q⟩
def plainTest : Expr → Bool
  | .Name .. | .Attribute .. | .Call .. | .BinOp .. => true
  | _ => false
theorem wt_val {e} (he : plainTest e = true) (h : We sc st e fun a st => ∃ b, truth a = some b ∧ Q b st) : Wt sc st e Q := by
  obtain ⟨a, _, x, b, h, q⟩ := h
  refine ⟨_, _, .of1 x fun m h1 => ?_, q⟩
  cases e <;> first | (cases he; done) | (simp only [tst, h1, Option.bind_some, h, Option.map_some])
end

/- statements -/
section
variable {Q : AFl → St → Prop} {r : List Stmt}
theorem wx_nil (q : Q .next st) : Wx sc st [] Q := ⟨_, _, .now fun m => by simp only [exs], q⟩
theorem wx_one {s} (h : W1 sc st s fun fl st => match fl with | .next => Wx sc st r Q | fl => Q fl st) : Wx sc st (s :: r) Q := by
  obtain ⟨fl, st1, x, h⟩ := h
  cases fl
  · obtain ⟨f, st2, y, q⟩ := h
    exact ⟨_, _, .of2 x y fun m h1 h2 => by simp only [exs, h1, Option.bind_some, h2], q⟩
  · exact ⟨_, _, .of1 x fun m h1 => by simp only [exs, h1, Option.bind_some], h⟩
  · exact ⟨_, _, .of1 x fun m h1 => by simp only [exs, h1, Option.bind_some], h⟩
theorem w1_pass {p} (q : Q .next st) : W1 sc st (.Pass p) Q := ⟨_, _, .now fun m => by simp only [ex], q⟩
theorem w1_break {p} (q : Q .brk st) : W1 sc st (.Break p) Q := ⟨_, _, .now fun m => by simp only [ex], q⟩
theorem w1_ret0 {p} (q : Q (.ret .none) st) : W1 sc st (.Return none p) Q := ⟨_, _, .now fun m => by simp only [ex], q⟩
theorem w1_ret {e p} (h : We sc st e fun v st => Q (.ret v) st) : W1 sc st (.Return (some e) p) Q := by
  obtain ⟨a, _, x, q⟩ := h
  exact ⟨_, _, .of1 x fun m h1 => by simp only [ex, h1, Option.map_some], q⟩
theorem w1_expr {f as k q p} (h : We sc st (.Call f as k q) fun v st => v = .none ∧ Q .next st) : W1 sc st (.Expr (.Call f as k q) p) Q := by
  obtain ⟨a, _, x, rfl, q⟩ := h
  exact ⟨_, _, .of1 x fun m h1 => by simp only [ex, h1, Option.bind_some], q⟩
theorem w1_assert {t p} (h : Wt sc st t fun b st => b = true ∧ Q .next st) : W1 sc st (.Assert t none p) Q := by
  obtain ⟨a, _, x, rfl, q⟩ := h
  exact ⟨_, _, .of1 x fun m h1 => by simp only [ex, h1, Option.bind_some, if_true], q⟩
theorem w1_if {t b o p} (h : Wt sc st t fun c st => if c then Wx sc st b Q else Wx sc st o Q) : W1 sc st (.If t b o p) Q := by
  obtain ⟨c, st1, x, h⟩ := h
  cases c
  · obtain ⟨f, st2, y, q⟩ := h
    exact ⟨_, _, .of2 x y fun m h1 h2 => by simp only [ex, h1, Option.bind_some, if_neg Bool.false_ne_true, h2], q⟩
  · obtain ⟨f, st2, y, q⟩ := h
    exact ⟨_, _, .of2 x y fun m h1 h2 => by simp only [ex, h1, Option.bind_some, if_true, h2], q⟩
theorem w1_set {x xp v p} (h : We sc st v fun a st => ∃ st', wr sc st x a = some st' ∧ Q .next st') : W1 sc st (.Assign [.Name x xp] v p) Q := by
  obtain ⟨a, _, y, st', h, q⟩ := h
  exact ⟨_, _, .of1 y fun m h1 => by simp only [ex, h1, Option.bind_some, h, Option.map_some], q⟩
def fieldName (x : Str) : Bool := decide (x = "next_on_list" ∨ x = "prev_on_list" ∨ x = "list_type" ∨ x = "head" ∨ x = "sink" ∨ x = "_path" ∨ x = "_for_route_refresh")
theorem w1_fld {o op x xp v p} (h : We sc st v fun a st => ∃ i C F, rd sc st o = some (.obj i) ∧ st.H i = some (.inst C F) ∧ (C = 101 ∨ C = 238) ∧ fieldName x = true ∧ F.length < 100 ∧ Q .next { st with H := upd st.H i (.inst C (setA x a F)) }) :
    W1 sc st (.Assign [.Attribute (.Name o op) x xp] v p) Q := by
  obtain ⟨a, _, y, i, C, F, ho, hi, hC, hx, hl, q⟩ := h
  refine ⟨_, _, .of1 y fun m h1 => ?_, q⟩
  simp only [ex, h1, Option.bind_some, ho, hi]
  rw [if_pos ⟨hC, of_decide_eq_true hx, hl⟩]
theorem w1_item {o op i ip q v p} (h : We sc st v fun a st => ∃ j k xs, rd sc st o = some (.obj j) ∧ rd sc st i = some (.int k) ∧ st.H j = some (.list xs) ∧ 0 ≤ k ∧ k < xs.length ∧ xs.length < 1000 ∧ Q .next { st with H := upd st.H j (.list (xs.set k.toNat a)) }) :
    W1 sc st (.Assign [.Subscript (.Name o op) (.Name i ip) q] v p) Q := by
  obtain ⟨a, _, y, j, k, xs, ho, hi, hj, h0, hk, hl, q⟩ := h
  refine ⟨_, _, .of1 y fun m h1 => ?_, q⟩
  simp only [ex, h1, Option.bind_some, ho, hi, hj]
  rw [if_pos ⟨h0, hk, hl⟩]
/-- the stores of a tuple -/
def tupB (scope : Scope) (ts vs : List Expr) (k k2 : Nat) (tp vp : Pos) (xs : List Str) : Bool :=
  match namesOf ts, W.pureOf (swappedStores [.Tuple ts k tp] (.Tuple vs k2 vp) (scEnv scope)) with
  | some ys, some sw => decide (ys = xs ∧ xs.Nodup ∧ xs.length = vs.length ∧ xs.length < 10 ∧ (sw = none ∨ sw = some xs ∧ (xs.all fun x => decide (scope.names.lookup x = some .local)) = true))
  | _, _ => false
theorem w1_tup {ts vs k k2 tp vp p} (xs : List Str) (hb : tupB sc.scope ts vs k k2 tp vp xs = true) (h : Ws sc st vs fun as st => ∃ st', wrs sc st (xs.zip as) = some st' ∧ Q .next st') : W1 sc st (.Assign [.Tuple ts k tp] (.Tuple vs k2 vp) p) Q := by
  obtain ⟨as, st1, y, st', hw, q⟩ := h
  refine ⟨_, _, .of1 y fun m h1 => ?_, q⟩
  unfold tupB at hb
  split at hb
  · rename_i ys sw e1 e2
    obtain ⟨rfl, b, c, d, e⟩ := of_decide_eq_true hb
    simp only [ex, e1, e2, Option.bind_some, h1, hw, Option.map_some]
    rw [if_pos ⟨b, c, d, e⟩]
  · cases hb
theorem w1_for {x xp it b p} (h : We sc st it fun src st => W2 (fun n => loop T n sc (fun st v => (wr sc st x v).bind fun st => exs T n sc st b) src st) Q) : W1 sc st (.For (.Name x xp) it b [] p) Q := by
  obtain ⟨a, st1, y, fl, st2, z, q⟩ := h
  exact ⟨_, _, .of2 y z fun m h1 h2 => by simp only [ex, h1, Option.bind_some]; exact h2, q⟩
theorem w1_try {x xp a ap rp y yp kp kc rp' hp tp} (ha : a = ("next_on_list" : Str) ∨ a = ("prev_on_list" : Str)) (hy : rd sc st y = some (.raw (.type "AttributeError")))
    (h : ∃ i C F, rd sc st x = some (.obj i) ∧ st.H i = some (.inst C F) ∧ (C = 101 ∨ C = 238) ∧ (∀ u, F.lookup a = some u → tame u = true) ∧ Q (.ret ((F.lookup a).getD .none)) st) :
    W1 sc st (.Try [.Return (some (.Attribute (.Name x xp) a ap)) rp] [.ExceptHandler (some (.Name y yp)) none [.Return (some (.Constant .none kc kp)) rp'] hp] [] [] tp) Q := by
  obtain ⟨i, C, F, hx, hi, hC, ht, q⟩ := h
  refine ⟨_, _, .now fun m => ?_, q⟩
  simp only [ex]
  rw [if_pos ha]
  simp only [hy, hx, if_true, Option.bind_some, hi, if_pos hC]
  cases hl : F.lookup a with
  | none => rfl
  | some u => simp only [ht u hl, if_true, Option.getD_some]
theorem w1_aug {x xp v p} (h : ∃ i, rd sc st x = some (.int i) ∧ We sc st v fun b st => ∃ j st', b = .int j ∧ wr sc st x (.int (i + j)) = some st' ∧ Q .next st') : W1 sc st (.AugAssign (.Name x xp) .Add v p) Q := by
  obtain ⟨i, hx, b, st1, y, j, st', rfl, h, q⟩ := h
  exact ⟨_, _, .of1 y fun m h1 => by simp only [ex, hx, h1, Option.bind_some, h, Option.map_some], q⟩
end
end Mine
end

section
open PySem PySem.W
set_option maxRecDepth 100000
namespace Mine
variable {sc : Sc} {st : St}

/- calls -/
theorem wc_call {dep un f as} {Q : AV → St → Prop} {F : Fn} (hF : T f = some F) (h1 : F.names.length = as.length) (h2 : F.names.Nodup) (h3 : dep < 800) (h4 : un < 9000) (h5 : f ≠ 98) {st₁ cells} (hl : layCells (F.names.zip as) F.scope.names st = (st₁, cells))
    {loc : List (Str × AV)} (hb : ((F.names.zip as).filter fun p => F.scope.names.lookup p.1 == some .local) = loc)
    (h : Wx { scope := F.scope, cells := cells, dep := dep + 3, un := un + 20 } { st₁ with loc := loc } F.body fun fl st₂ => (match fl with
          | .ret v => Q v { st₂ with loc := st.loc }
          | .next => Q .none { st₂ with loc := st.loc }
          | .brk => False)) : Wc dep un st f as Q := by
  obtain ⟨fl, st2, y, q⟩ := h
  cases fl with
  | next => exact ⟨_, _, .of1 y fun m e => by simp only [callF, hF]; rw [if_pos ⟨h1, h2, h3, h4, h5⟩]; simp only [hl, hb, e, Option.bind_some], q⟩
  | brk => exact q.elim
  | ret v => exact ⟨_, _, .of1 y fun m e => by simp only [callF, hF]; rw [if_pos ⟨h1, h2, h3, h4, h5⟩]; simp only [hl, hb, e, Option.bind_some], q⟩

/- loops -/
section
variable {Q : AFl → St → Prop} {B : Nat → St → AV → Option (AFl × St)}
theorem wl_forL {i : Nat} {xs : List AV} (I : Nat → St → Prop) (hH : ∀ k st, I k st → st.H i = some (.list xs)) (step : ∀ k v st, xs[k]? = some v → I k st → W2 (fun n => B n st v) fun fl st => fl = .next ∧ I (k + 1) st)
    (fin : ∀ st, I xs.length st → Q .next st) : ∀ (m k : Nat) (st : St), xs.length < m + k → k ≤ xs.length → I k st → W2 (fun n => forL (B n) i m k st) Q := by
  intro m
  induction m with
  | zero => intro k st h1 h2 _; omega
  | succ m ih =>
    intro k st h1 h2 hI
    cases hk : xs[k]? with
    | none =>
      have : xs.length ≤ k := List.getElem?_eq_none_iff.mp hk
      have : k = xs.length := by omega
      subst this
      exact ⟨_, _, ⟨0, fun n _ => by simp only [forL, hH _ _ hI, hk]⟩, fin _ hI⟩
    | some v =>
      obtain ⟨fl, st1, y, rfl, hI1⟩ := step k v st hk hI
      have hlt : k < xs.length := by
        rcases Nat.lt_or_ge k xs.length with h | h
        · exact h
        · rw [List.getElem?_eq_none_iff.mpr h] at hk; cases hk
      obtain ⟨fl2, st2, z, q⟩ := ih (k + 1) st1 (by omega) (by omega) hI1
      exact ⟨_, _, .here2 y z fun n e1 e2 => by simp only [forL, hH _ _ hI, hk, e1]; exact e2, q⟩
theorem wl_list {i : Nat} {xs : List AV} (I : Nat → St → Prop) (h0 : I 0 st) (hH : ∀ k st, I k st → st.H i = some (.list xs)) (hl : xs.length < 1000) (step : ∀ k v st, xs[k]? = some v → I k st → W2 (fun n => B n st v) fun fl st => fl = .next ∧ I (k + 1) st)
    (fin : ∀ st, I xs.length st → Q .next st) : W2 (fun n => loop T n sc (B n) (.obj i) st) Q := by
  obtain ⟨fl, st1, ⟨N, y⟩, q⟩ := wl_forL (B := fun n => B (n + 1)) (Q := Q) I hH (fun k v st a b => by
    obtain ⟨fl, st1, ⟨N, y⟩, q⟩ := step k v st a b
    exact ⟨fl, st1, ⟨N, fun n hn => y (n + 1) (by omega)⟩, q⟩) fin (xs.length + 1) 0 st (by omega) (by omega) h0
  exact ⟨fl, st1, .up ⟨N, fun m hm => by simp only [loop, hH _ _ h0, if_pos hl]; exact y m hm⟩, q⟩
theorem wl_forR {z : Nat} (I : Nat → St → Prop) (E : St → Prop) (step : ∀ k st, k < z → I k st → W2 (fun n => B n st (.int k)) fun fl st => fl = .next ∧ I (k + 1) st ∨ fl = .brk ∧ E st)
    (fin : ∀ st, I z st → Q .next st) (fin' : ∀ st, E st → Q .next st) : ∀ (m k : Nat) (st : St), z < m + k → k ≤ z → I k st → W2 (fun n => forR (B n) (z : Int) m (k : Int) st) Q := by
  intro m
  induction m with
  | zero => intro k st h1 h2 _; omega
  | succ m ih =>
    intro k st h1 h2 hI
    by_cases hk : z = k
    · subst hk
      exact ⟨_, _, ⟨0, fun n _ => by simp only [forR, if_pos (Int.le_refl _)]⟩, fin _ hI⟩
    · have hn : ¬ ((z : Int) ≤ (k : Int)) := by omega
      obtain ⟨fl, st1, y, ⟨rfl, hI1⟩ | ⟨rfl, he⟩⟩ := step k st (by omega) hI
      · obtain ⟨fl2, st2, w, q⟩ := ih (k + 1) st1 (by omega) (by omega) hI1
        exact ⟨_, _, .here2 y w fun n e1 e2 => by simp only [forR, if_neg hn, e1]; exact e2, q⟩
      · exact ⟨_, _, .here1 y fun n e1 => by simp only [forR, if_neg hn, e1], fin' _ he⟩
theorem wl_range {i z : Nat} (hi : st.H i = some (.range z)) (hz : z < 1000) (I : Nat → St → Prop) (E : St → Prop) (h0 : I 0 st) (step : ∀ k st, k < z → I k st → W2 (fun n => B n st (.int k)) fun fl st => fl = .next ∧ I (k + 1) st ∨ fl = .brk ∧ E st)
    (fin : ∀ st, I z st → Q .next st) (fin' : ∀ st, E st → Q .next st) : W2 (fun n => loop T n sc (B n) (.obj i) st) Q := by
  obtain ⟨fl, st1, ⟨N, y⟩, q⟩ := wl_forR (B := fun n => B (n + 1)) (Q := Q) I E (fun k st a b => by
    obtain ⟨fl, st1, ⟨N, y⟩, q⟩ := step k st a b
    exact ⟨fl, st1, ⟨N, fun n hn => y (n + 1) (by omega)⟩, q⟩) fin fin' (z + 1) 0 st (by omega) (by omega) h0
  refine ⟨fl, st1, .up ⟨N, fun m hm => ?_⟩, q⟩
  simp only [loop, hi]
  rw [if_pos ⟨by omega, by omega⟩]
  exact y m hm
theorem wl_forG {tF : Nat → St → Option (Bool × St)} {eF : Nat → St → Option (AV × St)} {rF : Nat → St → Option (AFl × St)} (J : Nat → List (Str × AV) → St → Prop) (z : Nat)
    (step : ∀ k gl st, k < z → J k gl st → W2 (fun n => tF n { st with loc := gl }) fun b s₁ => b = true ∧ W2 (fun n => eF n s₁) fun v s₂ => W2 (fun n => B n { s₂ with loc := st.loc } v) fun fl s₃ => fl = .next ∧ W2 (fun n => rF n { s₃ with loc := s₂.loc }) fun fl s₄ => fl = .next ∧ J (k + 1) s₄.loc { s₄ with loc := s₃.loc })
    (last : ∀ gl st, J z gl st → W2 (fun n => tF n { st with loc := gl }) fun b s₁ => b = false ∧ Q .next { s₁ with loc := st.loc }) :
    ∀ (m k : Nat) (gl : List (Str × AV)) (st : St), z < m + k → k ≤ z → J k gl st → W2 (fun n => forG (tF n) (eF n) (rF n) (B n) m gl st) Q := by
  intro m
  induction m with
  | zero => intro k gl st h1 h2 _; omega
  | succ m ih =>
    intro k gl st h1 h2 hJ
    by_cases hk : z = k
    · subst hk
      obtain ⟨b, s1, y, rfl, q⟩ := last gl st hJ
      exact ⟨_, _, .here1 y fun n e1 => by simp only [forG, e1, Option.bind_some, if_neg Bool.false_ne_true], q⟩
    · obtain ⟨b, s1, y1, rfl, v, s2, y2, fl, s3, y3, rfl, fl4, s4, y4, rfl, hJ'⟩ := step k gl st (by omega) hJ
      obtain ⟨fl5, s5, y5, q⟩ := ih (k + 1) _ _ (by omega) (by omega) hJ'
      obtain ⟨N1, y1⟩ := y1
      obtain ⟨N2, y2⟩ := y2
      obtain ⟨N3, y3⟩ := y3
      obtain ⟨N4, y4⟩ := y4
      obtain ⟨N5, y5⟩ := y5
      refine ⟨_, _, ⟨N1 + N2 + N3 + N4 + N5, fun n hn => ?_⟩, q⟩
      simp only [forG, y1 n (by omega), Option.bind_some, if_true, y2 n (by omega), y3 n (by omega), y4 n (by omega)]
      exact y5 n (by omega)
end

/- comprehensions -/
noncomputable def compBody (n : Nat) (sc' : Sc) (x : Str) (ifs : List Expr) (elt : Expr) (acc : Nat) (st : St) (v : AV) : Option (AFl × St) :=
  (wr sc' st x v).bind fun st => (tsts T n sc' st ifs).bind fun (ok, st) =>
            if ok then (ev T n sc' st elt).bind fun (y, st) => (match st.H acc with
              | some (.list ys) => if ys.length < 1000 then some (.next, { st with H := upd st.H acc (.list (ys ++ [y])) }) else none
              | _ => none) else some (.next, st)
def compSc (scope : Scope) (x : Str) : Bool := decide (scope.kind = .function ∧ scope.names.lookup x = some .local ∧ hasCell scope.names = false ∧ (scope.names.all fun p => decide (p.2 = .local → scope.names.lookup p.1 = some .local)) = true)
theorem we_comp {Q : AV → St → Prop} {elt x xp iter ifs scope p} (hs : compSc scope x = true) {cl} (hc : closeOver sc scope.names = some cl)
    (h : We sc st iter fun src st => W2 (fun n => loop T n { scope := relabelS scope sc.scope, cells := cl, dep := sc.dep, un := sc.un } (compBody n { scope := relabelS scope sc.scope, cells := cl, dep := sc.dep, un := sc.un } x ifs elt st.n) src { st.add (.list []) with loc := [] }) fun fl st₂ => fl = .next ∧ Q (.obj st.n) { st₂ with loc := st.loc }) :
    We sc st (.ListComp elt [⟨.Name x xp, iter, ifs, 0⟩] scope p) Q := by
  obtain ⟨src, st1, y, fl, st2, z, rfl, q⟩ := h
  refine ⟨_, _, .of2 y z fun m e1 e2 => ?_, q⟩
  simp only [ev]
  rw [if_pos (of_decide_eq_true hs)]
  simp only [e1, Option.bind_some, hc]
  exact (congrArg (fun z => Option.bind z _) e2).trans rfl
theorem wb_comp0 {Q : AFl → St → Prop} {x elt acc v st₁} (hw : wr sc st x v = some st₁) (h : We sc st₁ elt fun y st => ∃ ys, st.H acc = some (.list ys) ∧ ys.length < 1000 ∧ Q .next { st with H := upd st.H acc (.list (ys ++ [y])) }) :
    W2 (fun n => compBody n sc x [] elt acc st v) Q := by
  obtain ⟨y, st2, z, ys, ha, hl, q⟩ := h
  obtain ⟨N, z⟩ := z
  refine ⟨_, _, ⟨N + 1, fun n hn => ?_⟩, q⟩
  obtain ⟨m, rfl⟩ : ∃ m, n = m + 1 := ⟨n - 1, by omega⟩
  simp only [compBody, hw, Option.bind_some, tsts, if_true, z (m + 1) (by omega), ha, if_pos hl]
theorem wb_comp1 {Q : AFl → St → Prop} {x elt acc v st₁ t} (hw : wr sc st x v = some st₁) (h : Wt sc st₁ t fun ok st => if ok then We sc st elt fun y st => ∃ ys, st.H acc = some (.list ys) ∧ ys.length < 1000 ∧ Q .next { st with H := upd st.H acc (.list (ys ++ [y])) } else Q .next st) :
    W2 (fun n => compBody n sc x [t] elt acc st v) Q := by
  obtain ⟨b, st1, y, h⟩ := h
  obtain ⟨N, y⟩ := y
  cases b
  · refine ⟨_, _, ⟨N + 1, fun n hn => ?_⟩, h⟩
    obtain ⟨m, rfl⟩ : ∃ m, n = m + 1 := ⟨n - 1, by omega⟩
    simp only [compBody, hw, Option.bind_some, tsts, y m (by omega), if_neg Bool.false_ne_true]
  · obtain ⟨w, st2, z, ys, ha, hl, q⟩ := h
    obtain ⟨M, z⟩ := z
    refine ⟨_, _, ⟨N + M + 1, fun n hn => ?_⟩, q⟩
    obtain ⟨m, rfl⟩ : ∃ m, n = m + 1 := ⟨n - 1, by omega⟩
    simp only [compBody, hw, Option.bind_some, tsts, y m (by omega), if_true, z (m + 1) (by omega), ha, if_pos hl]
end Mine
end

section
open PySem PySem.W
set_option maxRecDepth 100000
namespace Mine

/-- heads and nodes -/
def U (i : Nat) : Prop := 12 ≤ i ∧ i ≤ 14 ∨ 17 ≤ i ∧ i ≤ 22
theorem U.lt {i : Nat} (h : U i) : i < 27 := by unfold U at h; omega
theorem U.ne {i : Nat} (h : U i) : 11 < i := by unfold U at h; omega
def okName (x : Str) : Bool := fieldName x
/-- an own object's fields -/
structure Fl (C : Addr) (i : Nat) (F : List (Str × AV)) (a b : Option Nat) : Prop where
  nx : F.lookup ("next_on_list" : Str) = a.map AV.obj
  pv : F.lookup ("prev_on_list" : Str) = b.map AV.obj
  room : F.length + (if a.isSome then 0 else 1) + (if b.isSome then 0 else 1) ≤ 10
  no : ∀ x, fieldName x = false → F.lookup x = none
  kind : (12 ≤ i ∧ i ≤ 14) ∧ C = 101 ∧ F.lookup ("head" : Str) = some (AV.obj i) ∧ F.lookup ("list_type" : Str) = some (AV.obj 9) ∨ (17 ≤ i ∧ i ≤ 22) ∧ C = 238 ∧ F.lookup ("_path" : Str) = some (AV.int ((i - 16 : Nat) : Int))
/-- what lies in the heads and the nodes -/
structure Sto (st : St) (nx pv : Nat → Option Nat) : Prop where
  kd : st.H 9 = some (.inst 193 [])
  ob : ∀ i, U i → ∃ C F, st.H i = some (.inst C F) ∧ Fl C i F (nx i) (pv i)
  cn : ∀ i j, nx i = some j → U j
  cp : ∀ i j, pv i = some j → U j
/-- all else stands -/
structure Same (st st' : St) : Prop where
  n : st'.n = st.n
  loc : st'.loc = st.loc
  H : ∀ j, ¬U j → st'.H j = st.H j
theorem Same.refl (st : St) : Same st st := ⟨rfl, rfl, fun _ _ => rfl⟩
theorem Same.trans {a b c : St} (x : Same a b) (y : Same b c) : Same a c := ⟨y.n.trans x.n, y.loc.trans x.loc, fun j h => (y.H j h).trans (x.H j h)⟩
def fset (f : Nat → Option Nat) (i j : Nat) : Nat → Option Nat := fun k => if k = i then some j else f k
theorem fset_self {f : Nat → Option Nat} {i j : Nat} : fset f i j i = some j := if_pos rfl
theorem fset_ne {f : Nat → Option Nat} {i j k : Nat} (h : k ≠ i) : fset f i j k = f k := if_neg h
def opt : Option Nat → AV
  | none => .none
  | some j => .obj j

theorem len_setA (x : Str) (v : AV) : ∀ F : List (Str × AV), (setA x v F).length = F.length + (if (F.lookup x).isSome then 0 else 1)
  | [] => rfl
  | p :: r => by
    unfold setA
    split
    · rename_i h
      subst h
      simp [List.lookup]
    · rename_i h
      have h' : (x == p.1) = false := by simpa using fun e => h e.symm
      rw [List.length_cons, len_setA x v r, List.length_cons, List.lookup, h']
      dsimp only
      omega
theorem Fl.lt {C i F a b} (h : Fl C i F a b) : F.length < 100 := by have := h.room; omega
theorem Fl.cls {C i F a b} (h : Fl C i F a b) : C = 101 ∨ C = 238 := by rcases h.kind with ⟨_, e, _⟩ | ⟨_, e, _⟩ <;> simp [e]
theorem Fl.set_nx {C i F a b} (h : Fl C i F a b) (j : Nat) : Fl C i (setA "next_on_list" (.obj j) F) (some j) b where
  nx := by rw [lookup_setA, if_pos rfl]; rfl
  pv := by rw [lookup_setA, if_neg (by decide)]; exact h.pv
  room := by
    have := h.room
    rw [len_setA, h.nx]
    cases a <;> simp at this ⊢ <;> omega
  no := fun x hx => by rw [lookup_setA, if_neg (by rintro rfl; revert hx; decide)]; exact h.no x hx
  kind := by
    rw [lookup_setA, if_neg (by decide), lookup_setA, if_neg (by decide), lookup_setA, if_neg (by decide)]
    exact h.kind
theorem Fl.set_pv {C i F a b} (h : Fl C i F a b) (j : Nat) : Fl C i (setA "prev_on_list" (.obj j) F) a (some j) where
  pv := by rw [lookup_setA, if_pos rfl]; rfl
  nx := by rw [lookup_setA, if_neg (by decide)]; exact h.nx
  room := by
    have := h.room
    rw [len_setA, h.pv]
    cases b <;> simp at this ⊢ <;> omega
  no := fun x hx => by rw [lookup_setA, if_neg (by rintro rfl; revert hx; decide)]; exact h.no x hx
  kind := by
    rw [lookup_setA, if_neg (by decide), lookup_setA, if_neg (by decide), lookup_setA, if_neg (by decide)]
    exact h.kind
section
variable {st : St} {nx pv : Nat → Option Nat}
theorem Sto.set_nx (S : Sto st nx pv) {i j : Nat} (hj : U j) {C F} (hi : U i) (e : st.H i = some (.inst C F)) : Sto { st with H := upd st.H i (.inst C (setA "next_on_list" (.obj j) F)) } (fset nx i j) pv where
  kd := (upd_ne _ _ (by have := hi.ne; omega)).trans S.kd
  ob := fun k hk => by
    obtain ⟨C', F', e', f⟩ := S.ob k hk
    by_cases h : k = i
    · subst h
      rw [e] at e'
      cases e'
      exact ⟨C, _, upd_self _ _ _, by rw [fset_self]; exact f.set_nx j⟩
    · exact ⟨C', F', (upd_ne _ _ h).trans e', by rw [fset_ne h]; exact f⟩
  cn := fun k m h => by
    unfold fset at h
    split at h
    · cases h; exact hj
    · exact S.cn k m h
  cp := S.cp
theorem Sto.set_pv (S : Sto st nx pv) {i j : Nat} (hj : U j) {C F} (hi : U i) (e : st.H i = some (.inst C F)) : Sto { st with H := upd st.H i (.inst C (setA "prev_on_list" (.obj j) F)) } nx (fset pv i j) where
  kd := (upd_ne _ _ (by have := hi.ne; omega)).trans S.kd
  ob := fun k hk => by
    obtain ⟨C', F', e', f⟩ := S.ob k hk
    by_cases h : k = i
    · subst h
      rw [e] at e'
      cases e'
      exact ⟨C, _, upd_self _ _ _, by rw [fset_self]; exact f.set_pv j⟩
    · exact ⟨C', F', (upd_ne _ _ h).trans e', by rw [fset_ne h]; exact f⟩
  cp := fun k m h => by
    unfold fset at h
    split at h
    · cases h; exact hj
    · exact S.cp k m h
  cn := S.cn
theorem Same.upd {i : Nat} (hi : U i) {o : AO} : Same st { st with H := upd st.H i o } := ⟨rfl, rfl, fun j hj => upd_ne _ _ (fun e => hj (e ▸ hi))⟩
/-- the store takes no note of names and of other objects -/
theorem Sto.of {st' : St} (S : Sto st nx pv) (h9 : st'.H 9 = st.H 9) (hU : ∀ i, U i → st'.H i = st.H i) : Sto st' nx pv := ⟨h9.trans S.kd, fun i h => by rw [hU i h]; exact S.ob i h, S.cn, S.cp⟩
theorem Sto.loc {l : List (Str × AV)} (S : Sto st nx pv) : Sto { st with loc := l } nx pv := S.of rfl fun _ _ => rfl
theorem tame_opt {o : Option Nat} {v : AV} (h : o.map AV.obj = some v) : tame v = true := by
  cases o <;> simp at h
  subst h; rfl
theorem opt_of (o : Option Nat) : (o.map AV.obj).getD .none = opt o := by cases o <;> rfl

def F141 : {F : Fn // T 141 = some F} := ⟨_, rfl⟩
def F148 : {F : Fn // T 148 = some F} := ⟨_, rfl⟩
def F155 : {F : Fn // T 155 = some F} := ⟨_, rfl⟩
def F162 : {F : Fn // T 162 = some F} := ⟨_, rfl⟩
def F169 : {F : Fn // T 169 = some F} := ⟨_, rfl⟩
def F176 : {F : Fn // T 176 = some F} := ⟨_, rfl⟩
def F183 : {F : Fn // T 183 = some F} := ⟨_, rfl⟩
def F190 : {F : Fn // T 190 = some F} := ⟨_, rfl⟩

variable {dep un : Nat} {kd : AV} {i j : Nat}
theorem c141 (hd : dep < 790) (hu : un < 8900) (S : Sto st nx pv) (hi : U i) : Wc dep un st 141 [kd, .obj i] fun r st' => r = opt (nx i) ∧ st' = st := by
  obtain ⟨C, F, e, f⟩ := S.ob i hi
  refine wc_call F141.2 rfl (by decide) (by omega) (by omega) (by decide) rfl rfl ?_
  refine wx_one (w1_try (.inl rfl) rfl ⟨i, C, F, rfl, e, f.cls, fun u h => tame_opt (f.nx ▸ h), ?_⟩)
  rw [f.nx, opt_of]
  exact ⟨rfl, rfl⟩
theorem c155 (hd : dep < 790) (hu : un < 8900) (S : Sto st nx pv) (hi : U i) : Wc dep un st 155 [kd, .obj i] fun r st' => r = opt (pv i) ∧ st' = st := by
  obtain ⟨C, F, e, f⟩ := S.ob i hi
  refine wc_call F155.2 rfl (by decide) (by omega) (by omega) (by decide) rfl rfl ?_
  refine wx_one (w1_try (.inr rfl) rfl ⟨i, C, F, rfl, e, f.cls, fun u h => tame_opt (f.pv ▸ h), ?_⟩)
  rw [f.pv, opt_of]
  exact ⟨rfl, rfl⟩
theorem c148 (hd : dep < 790) (hu : un < 8900) (S : Sto st nx pv) (hi : U i) (hj : U j) : Wc dep un st 148 [kd, .obj i, .obj j] fun r st' => r = .none ∧ Sto st' (fset nx i j) pv ∧ Same st st' := by
  obtain ⟨C, F, e, f⟩ := S.ob i hi
  refine wc_call F148.2 rfl (by decide) (by omega) (by omega) (by decide) rfl rfl ?_
  refine wx_one (w1_fld (we_name rfl ⟨i, C, F, rfl, e, f.cls, by decide, f.lt, ?_⟩))
  exact wx_nil ⟨rfl, S.set_nx hj hi e, Same.upd hi⟩
theorem c162 (hd : dep < 790) (hu : un < 8900) (S : Sto st nx pv) (hi : U i) (hj : U j) : Wc dep un st 162 [kd, .obj i, .obj j] fun r st' => r = .none ∧ Sto st' nx (fset pv i j) ∧ Same st st' := by
  obtain ⟨C, F, e, f⟩ := S.ob i hi
  refine wc_call F162.2 rfl (by decide) (by omega) (by omega) (by decide) rfl rfl ?_
  refine wx_one (w1_fld (we_name rfl ⟨i, C, F, rfl, e, f.cls, by decide, f.lt, ?_⟩))
  exact wx_nil ⟨rfl, S.set_pv hj hi e, Same.upd hi⟩
end
end Mine
end

section
open PySem PySem.W
set_option maxRecDepth 100000
namespace Mine
variable {st : St} {nx pv : Nat → Option Nat} {dep un : Nat} {i j w : Nat}

theorem br {c : Bool} {A B : Prop} (h1 : c = true → A) (h2 : c = false → B) : if c = true then A else B := by
  cases c
  · exact h2 rfl
  · exact h1 rfl
theorem Sto.isObj (S : Sto st nx pv) (hi : U i) : isObj (st.H i) = true := by
  obtain ⟨C, F, e, _⟩ := S.ob i hi
  rw [e]; rfl
theorem same_opt (S : Sto st nx pv) {a b : Option Nat} (ha : ∀ j, a = some j → U j) (hb : ∀ j, b = some j → U j) : same st (opt a) (opt b) = some (decide (a = b)) := by
  cases a <;> cases b <;> simp [opt, same]
  rename_i x y
  exact ⟨S.isObj (ha _ rfl), S.isObj (hb _ rfl)⟩
theorem same_obj (S : Sto st nx pv) {a : Option Nat} (ha : ∀ j, a = some j → U j) (hi : U i) : same st (opt a) (.obj i) = some (decide (a = some i)) :=
  same_opt (b := some i) S ha (fun j h => by cases h; exact hi)
theorem same_none (S : Sto st nx pv) {a : Option Nat} (ha : ∀ j, a = some j → U j) : same st (opt a) .none = some (decide (a = none)) :=
  same_opt (b := none) S ha (fun j h => by cases h)
theorem same_oo (S : Sto st nx pv) (hi : U i) (hj : U j) : same st (.obj i) (.obj j) = some (decide (i = j)) := by
  have := same_opt (a := some i) (b := some j) S (fun j h => by cases h; exact hi) (fun j h => by cases h; exact hj)
  simpa [opt] using this
/-- on a list, by the links -/
def onb (nx : Nat → Option Nat) (i : Nat) : Bool := decide (nx i ≠ none ∧ nx i ≠ some i)
/-- off all lists -/
def Off (nx pv : Nat → Option Nat) (i : Nat) : Prop := nx i = none ∧ pv i = none ∨ nx i = some i ∧ pv i = some i
/-- off or well on -/
def Fine (nx pv : Nat → Option Nat) (i : Nat) : Prop := (nx i = none → pv i = none) ∧ (nx i = some i → pv i = some i)

theorem c169 (hd : dep < 780) (hu : un < 8800) (S : Sto st nx pv) (hi : U i) (hf : Fine nx pv i) : Wc dep un st 169 [.obj 9, .obj i] fun r st' => r = .bool (onb nx i) ∧ st' = st := by
  refine wc_call F169.2 rfl (by decide) (by omega) (by omega) (by decide) rfl rfl ?_
  refine wx_one (w1_set (we_meth (by decide) (by decide) (we_name rfl ⟨9, 193, [], 141, rfl, S.kd, rfl, rfl, ws_cons (we_name rfl (ws_nil ((c141 (by dsimp only; omega) (by dsimp only; omega) S.loc hi).mono ?_)))⟩)))
  rintro r st' ⟨rfl, rfl⟩
  refine ⟨_, rfl, ?_⟩
  refine wx_one (w1_if (wt_or (wt_cmp (by decide) (we_name rfl (we_name rfl ⟨_, same_obj S.loc (S.cn i) hi, ?_⟩)))))
  refine br (fun e => ?_) (fun e => ?_)
  · have h := of_decide_eq_true e
    refine br (fun _ => ?_) (fun e => absurd e (by decide))
    refine wx_one (w1_assert (wt_cmp (by decide) (we_meth (by decide) (by decide) (we_name rfl ⟨9, 193, [], 155, rfl, S.kd, rfl, rfl, ws_cons (we_name rfl (ws_nil ((c155 (by dsimp only; omega) (by dsimp only; omega) S.loc hi).mono ?_)))⟩))))
    rintro r st' ⟨rfl, rfl⟩
    refine we_name rfl ⟨_, same_opt S.loc (S.cp i) (S.cn i), by rw [h, hf.2 h, decide_eq_true rfl], ?_⟩
    refine wx_one (w1_ret (we_bool ⟨?_, rfl⟩))
    simp [onb, h]
  · have h := of_decide_eq_false e
    refine wt_cmp (by decide) (we_name rfl (we_none ⟨_, same_none S.loc (S.cn i), ?_⟩))
    refine br (fun e => ?_) (fun e => ?_)
    · have h := of_decide_eq_true e
      refine wx_one (w1_assert (wt_cmp (by decide) (we_meth (by decide) (by decide) (we_name rfl ⟨9, 193, [], 155, rfl, S.kd, rfl, rfl, ws_cons (we_name rfl (ws_nil ((c155 (by dsimp only; omega) (by dsimp only; omega) S.loc hi).mono ?_)))⟩))))
      rintro r st' ⟨rfl, rfl⟩
      refine we_name rfl ⟨_, same_opt S.loc (S.cp i) (S.cn i), by rw [h, hf.1 h, decide_eq_true rfl], ?_⟩
      refine wx_one (w1_ret (we_bool ⟨?_, rfl⟩))
      simp [onb, h]
    · have h' := of_decide_eq_false e
      refine wx_nil (wx_one (w1_ret (we_bool ⟨?_, rfl⟩)))
      simp [onb, h, h']

theorem Same.eq {a b : St} (h : Same a b) : b = { a with H := b.H } := by
  obtain ⟨h1, h2, _⟩ := h
  cases b
  simp only at h1 h2
  subst h1 h2
  rfl
section
variable {sc : Sc} {Q : AV → St → Prop}
theorem k141 {o op ap p x xp} (hq : mform (.Name o op) [.Name x xp] ap p = true) (hd : sc.dep < 790) (hu : sc.un < 8900) (ho : rd sc st o = some (.obj 9)) (hx : rd sc st x = some (.obj i)) (S : Sto st nx pv) (hi : U i) (q : Q (opt (nx i)) st) :
    We sc st (.Call (.Attribute (.Name o op) "node_next" ap) [.Name x xp] [] p) Q :=
  we_meth hq (by decide) (we_name ho ⟨9, 193, [], 141, rfl, S.kd, rfl, rfl, ws_cons (we_name hx (ws_nil ((c141 hd hu S hi).mono (by rintro r st' ⟨rfl, rfl⟩; exact q))))⟩)
theorem k155 {o op ap p x xp} (hq : mform (.Name o op) [.Name x xp] ap p = true) (hd : sc.dep < 790) (hu : sc.un < 8900) (ho : rd sc st o = some (.obj 9)) (hx : rd sc st x = some (.obj i)) (S : Sto st nx pv) (hi : U i) (q : Q (opt (pv i)) st) :
    We sc st (.Call (.Attribute (.Name o op) "node_prev" ap) [.Name x xp] [] p) Q :=
  we_meth hq (by decide) (we_name ho ⟨9, 193, [], 155, rfl, S.kd, rfl, rfl, ws_cons (we_name hx (ws_nil ((c155 hd hu S hi).mono (by rintro r st' ⟨rfl, rfl⟩; exact q))))⟩)
theorem k169 {o op ap p x xp} (hq : mform (.Name o op) [.Name x xp] ap p = true) (hd : sc.dep < 780) (hu : sc.un < 8800) (ho : rd sc st o = some (.obj 9)) (hx : rd sc st x = some (.obj i)) (S : Sto st nx pv) (hi : U i) (hf : Fine nx pv i) (q : Q (.bool (onb nx i)) st) :
    We sc st (.Call (.Attribute (.Name o op) "node_is_on_list" ap) [.Name x xp] [] p) Q :=
  we_meth hq (by decide) (we_name ho ⟨9, 193, [], 169, rfl, S.kd, rfl, rfl, ws_cons (we_name hx (ws_nil ((c169 hd hu S hi hf).mono (by rintro r st' ⟨rfl, rfl⟩; exact q))))⟩)
theorem k148 {o op ap p x xp y yp} (hq : mform (.Name o op) [.Name x xp, .Name y yp] ap p = true) (hd : sc.dep < 790) (hu : sc.un < 8900) (ho : rd sc st o = some (.obj 9)) (hx : rd sc st x = some (.obj i)) (hy : rd sc st y = some (.obj j)) (S : Sto st nx pv) (hi : U i) (hj : U j)
    (q : ∀ H, Sto { st with H := H } (fset nx i j) pv → Same st { st with H := H } → Q .none { st with H := H }) : We sc st (.Call (.Attribute (.Name o op) "node_set_next" ap) [.Name x xp, .Name y yp] [] p) Q :=
  we_meth hq (by decide) (we_name ho ⟨9, 193, [], 148, rfl, S.kd, rfl, rfl, ws_cons (we_name hx (ws_cons (we_name hy (ws_nil ((c148 hd hu S hi hj).mono (by rintro r st' ⟨rfl, a, b⟩; have e := b.eq; rw [e] at a b ⊢; exact q _ a b))))))⟩)
theorem k162 {o op ap p x xp y yp} (hq : mform (.Name o op) [.Name x xp, .Name y yp] ap p = true) (hd : sc.dep < 790) (hu : sc.un < 8900) (ho : rd sc st o = some (.obj 9)) (hx : rd sc st x = some (.obj i)) (hy : rd sc st y = some (.obj j)) (S : Sto st nx pv) (hi : U i) (hj : U j)
    (q : ∀ H, Sto { st with H := H } nx (fset pv i j) → Same st { st with H := H } → Q .none { st with H := H }) : We sc st (.Call (.Attribute (.Name o op) "node_set_prev" ap) [.Name x xp, .Name y yp] [] p) Q :=
  we_meth hq (by decide) (we_name ho ⟨9, 193, [], 162, rfl, S.kd, rfl, rfl, ws_cons (we_name hx (ws_cons (we_name hy (ws_nil ((c162 hd hu S hi hj).mono (by rintro r st' ⟨rfl, a, b⟩; have e := b.eq; rw [e] at a b ⊢; exact q _ a b))))))⟩)
end
theorem onb_off (h : Off nx pv i) : onb nx i = false := by rcases h with ⟨h, _⟩ | ⟨h, _⟩ <;> simp [onb, h]
theorem Off.fine (h : Off nx pv i) : Fine nx pv i := by rcases h with ⟨h, h'⟩ | ⟨h, h'⟩ <;> simp [Fine, h, h']
theorem opt_some {o : Option Nat} (h : o = some j) : opt o = .obj j := by rw [h]; rfl

/-- the lifting of a changed store out of a frame -/
theorem Same.out {H : Nat → Option AO} {l : List (Str × AV)} (h : Same { st with loc := l } { st with H := H, loc := l }) : Same st { st with H := H } := ⟨rfl, rfl, h.H⟩

theorem c176 {x : Nat} (hd : dep < 770) (hu : un < 8700) (S : Sto st nx pv) (hi : U i) (hw : U w) (ho : Off nx pv w) (hn : i ≠ w) (hx : nx i = some x) :
    Wc dep un st 176 [.obj 9, .obj i, .obj w] fun r st' => r = .none ∧ Sto st' (fset (fset nx i w) w x) (fset (fset pv w i) x w) ∧ Same st st' := by
  have hU := S.cn i x hx
  refine wc_call F176.2 rfl (by decide) (by omega) (by omega) (by decide) rfl rfl ?_
  refine wx_one (w1_assert (wt_not (wt_val rfl (k169 (by decide) (by dsimp only; omega) (by dsimp only; omega) rfl rfl S.loc hw ho.fine ⟨_, rfl, ?_⟩))))
  refine ⟨by rw [onb_off ho]; rfl, ?_⟩
  refine wx_one (w1_assert (wt_cmp (by decide) (we_name rfl (we_name rfl ⟨true, ?_, ⟨rfl, ?_⟩⟩))))
  · show (same _ _ _).map not = _
    rw [same_oo S.loc hi hw, decide_eq_false hn]; rfl
  refine wx_one (w1_set (k141 (by decide) (by dsimp only; omega) (by dsimp only; omega) rfl rfl S.loc hi ⟨_, rfl, ?_⟩))
  rw [opt_some hx]
  refine wx_one (w1_assert (wt_cmp (by decide) (we_name rfl (we_none ⟨true, ?_, ⟨rfl, ?_⟩⟩))))
  · rfl
  refine wx_one (w1_expr (k148 (by decide) (by dsimp only; omega) (by dsimp only; omega) rfl rfl rfl S.loc hi hw fun H1 S1 E1 => ⟨rfl, ?_⟩))
  refine wx_one (w1_expr (k162 (by decide) (by dsimp only; omega) (by dsimp only; omega) rfl rfl rfl S1 hw hi fun H2 S2 E2 => ⟨rfl, ?_⟩))
  refine wx_one (w1_expr (k148 (by decide) (by dsimp only; omega) (by dsimp only; omega) rfl rfl rfl S2 hw hU fun H3 S3 E3 => ⟨rfl, ?_⟩))
  refine wx_one (w1_expr (k162 (by decide) (by dsimp only; omega) (by dsimp only; omega) rfl rfl rfl S3 hU hw fun H4 S4 E4 => ⟨rfl, ?_⟩))
  refine wx_nil ⟨rfl, S4.loc, ?_⟩
  exact ⟨rfl, rfl, (((E1.trans E2).trans E3).trans E4).H⟩
theorem c183 {x : Nat} (hd : dep < 770) (hu : un < 8700) (S : Sto st nx pv) (hi : U i) (hw : U w) (ho : Off nx pv w) (hn : i ≠ w) (hx : pv i = some x) :
    Wc dep un st 183 [.obj 9, .obj i, .obj w] fun r st' => r = .none ∧ Sto st' (fset (fset nx w i) x w) (fset (fset pv i w) w x) ∧ Same st st' := by
  have hU := S.cp i x hx
  refine wc_call F183.2 rfl (by decide) (by omega) (by omega) (by decide) rfl rfl ?_
  refine wx_one (w1_assert (wt_not (wt_val rfl (k169 (by decide) (by dsimp only; omega) (by dsimp only; omega) rfl rfl S.loc hw ho.fine ⟨_, rfl, ?_⟩))))
  refine ⟨by rw [onb_off ho]; rfl, ?_⟩
  refine wx_one (w1_assert (wt_cmp (by decide) (we_name rfl (we_name rfl ⟨true, ?_, ⟨rfl, ?_⟩⟩))))
  · show (same _ _ _).map not = _
    rw [same_oo S.loc hi hw, decide_eq_false hn]; rfl
  refine wx_one (w1_set (k155 (by decide) (by dsimp only; omega) (by dsimp only; omega) rfl rfl S.loc hi ⟨_, rfl, ?_⟩))
  rw [opt_some hx]
  refine wx_one (w1_assert (wt_cmp (by decide) (we_name rfl (we_none ⟨true, ?_, ⟨rfl, ?_⟩⟩))))
  · rfl
  refine wx_one (w1_expr (k162 (by decide) (by dsimp only; omega) (by dsimp only; omega) rfl rfl rfl S.loc hi hw fun H1 S1 E1 => ⟨rfl, ?_⟩))
  refine wx_one (w1_expr (k148 (by decide) (by dsimp only; omega) (by dsimp only; omega) rfl rfl rfl S1 hw hi fun H2 S2 E2 => ⟨rfl, ?_⟩))
  refine wx_one (w1_expr (k162 (by decide) (by dsimp only; omega) (by dsimp only; omega) rfl rfl rfl S2 hw hU fun H3 S3 E3 => ⟨rfl, ?_⟩))
  refine wx_one (w1_expr (k148 (by decide) (by dsimp only; omega) (by dsimp only; omega) rfl rfl rfl S3 hU hw fun H4 S4 E4 => ⟨rfl, ?_⟩))
  refine wx_nil ⟨rfl, S4.loc, ?_⟩
  exact ⟨rfl, rfl, (((E1.trans E2).trans E3).trans E4).H⟩
theorem c190_off (hd : dep < 770) (hu : un < 8700) (S : Sto st nx pv) (hi : U i) (ho : Off nx pv i) : Wc dep un st 190 [.obj 9, .obj i] fun r st' => r = .none ∧ st' = st := by
  refine wc_call F190.2 rfl (by decide) (by omega) (by omega) (by decide) rfl rfl ?_
  refine wx_one (w1_if (wt_not (wt_val rfl (k169 (by decide) (by dsimp only; omega) (by dsimp only; omega) rfl rfl S.loc hi ho.fine ⟨_, rfl, ?_⟩))))
  rw [onb_off ho]
  exact wx_one (w1_ret0 ⟨rfl, rfl⟩)
theorem c190_on {p n : Nat} (hd : dep < 770) (hu : un < 8700) (S : Sto st nx pv) (hi : U i) (hn : nx i = some n) (hp : pv i = some p) (hne : n ≠ i) : Wc dep un st 190 [.obj 9, .obj i] fun r st' => r = .none ∧ Sto st' (fset (fset nx p n) i i) (fset (fset pv n p) i i) ∧ Same st st' := by
  have hU := S.cn i n hn
  have hV := S.cp i p hp
  refine wc_call F190.2 rfl (by decide) (by omega) (by omega) (by decide) rfl rfl ?_
  refine wx_one (w1_if (wt_not (wt_val rfl (k169 (by decide) (by dsimp only; omega) (by dsimp only; omega) rfl rfl S.loc hi ⟨fun h => (by rw [hn] at h; cases h), fun h => (by rw [hn] at h; cases h; exact absurd rfl hne)⟩ ⟨_, rfl, ?_⟩))))
  rw [show onb nx i = true by simp [onb, hn, hne]]
  refine wx_nil ?_
  refine wx_one (w1_set (k155 (by decide) (by dsimp only; omega) (by dsimp only; omega) rfl rfl S.loc hi ⟨_, rfl, ?_⟩))
  rw [opt_some hp]
  refine wx_one (w1_set (k141 (by decide) (by dsimp only; omega) (by dsimp only; omega) rfl rfl S.loc hi ⟨_, rfl, ?_⟩))
  rw [opt_some hn]
  refine wx_one (w1_expr (k148 (by decide) (by dsimp only; omega) (by dsimp only; omega) rfl rfl rfl S.loc hV hU fun H1 S1 E1 => ⟨rfl, ?_⟩))
  refine wx_one (w1_expr (k162 (by decide) (by dsimp only; omega) (by dsimp only; omega) rfl rfl rfl S1 hU hV fun H2 S2 E2 => ⟨rfl, ?_⟩))
  refine wx_one (w1_expr (k148 (by decide) (by dsimp only; omega) (by dsimp only; omega) rfl rfl rfl S2 hi hi fun H3 S3 E3 => ⟨rfl, ?_⟩))
  refine wx_one (w1_expr (k162 (by decide) (by dsimp only; omega) (by dsimp only; omega) rfl rfl rfl S3 hi hi fun H4 S4 E4 => ⟨rfl, ?_⟩))
  refine wx_nil ⟨rfl, S4.loc, ?_⟩
  exact ⟨rfl, rfl, (((E1.trans E2).trans E3).trans E4).H⟩
end Mine
end

section
open PySem PySem.W
set_option maxRecDepth 100000
namespace Mine
variable {nx pv nx' pv' : Nat → Option Nat}

/-- x -> l -> y by both links -/
def Chain (nx pv : Nat → Option Nat) : Nat → List Nat → Nat → Prop
  | x, [], y => nx x = some y ∧ pv y = some x
  | x, a :: l, y => nx x = some a ∧ pv a = some x ∧ Chain nx pv a l y
theorem Chain.frame : ∀ {l : List Nat} {x y : Nat}, Chain nx pv x l y → (∀ a ∈ x :: l, nx' a = nx a) → (∀ a ∈ l ++ [y], pv' a = pv a) → Chain nx' pv' x l y
  | [], x, y, ⟨h1, h2⟩, f, g => ⟨(f x (by simp)).trans h1, (g y (by simp)).trans h2⟩
  | a :: l, x, y, ⟨h1, h2, h3⟩, f, g => ⟨(f x (by simp)).trans h1, (g a (by simp)).trans h2, h3.frame (fun b hb => f b (List.mem_cons_of_mem _ hb)) (fun b hb => g b (by simp at hb ⊢; grind))⟩
theorem Chain.split : ∀ {l m : List Nat} {x a y : Nat}, Chain nx pv x (l ++ a :: m) y ↔ Chain nx pv x l a ∧ Chain nx pv a m y
  | [], m, x, a, y => by simp [Chain, and_assoc]
  | b :: l, m, x, a, y => by
    simp only [List.cons_append, Chain]
    rw [Chain.split (l := l)]
    simp [and_assoc]
theorem Chain.fst : ∀ {l : List Nat} {x y n : Nat}, Chain nx pv x l y → (l ++ [y]).head? = some n → nx x = some n ∧ pv n = some x
  | [], x, y, n, ⟨h1, h2⟩, h => by simp at h; subst h; exact ⟨h1, h2⟩
  | a :: l, x, y, n, ⟨h1, h2, _⟩, h => by simp at h; subst h; exact ⟨h1, h2⟩
theorem Chain.lst : ∀ {l : List Nat} {x y p : Nat}, Chain nx pv x l y → (x :: l).getLast? = some p → pv y = some p ∧ nx p = some y
  | [], x, y, p, ⟨h1, h2⟩, h => by simp at h; subst h; exact ⟨h2, h1⟩
  | a :: l, x, y, p, ⟨_, _, h3⟩, h => h3.lst (by rw [List.getLast?_cons_cons] at h; exact h)
theorem mem_last {l : List Nat} {p : Nat} (h : l.getLast? = some p) : p ∈ l := List.mem_of_getLast? h
theorem mem_head {l : List Nat} {p : Nat} (h : l.head? = some p) : p ∈ l := List.mem_of_head? h
theorem Chain.lastto : ∀ {l : List Nat} {x y p z : Nat}, Chain nx pv x l y → (x :: l).Nodup → (x :: l).getLast? = some p → nx' p = some z → pv' z = some p → (∀ a ∈ x :: l, a ≠ p → nx' a = nx a) → (∀ a ∈ l, pv' a = pv a) → Chain nx' pv' x l z
  | [], x, y, p, z, c, nd, hp, h1, h2, h3, h4 => by simp at hp; subst hp; exact ⟨h1, h2⟩
  | a :: l, x, y, p, z, ⟨c1, c2, c3⟩, nd, hp, h1, h2, h3, h4 => by
    rw [List.getLast?_cons_cons] at hp
    obtain ⟨n1, n2⟩ := List.nodup_cons.mp nd
    have hx : x ≠ p := fun e => n1 (e ▸ mem_last hp)
    exact ⟨(h3 x (by simp) hx).trans c1, (h4 a (by simp)).trans c2, c3.lastto n2 hp h1 h2 (fun b hb => h3 b (List.mem_cons_of_mem _ hb)) (fun b hb => h4 b (List.mem_cons_of_mem _ hb))⟩
/-- the chain behind a cut -/
def Tail (nx pv : Nat → Option Nat) (l : List Nat) (y : Nat) : Prop := match l with
  | [] => True
  | b :: m => Chain nx pv b m y
theorem Chain.cut {l m : List Nat} {x y n : Nat} (hn : (m ++ [y]).head? = some n) : Chain nx pv x (l ++ m) y ↔ Chain nx pv x l n ∧ Tail nx pv m y := by
  cases m with
  | nil => simp at hn; subst hn; simp [Tail]
  | cons b m => simp at hn; subst hn; rw [Chain.split]; rfl
theorem Tail.frame {m : List Nat} {y n : Nat} (h : Tail nx pv m y) (nd : (m ++ [y]).Nodup) (hn : (m ++ [y]).head? = some n) (f : ∀ a ∈ m, nx' a = nx a) (g : ∀ a ∈ m ++ [y], a ≠ n → pv' a = pv a) : Tail nx' pv' m y := by
  cases m with
  | nil => trivial
  | cons b m =>
    simp at hn
    subst hn
    rw [List.cons_append, List.nodup_cons] at nd
    exact Chain.frame h f (fun a ha => g a (by simp at ha ⊢; grind) (by rintro rfl; exact nd.1 ha))
theorem Tail.chain {m : List Nat} {y n w : Nat} (h : Tail nx pv m y) (hn : (m ++ [y]).head? = some n) (h1 : nx w = some n) (h2 : pv n = some w) : Chain nx pv w m y := by
  cases m with
  | nil => simp at hn; subst hn; exact ⟨h1, h2⟩
  | cons b m => simp at hn; subst hn; exact ⟨h1, h2, h⟩

/-- the three rings and the nodes off them -/
structure Rings (nx pv : Nat → Option Nat) (R : Nat → List Nat) : Prop where
  ring : ∀ k, k < 3 → Chain nx pv (12 + k) (R k) (12 + k)
  nod : ∀ k a, k < 3 → a ∈ R k → 17 ≤ a ∧ a ≤ 22
  nd : ∀ k, k < 3 → (R k).Nodup
  dis : ∀ k m a, k < 3 → m < 3 → a ∈ R k → a ∈ R m → k = m
  off : ∀ a, 17 ≤ a → a ≤ 22 → (∀ k, k < 3 → a ∉ R k) → Off nx pv a
def rset (R : Nat → List Nat) (k : Nat) (l : List Nat) : Nat → List Nat := fun m => if m = k then l else R m
theorem rset_self {R : Nat → List Nat} {k l} : rset R k l k = l := if_pos rfl
theorem rset_ne {R : Nat → List Nat} {k m l} (h : m ≠ k) : rset R k l m = R m := if_neg h

variable {R : Nat → List Nat} {k : Nat}
theorem Rings.ndh (X : Rings nx pv R) (hk : k < 3) : ((12 + k) :: R k).Nodup := List.nodup_cons.mpr ⟨fun h => by have := X.nod k _ hk h; omega, X.nd k hk⟩
theorem Rings.ndt (X : Rings nx pv R) (hk : k < 3) : (R k ++ [12 + k]).Nodup := by
  rw [List.nodup_append]
  refine ⟨X.nd k hk, by simp, fun a ha b hb e => ?_⟩
  have := X.nod k _ hk ha
  simp at hb
  omega
/-- a node of another ring or off -/
theorem Rings.apart (X : Rings nx pv R) {m a b : Nat} (hk : k < 3) (hm : m < 3) (hne : m ≠ k) (ha : a = 12 + m ∨ a ∈ R m) (hb : b = 12 + k ∨ b ∈ R k) : a ≠ b := by
  rintro rfl
  rcases ha with rfl | ha <;> rcases hb with hb | hb
  · omega
  · have := X.nod k _ hk hb; omega
  · have := X.nod m _ hm ha; omega
  · exact hne (X.dis m k a hm hk ha hb)

theorem Rings.insert (X : Rings nx pv R) {l m : List Nat} {w p n : Nat} (hk : k < 3) (e : R k = l ++ m) (hp : ((12 + k) :: l).getLast? = some p) (hn : (m ++ [12 + k]).head? = some n) (hw : 17 ≤ w ∧ w ≤ 22) (hf : ∀ k, k < 3 → w ∉ R k)
    (a1 : nx' p = some w) (a2 : nx' w = some n) (a3 : ∀ a, a ≠ p → a ≠ w → nx' a = nx a) (b1 : pv' w = some p) (b2 : pv' n = some w) (b3 : ∀ a, a ≠ n → a ≠ w → pv' a = pv a) : Rings nx' pv' (rset R k (l ++ w :: m)) := by
  have P : p = 12 + k ∨ p ∈ R k := by
    have := mem_last hp
    rw [e]; simp at this ⊢; grind
  have N : n = 12 + k ∨ n ∈ R k := by
    have := mem_head hn
    rw [e]; simp at this ⊢; grind
  have hh := X.ndh hk
  have ht := X.ndt hk
  rw [e] at hh ht
  have hwk := hf k hk
  rw [e] at hwk
  refine ⟨fun j hj => ?_, fun j a hj ha => ?_, fun j hj => ?_, fun j j' a hj hj' ha ha' => ?_, fun a h1 h2 h => ?_⟩
  · by_cases hjk : j = k
    · subst hjk
      rw [rset_self, Chain.split]
      have c := X.ring j hj
      rw [e, Chain.cut hn] at c
      have sub : ((12 + j) :: l).Nodup := (List.nodup_cons.mp hh).elim fun h1 h2 => List.nodup_cons.mpr ⟨fun h => h1 (by simp [h]), (List.nodup_append.mp h2).1⟩
      have sub2 : (m ++ [12 + j]).Nodup := by
        rw [List.append_assoc] at ht
        exact (List.nodup_append.mp ht).2.1
      refine ⟨c.1.lastto sub hp a1 b1 (fun a ha h => a3 a h ?_) (fun a ha => b3 a ?_ ?_), Tail.chain (c.2.frame sub2 hn (fun a ha => a3 a ?_ ?_) (fun a ha h => b3 a h ?_)) hn a2 b2⟩
      · rintro rfl
        simp at ha
        rcases ha with h | h
        · omega
        · exact hwk (by simp [h])
      · rintro rfl
        have := mem_head hn
        rw [List.append_assoc] at ht
        exact (List.nodup_append.mp ht).2.2 _ ha _ this rfl
      · rintro rfl; exact hwk (by simp [ha])
      · rintro rfl
        have := mem_last hp
        rw [← List.cons_append] at hh
        exact (List.nodup_append.mp hh).2.2 _ this _ ha rfl
      · rintro rfl; exact hwk (by simp [ha])
      · rintro rfl
        simp at ha
        rcases ha with h | h
        · exact hwk (by simp [h])
        · omega
    · rw [rset_ne hjk]
      refine (X.ring j hj).frame (fun a ha => a3 a ?_ ?_) (fun a ha => b3 a ?_ ?_)
      · exact X.apart hk hj hjk (by simpa using ha) P
      · rintro rfl
        simp at ha
        rcases ha with h | h
        · omega
        · exact hf j hj h
      · exact X.apart hk hj hjk (by simp at ha; grind) N
      · rintro rfl
        simp at ha
        rcases ha with h | h
        · exact hf j hj h
        · omega
  · by_cases hjk : j = k
    · subst hjk
      rw [rset_self] at ha
      have := X.nod j a hj
      rw [e] at this
      simp at ha this
      rcases ha with h | rfl | h
      · exact this (.inl h)
      · exact hw
      · exact this (.inr h)
    · rw [rset_ne hjk] at ha
      exact X.nod j a hj ha
  · by_cases hjk : j = k
    · subst hjk
      rw [rset_self]
      have := X.nd j hj
      rw [e] at this
      rw [(List.perm_middle).nodup_iff, List.nodup_cons]
      exact ⟨hwk, this⟩
    · rw [rset_ne hjk]; exact X.nd j hj
  · have key : ∀ i, i < 3 → a ∈ rset R k (l ++ w :: m) i → a ∈ R i ∨ a = w ∧ i = k := by
      intro i hi h
      by_cases hik : i = k
      · subst hik
        rw [rset_self] at h
        rw [e]
        simp at h ⊢
        grind
      · rw [rset_ne hik] at h; exact .inl h
    rcases key j hj ha with h | ⟨rfl, h⟩ <;> rcases key j' hj' ha' with h' | ⟨h'', h'⟩
    · exact X.dis j j' a hj hj' h h'
    · subst h''; exact absurd h (hf j hj)
    · exact absurd h' (hf j' hj')
    · omega
  · have hne : a ≠ w := by
      rintro rfl
      exact h k hk (by rw [rset_self]; simp)
    have hold : ∀ j, j < 3 → a ∉ R j := by
      intro j hj hm
      refine h j hj ?_
      by_cases hjk : j = k
      · subst hjk
        rw [rset_self]
        rw [e] at hm
        simp at hm ⊢
        grind
      · rw [rset_ne hjk]; exact hm
    have hp' : a ≠ p := by
      rintro rfl
      rcases P with h | h
      · omega
      · exact hold k hk h
    have hn' : a ≠ n := by
      rintro rfl
      rcases N with h | h
      · omega
      · exact hold k hk h
    have := X.off a h1 h2 hold
    unfold Off at this ⊢
    rw [a3 a hp' hne, b3 a hn' hne]
    exact this

theorem Rings.unlink (X : Rings nx pv R) {l m : List Nat} {w p n : Nat} (hk : k < 3) (e : R k = l ++ w :: m) (hp : ((12 + k) :: l).getLast? = some p) (hn : (m ++ [12 + k]).head? = some n)
    (a1 : nx' p = some n) (a2 : nx' w = some w) (a3 : ∀ a, a ≠ p → a ≠ w → nx' a = nx a) (b1 : pv' n = some p) (b2 : pv' w = some w) (b3 : ∀ a, a ≠ n → a ≠ w → pv' a = pv a) : Rings nx' pv' (rset R k (l ++ m)) := by
  have P : p = 12 + k ∨ p ∈ R k := by
    have := mem_last hp
    rw [e]; simp at this ⊢; grind
  have N : n = 12 + k ∨ n ∈ R k := by
    have := mem_head hn
    rw [e]; simp at this ⊢; grind
  have W : w ∈ R k := by rw [e]; simp
  have hh := X.ndh hk
  have ht := X.ndt hk
  rw [e] at hh ht
  have nd := X.nd k hk
  rw [e, (List.perm_middle).nodup_iff, List.nodup_cons] at nd
  have hw := X.nod k w hk W
  refine ⟨fun j hj => ?_, fun j a hj ha => ?_, fun j hj => ?_, fun j j' a hj hj' ha ha' => ?_, fun a h1 h2 h => ?_⟩
  · by_cases hjk : j = k
    · subst hjk
      rw [rset_self, Chain.cut hn]
      have c := X.ring j hj
      rw [e, Chain.split] at c
      have c2 : Chain nx pv w ([] ++ m) (12 + j) := c.2
      rw [Chain.cut hn] at c2
      have sub : ((12 + j) :: l).Nodup := (List.nodup_cons.mp hh).elim fun h1 h2 => List.nodup_cons.mpr ⟨fun h => h1 (by simp [h]), (List.nodup_append.mp h2).1⟩
      have sub2 : (m ++ [12 + j]).Nodup := by
        rw [List.append_assoc] at ht
        exact (List.nodup_cons.mp (List.nodup_append.mp ht).2.1).2
      refine ⟨c.1.lastto sub hp a1 b1 (fun a ha h => a3 a h ?_) (fun a ha => b3 a ?_ ?_), c2.2.frame sub2 hn (fun a ha => a3 a ?_ ?_) (fun a ha h => b3 a h ?_)⟩
      · rintro rfl
        simp at ha
        rcases ha with h | h
        · omega
        · exact nd.1 (by simp [h])
      · rintro rfl
        have := mem_head hn
        rw [List.append_assoc] at ht
        exact (List.nodup_append.mp ht).2.2 _ ha _ (List.mem_cons_of_mem _ this) rfl
      · rintro rfl; exact nd.1 (by simp [ha])
      · rintro rfl
        have := mem_last hp
        rw [← List.cons_append] at hh
        exact (List.nodup_append.mp hh).2.2 _ this _ (List.mem_cons_of_mem _ ha) rfl
      · rintro rfl; exact nd.1 (by simp [ha])
      · rintro rfl
        simp at ha
        rcases ha with h | h
        · exact nd.1 (by simp [h])
        · omega
    · rw [rset_ne hjk]
      refine (X.ring j hj).frame (fun a ha => a3 a ?_ ?_) (fun a ha => b3 a ?_ ?_)
      · exact X.apart hk hj hjk (by simpa using ha) P
      · exact X.apart hk hj hjk (by simpa using ha) (.inr W)
      · exact X.apart hk hj hjk (by simp at ha; grind) N
      · exact X.apart hk hj hjk (by simp at ha; grind) (.inr W)
  · by_cases hjk : j = k
    · subst hjk
      rw [rset_self] at ha
      have := X.nod j a hj
      rw [e] at this
      simp at ha this
      rcases ha with h | h
      · exact this (.inl h)
      · exact this (.inr (.inr h))
    · rw [rset_ne hjk] at ha
      exact X.nod j a hj ha
  · by_cases hjk : j = k
    · subst hjk
      rw [rset_self]
      exact nd.2
    · rw [rset_ne hjk]; exact X.nd j hj
  · have key : ∀ i, i < 3 → a ∈ rset R k (l ++ m) i → a ∈ R i := by
      intro i hi h
      by_cases hik : i = k
      · subst hik
        rw [rset_self] at h
        rw [e]
        simp at h ⊢
        grind
      · rw [rset_ne hik] at h; exact h
    exact X.dis j j' a hj hj' (key j hj ha) (key j' hj' ha')
  · by_cases hne : a = w
    · subst hne
      exact .inr ⟨a2, b2⟩
    have hold : ∀ j, j < 3 → a ∉ R j := by
      intro j hj hm
      refine h j hj ?_
      by_cases hjk : j = k
      · subst hjk
        rw [rset_self]
        rw [e] at hm
        simp at hm ⊢
        grind
      · rw [rset_ne hjk]; exact hm
    have hp' : a ≠ p := by
      rintro rfl
      rcases P with h | h
      · omega
      · exact hold k hk h
    have hn' : a ≠ n := by
      rintro rfl
      rcases N with h | h
      · omega
      · exact hold k hk h
    have := X.off a h1 h2 hold
    unfold Off at this ⊢
    rw [a3 a hp' hne, b3 a hn' hne]
    exact this
end Mine
end

section
open PySem PySem.W
set_option maxRecDepth 100000
namespace Mine
variable {st : St} {nx pv : Nat → Option Nat} {dep un : Nat} {i j w k : Nat} {R : Nat → List Nat}

theorem lastc {x a : Nat} {l : List Nat} : (x :: (l ++ [a])).getLast? = some a := by rw [← List.cons_append, List.getLast?_concat]
theorem Rings.next (X : Rings nx pv R) (hk : k < 3) {l m : List Nat} {p n : Nat} (e : R k = l ++ m) (hp : ((12 + k) :: l).getLast? = some p) (hn : (m ++ [12 + k]).head? = some n) : nx p = some n ∧ pv n = some p := by
  have c := X.ring k hk
  rw [e, Chain.cut hn] at c
  exact (c.1.lst hp).symm
theorem Rings.head_fine (X : Rings nx pv R) (hk : k < 3) : Fine nx pv (12 + k) ∧ onb nx (12 + k) = !(R k).isEmpty := by
  cases e : R k with
  | nil =>
    obtain ⟨a, b⟩ := X.next hk (l := []) (m := []) (p := 12 + k) (n := 12 + k) e rfl rfl
    simp [Fine, onb, a, b]
  | cons w m =>
    obtain ⟨a, b⟩ := X.next hk (l := []) (m := w :: m) (p := 12 + k) (n := w) e rfl rfl
    have := X.nod k w hk (by rw [e]; simp)
    have hne : w ≠ 12 + k := by omega
    simp [Fine, onb, a, hne]
/-- a node in a row: what stands before and behind it -/
theorem Rings.at (X : Rings nx pv R) (hk : k < 3) {l m : List Nat} (e : R k = l ++ w :: m) : ∃ p n, ((12 + k) :: l).getLast? = some p ∧ (m ++ [12 + k]).head? = some n ∧ pv w = some p ∧ nx w = some n ∧ n ≠ w ∧ p ≠ w := by
  obtain ⟨p, hp⟩ : ∃ p, ((12 + k) :: l).getLast? = some p := ⟨_, List.getLast?_eq_some_getLast (by simp)⟩
  obtain ⟨n, hn⟩ : ∃ n, (m ++ [12 + k]).head? = some n := by cases m <;> exact ⟨_, rfl⟩
  have h1 := X.next hk (l := l) (m := w :: m) e hp rfl
  have h2 := X.next hk (l := l ++ [w]) (m := m) (p := w) (by rw [e]; simp) lastc hn
  have ndh := X.ndh hk
  have ndt := X.ndt hk
  rw [e] at ndh ndt
  refine ⟨p, n, hp, hn, h1.2, h2.1, ?_, ?_⟩
  · rintro rfl
    rw [List.append_assoc] at ndt
    exact (List.nodup_cons.mp (List.nodup_append.mp ndt).2.1).1 (mem_head hn)
  · rintro rfl
    rw [← List.cons_append] at ndh
    exact (List.nodup_append.mp ndh).2.2 _ (mem_last hp) _ (by simp) rfl
def onR (R : Nat → List Nat) (w : Nat) : Bool := (R 0).contains w || (R 1).contains w || (R 2).contains w
theorem onR_iff : onR R w = true ↔ ∃ k, k < 3 ∧ w ∈ R k := by
  simp only [onR, Bool.or_eq_true, List.contains_iff_mem]
  constructor
  · rintro ((h | h) | h)
    · exact ⟨0, by omega, h⟩
    · exact ⟨1, by omega, h⟩
    · exact ⟨2, by omega, h⟩
  · rintro ⟨k, hk, h⟩
    have : k = 0 ∨ k = 1 ∨ k = 2 := by omega
    rcases this with rfl | rfl | rfl <;> simp [h]
theorem onR_not : onR R w = false ↔ ∀ k, k < 3 → w ∉ R k := by
  rw [← Bool.not_eq_true, onR_iff]
  simp
theorem Rings.node_fine (X : Rings nx pv R) (hw : 17 ≤ w ∧ w ≤ 22) : Fine nx pv w ∧ onb nx w = onR R w := by
  cases e : onR R w with
  | false =>
    have o := X.off w hw.1 hw.2 (onR_not.mp e)
    exact ⟨o.fine, onb_off o⟩
  | true =>
    obtain ⟨k, hk, h⟩ := onR_iff.mp e
    obtain ⟨l, m, e⟩ := List.append_of_mem h
    obtain ⟨p, n, _, _, h1, h2, h3, _⟩ := X.at hk e
    simp [Fine, onb, h2, h3]

/-- the store holds the rows -/
def Wld (st : St) (R : Nat → List Nat) : Prop := ∃ nx pv, Sto st nx pv ∧ Rings nx pv R
theorem Wld.of {st' : St} (h : Wld st R) (h9 : st'.H 9 = st.H 9) (hU : ∀ i, U i → st'.H i = st.H i) : Wld st' R := let ⟨nx, pv, S, X⟩ := h; ⟨nx, pv, S.of h9 hU, X⟩
theorem Wld.loc {l : List (Str × AV)} (h : Wld st R) : Wld { st with loc := l } R := h.of rfl fun _ _ => rfl
theorem Rings.congr {R' : Nat → List Nat} (X : Rings nx pv R) (h : ∀ k, k < 3 → R' k = R k) : Rings nx pv R' where
  ring := fun k hk => by rw [h k hk]; exact X.ring k hk
  nod := fun k a hk => by rw [h k hk]; exact X.nod k a hk
  nd := fun k hk => by rw [h k hk]; exact X.nd k hk
  dis := fun k m a hk hm => by rw [h k hk, h m hm]; exact X.dis k m a hk hm
  off := fun a h1 h2 h3 => X.off a h1 h2 fun k hk => by rw [← h k hk]; exact h3 k hk
theorem Wld.congr {R' : Nat → List Nat} (W : Wld st R) (h : ∀ k, k < 3 → R' k = R k) : Wld st R' := let ⟨nx, pv, S, X⟩ := W; ⟨nx, pv, S, X.congr h⟩
theorem U.hd (hk : k < 3) : U (12 + k) := by unfold U; omega
theorem U.nd (hw : 17 ≤ w ∧ w ≤ 22) : U w := .inr hw
theorem Wld.nod (W : Wld st R) (hk : k < 3) (h : w ∈ R k) : 17 ≤ w ∧ w ≤ 22 := let ⟨_, _, _, X⟩ := W; X.nod k w hk h
theorem Wld.U (W : Wld st R) (hk : k < 3) (h : w ∈ R k) : Mine.U w := .nd (W.nod hk h)

section
variable {sc : Sc} {Q : AV → St → Prop}
theorem k_lt {o op p} (ho : rd sc st o = some (.obj i)) (S : Sto st nx pv) (h : 12 ≤ i ∧ i ≤ 14) (q : Q (.obj 9) st) : We sc st (.Attribute (.Name o op) "list_type" p) Q := by
  obtain ⟨C, F, e, f⟩ := S.ob i (.inl h)
  rcases f.kind with ⟨_, rfl, h1, h2⟩ | ⟨h', _⟩
  · exact we_attr rfl (we_name ho ⟨i, 101, F, .obj 9, rfl, e, by decide, .inl ⟨rfl, .inr rfl⟩, h2, rfl, q⟩)
  · omega
theorem k_hd {o op p} (ho : rd sc st o = some (.obj i)) (S : Sto st nx pv) (h : 12 ≤ i ∧ i ≤ 14) (q : Q (.obj i) st) : We sc st (.Attribute (.Name o op) "head" p) Q := by
  obtain ⟨C, F, e, f⟩ := S.ob i (.inl h)
  rcases f.kind with ⟨_, rfl, h1, h2⟩ | ⟨h', _⟩
  · exact we_attr rfl (we_name ho ⟨i, 101, F, .obj i, rfl, e, by decide, .inl ⟨rfl, .inl rfl⟩, h1, rfl, q⟩)
  · omega
end

theorem d141 (hd : dep < 790) (hu : un < 8900) (W : Wld st R) (hk : k < 3) {l m : List Nat} {p n : Nat} (e : R k = l ++ m) (hp : ((12 + k) :: l).getLast? = some p) (hn : (m ++ [12 + k]).head? = some n) : Wc dep un st 141 [.obj 9, .obj p] fun r st' => r = .obj n ∧ st' = st := by
  obtain ⟨nx, pv, S, X⟩ := W
  have h := X.next hk e hp hn
  have hu' : U p := by
    have := mem_last hp
    simp at this
    rcases this with rfl | h
    · exact U.hd hk
    · exact .nd (X.nod k p hk (by rw [e]; simp [h]))
  refine (c141 hd hu S hu').mono ?_
  rw [h.1]; exact fun _ _ h => h
theorem d155 (hd : dep < 790) (hu : un < 8900) (W : Wld st R) (hk : k < 3) {l m : List Nat} {p n : Nat} (e : R k = l ++ m) (hp : ((12 + k) :: l).getLast? = some p) (hn : (m ++ [12 + k]).head? = some n) : Wc dep un st 155 [.obj 9, .obj n] fun r st' => r = .obj p ∧ st' = st := by
  obtain ⟨nx, pv, S, X⟩ := W
  have h := X.next hk e hp hn
  have hu' : U n := by
    have := mem_head hn
    simp at this
    rcases this with h | rfl
    · exact .nd (X.nod k n hk (by rw [e]; simp [h]))
    · exact U.hd hk
  refine (c155 hd hu S hu').mono ?_
  rw [h.2]; exact fun _ _ h => h
theorem e176 (hd : dep < 770) (hu : un < 8700) (W : Wld st R) (hk : k < 3) {l m : List Nat} {a : Nat} (e : R k = l ++ a :: m) (hw : 17 ≤ w ∧ w ≤ 22) (hf : ∀ k, k < 3 → w ∉ R k) :
    Wc dep un st 176 [.obj 9, .obj a, .obj w] fun r st' => r = .none ∧ Wld st' (rset R k (l ++ a :: w :: m)) ∧ Same st st' := by
  obtain ⟨nx, pv, S, X⟩ := W
  obtain ⟨p, n, hp, hn, h1, h2, h3, h4⟩ := X.at hk e
  have ha : a ∈ R k := by rw [e]; simp
  have haw : a ≠ w := fun h => hf k hk (h ▸ ha)
  have hnw : n ≠ w := by
    rintro rfl
    have := mem_head hn
    simp at this
    rcases this with h | h
    · exact hf k hk (by rw [e]; simp [h])
    · omega
  refine (c176 hd hu S (.nd (X.nod k a hk ha)) (.nd hw) (X.off w hw.1 hw.2 hf) haw h2).mono ?_
  rintro r st' ⟨hr, S', E⟩
  refine ⟨hr, ⟨_, _, S', ?_⟩, E⟩
  have := X.insert (l := l ++ [a]) (m := m) (w := w) (p := a) (n := n) (nx' := fset (fset nx a w) w n) (pv' := fset (fset pv w a) n w) hk (by rw [e]; simp) lastc hn hw hf
    (by rw [fset_ne haw, fset_self]) fset_self (fun b h h' => by rw [fset_ne h', fset_ne h]) (by rw [fset_ne hnw.symm, fset_self]) fset_self (fun b h h' => by rw [fset_ne h, fset_ne h'])
  simpa using this
theorem e183 (hd : dep < 770) (hu : un < 8700) (W : Wld st R) (hk : k < 3) {l m : List Nat} {a : Nat} (e : R k = l ++ m) (ha : (m ++ [12 + k]).head? = some a) (hw : 17 ≤ w ∧ w ≤ 22) (hf : ∀ k, k < 3 → w ∉ R k) :
    Wc dep un st 183 [.obj 9, .obj a, .obj w] fun r st' => r = .none ∧ Wld st' (rset R k (l ++ w :: m)) ∧ Same st st' := by
  obtain ⟨nx, pv, S, X⟩ := W
  obtain ⟨p, hp⟩ : ∃ p, ((12 + k) :: l).getLast? = some p := ⟨_, List.getLast?_eq_some_getLast (by simp)⟩
  obtain ⟨h1, h2⟩ := X.next hk e hp ha
  have hau : U a := S.cn _ _ h1
  have haw : a ≠ w := by
    rintro rfl
    have := mem_head ha
    simp at this
    rcases this with h | h
    · exact hf k hk (by rw [e]; simp [h])
    · omega
  have hpw : p ≠ w := by
    rintro rfl
    have := mem_last hp
    simp at this
    rcases this with h | h
    · omega
    · exact hf k hk (by rw [e]; simp [h])
  refine (c183 hd hu S hau (.nd hw) (X.off w hw.1 hw.2 hf) haw h2).mono ?_
  rintro r st' ⟨hr, S', E⟩
  exact ⟨hr, ⟨_, _, S', X.insert hk e hp ha hw hf fset_self (by rw [fset_ne hpw.symm, fset_self]) (fun b h h' => by rw [fset_ne h, fset_ne h']) fset_self (by rw [fset_ne haw, fset_self]) (fun b h h' => by rw [fset_ne h', fset_ne h])⟩, E⟩
theorem e176h (hd : dep < 770) (hu : un < 8700) (W : Wld st R) (hk : k < 3) (hw : 17 ≤ w ∧ w ≤ 22) (hf : ∀ k, k < 3 → w ∉ R k) :
    Wc dep un st 176 [.obj 9, .obj (12 + k), .obj w] fun r st' => r = .none ∧ Wld st' (rset R k (w :: R k)) ∧ Same st st' := by
  obtain ⟨nx, pv, S, X⟩ := W
  obtain ⟨n, hn⟩ : ∃ n, (R k ++ [12 + k]).head? = some n := by cases R k <;> exact ⟨_, rfl⟩
  obtain ⟨h1, h2⟩ := X.next hk (l := []) (m := R k) (p := 12 + k) rfl rfl hn
  have hnw : n ≠ w := by
    rintro rfl
    have := mem_head hn
    simp at this
    rcases this with h | h
    · exact hf k hk h
    · omega
  have haw : 12 + k ≠ w := by omega
  refine (c176 hd hu S (U.hd hk) (.nd hw) (X.off w hw.1 hw.2 hf) haw h1).mono ?_
  rintro r st' ⟨hr, S', E⟩
  exact ⟨hr, ⟨_, _, S', X.insert (l := []) (m := R k) (p := 12 + k) hk rfl rfl hn hw hf
    (by rw [fset_ne haw, fset_self]) fset_self (fun b h h' => by rw [fset_ne h', fset_ne h]) (by rw [fset_ne hnw.symm, fset_self]) fset_self (fun b h h' => by rw [fset_ne h, fset_ne h'])⟩, E⟩
/-- the rows without a node -/
def sans (R : Nat → List Nat) (w : Nat) : Nat → List Nat := fun k => (R k).filter (fun a => decide (a ≠ w))
theorem sans_off (h : ∀ k, k < 3 → w ∉ R k) : ∀ k, k < 3 → sans R w k = R k := fun k hk => List.filter_eq_self.mpr fun a ha => decide_eq_true (by rintro rfl; exact h k hk ha)
theorem Rings.sans_on (X : Rings nx pv R) (hk : k < 3) {l m : List Nat} (e : R k = l ++ w :: m) : ∀ j, j < 3 → sans R w j = rset R k (l ++ m) j := by
  intro j hj
  have nd := X.nd k hk
  rw [e, (List.perm_middle).nodup_iff, List.nodup_cons] at nd
  by_cases h : j = k
  · subst h
    rw [rset_self]
    unfold sans
    rw [e, List.filter_append, List.filter_cons, if_neg (by simp)]
    congr 1
    · exact List.filter_eq_self.mpr fun a ha => decide_eq_true (by rintro rfl; exact nd.1 (by simp [ha]))
    · exact List.filter_eq_self.mpr fun a ha => decide_eq_true (by rintro rfl; exact nd.1 (by simp [ha]))
  · rw [rset_ne h]
    exact List.filter_eq_self.mpr fun a ha => decide_eq_true (by rintro rfl; exact h (X.dis j k a hj hk ha (by rw [e]; simp)))
theorem e190 (hd : dep < 770) (hu : un < 8700) (W : Wld st R) (hw : 17 ≤ w ∧ w ≤ 22) : Wc dep un st 190 [.obj 9, .obj w] fun r st' => r = .none ∧ Wld st' (sans R w) ∧ Same st st' := by
  obtain ⟨nx, pv, S, X⟩ := W
  cases e : onR R w with
  | false =>
    have h := onR_not.mp e
    refine (c190_off hd hu S (.nd hw) (X.off w hw.1 hw.2 h)).mono ?_
    rintro r st' ⟨hr, rfl⟩
    exact ⟨hr, ⟨_, _, S, X.congr (sans_off h)⟩, .refl _⟩
  | true =>
    obtain ⟨k, hk, h⟩ := onR_iff.mp e
    obtain ⟨l, m, e⟩ := List.append_of_mem h
    obtain ⟨p, n, hp, hn, h1, h2, h3, h4⟩ := X.at hk e
    refine (c190_on hd hu S (.nd hw) h2 h1 h3).mono ?_
    rintro r st' ⟨hr, S', E⟩
    exact ⟨hr, ⟨_, _, S', (X.unlink hk e hp hn (by rw [fset_ne h4, fset_self]) fset_self (fun b h h' => by rw [fset_ne h', fset_ne h]) (by rw [fset_ne h3, fset_self]) fset_self (fun b h h' => by rw [fset_ne h', fset_ne h])).congr (X.sans_on hk e)⟩, E⟩
end Mine
end

section
open PySem PySem.W
set_option maxRecDepth 100000
namespace Mine
variable {st : St} {nx pv : Nat → Option Nat} {dep un : Nat} {i j w k : Nat} {R : Nat → List Nat}

def F42 : {F : Fn // T 42 = some F} := ⟨_, rfl⟩
def F49 : {F : Fn // T 49 = some F} := ⟨_, rfl⟩
def F56 : {F : Fn // T 56 = some F} := ⟨_, rfl⟩
def F63 : {F : Fn // T 63 = some F} := ⟨_, rfl⟩
def F70 : {F : Fn // T 70 = some F} := ⟨_, rfl⟩
def F84 : {F : Fn // T 84 = some F} := ⟨_, rfl⟩
def F91 : {F : Fn // T 91 = some F} := ⟨_, rfl⟩
def F98 : {F : Fn // T 98 = some F} := ⟨_, rfl⟩
def F219 : {F : Fn // T 219 = some F} := ⟨_, rfl⟩

theorem h3 (hk : k < 3) : 12 ≤ 12 + k ∧ 12 + k ≤ 14 := by omega

theorem e42 (hd : dep < 760) (hu : un < 8600) (W : Wld st R) (hk : k < 3) : Wc dep un st 42 [.obj (12 + k)] fun r st' => r = .bool (R k).isEmpty ∧ st' = st := by
  obtain ⟨nx, pv, S, X⟩ := W
  have h := X.head_fine hk
  refine wc_call F42.2 rfl (by decide) (by omega) (by omega) (by decide) rfl rfl ?_
  refine wx_one (w1_ret (we_not (we_meth (by decide) (by decide) (k_lt rfl S.loc (h3 hk) ⟨9, 193, [], 169, rfl, S.kd, rfl, rfl, ws_cons (k_hd rfl S.loc (h3 hk) (ws_nil ?_))⟩))))
  refine (c169 (by dsimp only; omega) (by dsimp only; omega) S.loc (U.hd hk) h.1).mono ?_
  rintro r st' ⟨rfl, rfl⟩
  refine ⟨_, rfl, ?_, rfl⟩
  rw [h.2, Bool.not_not]
theorem e56 (hd : dep < 760) (hu : un < 8600) (W : Wld st R) (hk : k < 3) (hw : 17 ≤ w ∧ w ≤ 22) : Wc dep un st 56 [.obj (12 + k), .obj w] fun r st' => r = .bool (onR R w) ∧ st' = st := by
  obtain ⟨nx, pv, S, X⟩ := W
  have h := X.node_fine hw
  refine wc_call F56.2 rfl (by decide) (by omega) (by omega) (by decide) rfl rfl ?_
  refine wx_one (w1_ret (we_meth (by decide) (by decide) (k_lt rfl S.loc (h3 hk) ⟨9, 193, [], 169, rfl, S.kd, rfl, rfl, ws_cons (we_name rfl (ws_nil ?_))⟩)))
  refine (c169 (by dsimp only; omega) (by dsimp only; omega) S.loc (.nd hw) h.1).mono ?_
  rintro r st' ⟨rfl, rfl⟩
  exact ⟨by rw [h.2], rfl⟩
theorem Wld.kd (W : Wld st R) : st.H 9 = some (.inst 193 []) := let ⟨_, _, S, _⟩ := W; S.kd
/-- an answer out of a frame -/
theorem out {l : List (Str × AV)} {P : Prop} {st' : St} (h : Same { st with loc := l } st') : Same st { st' with loc := st.loc } := ⟨h.n, rfl, h.H⟩
theorem e63 (hd : dep < 760) (hu : un < 8600) (W : Wld st R) (hk : k < 3) (hw : 17 ≤ w ∧ w ≤ 22) (hf : ∀ k, k < 3 → w ∉ R k) : Wc dep un st 63 [.obj (12 + k), .obj w] fun r st' => r = .none ∧ Wld st' (rset R k (R k ++ [w])) ∧ Same st st' := by
  obtain ⟨nx, pv, S, X⟩ := id W
  refine wc_call F63.2 rfl (by decide) (by omega) (by omega) (by decide) rfl rfl ?_
  refine wx_one (w1_expr (we_meth (by decide) (by decide) (k_lt rfl S.loc (h3 hk) ⟨9, 193, [], 183, rfl, S.kd, rfl, rfl, ws_cons (k_hd rfl S.loc (h3 hk) (ws_cons (we_name rfl (ws_nil ?_))))⟩)))
  refine (e183 (by dsimp only; omega) (by dsimp only; omega) W.loc hk (l := R k) (m := []) (by simp) rfl hw hf).mono ?_
  rintro r st' ⟨rfl, W', E⟩
  exact ⟨rfl, wx_nil ⟨rfl, W'.loc, E.n, rfl, E.H⟩⟩
theorem e70 (hd : dep < 760) (hu : un < 8600) (W : Wld st R) (hk : k < 3) (hw : 17 ≤ w ∧ w ≤ 22) (hf : ∀ k, k < 3 → w ∉ R k) : Wc dep un st 70 [.obj (12 + k), .obj w] fun r st' => r = .none ∧ Wld st' (rset R k (w :: R k)) ∧ Same st st' := by
  obtain ⟨nx, pv, S, X⟩ := id W
  refine wc_call F70.2 rfl (by decide) (by omega) (by omega) (by decide) rfl rfl ?_
  refine wx_one (w1_expr (we_meth (by decide) (by decide) (k_lt rfl S.loc (h3 hk) ⟨9, 193, [], 176, rfl, S.kd, rfl, rfl, ws_cons (k_hd rfl S.loc (h3 hk) (ws_cons (we_name rfl (ws_nil ?_))))⟩)))
  refine (e176h (by dsimp only; omega) (by dsimp only; omega) W.loc hk hw hf).mono ?_
  rintro r st' ⟨rfl, W', E⟩
  exact ⟨rfl, wx_nil ⟨rfl, W'.loc, E.n, rfl, E.H⟩⟩
theorem e84 (hd : dep < 760) (hu : un < 8600) (W : Wld st R) (hk : k < 3) (hw : 17 ≤ w ∧ w ≤ 22) : Wc dep un st 84 [.obj (12 + k), .obj w] fun r st' => r = .none ∧ Wld st' (sans R w) ∧ Same st st' := by
  obtain ⟨nx, pv, S, X⟩ := id W
  refine wc_call F84.2 rfl (by decide) (by omega) (by omega) (by decide) rfl rfl ?_
  refine wx_one (w1_expr (we_meth (by decide) (by decide) (k_lt rfl S.loc (h3 hk) ⟨9, 193, [], 190, rfl, S.kd, rfl, rfl, ws_cons (we_name rfl (ws_nil ?_))⟩)))
  refine (e190 (by dsimp only; omega) (by dsimp only; omega) W.loc hw).mono ?_
  rintro r st' ⟨rfl, W', E⟩
  exact ⟨rfl, wx_nil ⟨rfl, W'.loc, E.n, rfl, E.H⟩⟩

section
variable {sc : Sc} {Q : AV → St → Prop}
/-- no own method's name among the fields -/
theorem Sto.inst101 (S : Sto st nx pv) (hk : k < 3) {x : Str} (hx : fieldName x = false) : ∃ F, st.H (12 + k) = some (.inst 101 F) ∧ F.lookup x = none := by
  obtain ⟨C, F, e, f⟩ := S.ob (12 + k) (U.hd hk)
  rcases f.kind with ⟨_, rfl, _⟩ | ⟨h', _⟩
  · exact ⟨F, e, f.no x hx⟩
  · omega
end
theorem e91_nil (hd : dep < 750) (hu : un < 8500) (W : Wld st R) (hk : k < 3) (e : R k = []) : Wc dep un st 91 [.obj (12 + k)] fun r st' => r = .none ∧ st' = st := by
  obtain ⟨nx, pv, S, X⟩ := id W
  refine wc_call F91.2 rfl (by decide) (by omega) (by omega) (by decide) rfl rfl ?_
  refine wx_one (w1_set (we_meth (by decide) (by decide) (k_lt rfl S.loc (h3 hk) ⟨9, 193, [], 141, rfl, S.kd, rfl, rfl, ws_cons (k_hd rfl S.loc (h3 hk) (ws_nil ?_))⟩)))
  refine (d141 (by dsimp only; omega) (by dsimp only; omega) W.loc hk (l := []) (m := []) (p := 12 + k) (n := 12 + k) e rfl rfl).mono ?_
  rintro r st' ⟨rfl, rfl⟩
  refine ⟨_, rfl, wx_one (w1_if (wt_cmp (by decide) (we_name rfl (k_hd rfl S.loc (h3 hk) ⟨_, same_oo S.loc (U.hd hk) (U.hd hk), br (fun _ => ?_) (fun h => ?_)⟩))))⟩
  · exact wx_one (w1_ret (we_none ⟨rfl, rfl⟩))
  · exact absurd (of_decide_eq_false h) (by simp)
theorem e91_cons (hd : dep < 750) (hu : un < 8500) (W : Wld st R) (hk : k < 3) {m : List Nat} (e : R k = w :: m) : Wc dep un st 91 [.obj (12 + k)] fun r st' => r = .obj w ∧ Wld st' (rset R k m) ∧ Same st st' := by
  obtain ⟨nx, pv, S, X⟩ := id W
  have hw := W.nod hk (w := w) (by rw [e]; simp)
  refine wc_call F91.2 rfl (by decide) (by omega) (by omega) (by decide) rfl rfl ?_
  refine wx_one (w1_set (we_meth (by decide) (by decide) (k_lt rfl S.loc (h3 hk) ⟨9, 193, [], 141, rfl, S.kd, rfl, rfl, ws_cons (k_hd rfl S.loc (h3 hk) (ws_nil ?_))⟩)))
  refine (d141 (by dsimp only; omega) (by dsimp only; omega) W.loc hk (l := []) (m := w :: m) (p := 12 + k) (n := w) e rfl rfl).mono ?_
  rintro r st' ⟨rfl, rfl⟩
  refine ⟨_, rfl, wx_one (w1_if (wt_cmp (by decide) (we_name rfl (k_hd rfl S.loc (h3 hk) ⟨_, same_oo S.loc (.nd hw) (U.hd hk), br (fun h => ?_) (fun _ => ?_)⟩))))⟩
  · have := of_decide_eq_true h; omega
  · obtain ⟨F, eF, nF⟩ := S.inst101 hk (x := "remove") (by decide)
    refine wx_nil (wx_one (w1_expr (we_meth (by decide) (by decide) (we_name rfl ⟨12 + k, 101, F, 84, rfl, eF, rfl, nF, ws_cons (we_name rfl (ws_nil ((e84 (by dsimp only; omega) (by dsimp only; omega) W.loc hk hw).mono ?_)))⟩))))
    rintro r st' ⟨rfl, W', E⟩
    rw [E.eq] at W' ⊢
    refine ⟨rfl, wx_one (w1_ret (we_name rfl ⟨rfl, ?_, rfl, rfl, E.H⟩))⟩
    exact (W'.congr (fun j hj => (X.sans_on hk (l := []) (m := m) e j hj).symm)).loc
theorem e219 (hd : dep < 790) (hu : un < 8900) (W : Wld st R) (hw : 17 ≤ w ∧ w ≤ 22) : Wc dep un st 219 [.obj w] fun r st' => r = .int ((w - 16 : Nat) : Int) ∧ st' = st := by
  obtain ⟨nx, pv, S, X⟩ := id W
  obtain ⟨C, F, e, f⟩ := S.ob w (.nd hw)
  refine wc_call F219.2 rfl (by decide) (by omega) (by omega) (by decide) rfl rfl ?_
  rcases f.kind with ⟨h, _⟩ | ⟨_, rfl, h⟩
  · omega
  · exact wx_one (w1_ret (we_attr rfl (we_name rfl ⟨w, 238, F, _, rfl, e, by decide, .inr ⟨rfl, rfl⟩, h, rfl, rfl, rfl⟩)))
/-- node.path -/
theorem k_path {sc : Sc} {Q : AV → St → Prop} {o p} (hd : sc.dep < 790) (hu : sc.un < 8900) (ho : rd sc st o = some (.obj w)) (W : Wld st R) (hw : 17 ≤ w ∧ w ≤ 22) (q : Q (.int ((w - 16 : Nat) : Int)) st) : We sc st (.Attribute (.Name o op) "path" p) Q := by
  obtain ⟨nx, pv, S, X⟩ := id W
  obtain ⟨C, F, e, f⟩ := S.ob w (.nd hw)
  rcases f.kind with ⟨h, _⟩ | ⟨_, rfl, h⟩
  · omega
  · refine we_path rfl (we_name ho ⟨w, F, rfl, e, (e219 hd hu W hw).mono ?_⟩)
    rintro r st' ⟨rfl, rfl⟩
    exact ⟨rfl, q⟩
/-- a method of a list named -/
theorem k_list {sc : Sc} {Q : AV → St → Prop} {o x ap as p f} (hq : mform o as ap p = true) (hx : x ≠ ("List" : Str)) (hm : meth 101 x = some f) (hf : fieldName x = false) (hk : k < 3) (h : We sc st o fun v st => v = .obj (12 + k) ∧ (∃ R, Wld st R) ∧ Ws sc st as fun vs st => Wc sc.dep sc.un st f (.obj (12 + k) :: vs) Q) :
    We sc st (.Call (.Attribute o x ap) as [] p) Q := by
  refine we_meth hq hx (W2.mono h ?_)
  rintro a st ⟨rfl, ⟨R, W⟩, h⟩
  obtain ⟨nx, pv, S, X⟩ := W
  obtain ⟨F, eF, nF⟩ := S.inst101 hk hf
  exact ⟨12 + k, 101, F, f, rfl, eF, hm, nF, h⟩
end Mine
end

section
open PySem PySem.W
set_option maxRecDepth 100000
namespace Mine
variable {st : St} {nx pv : Nat → Option Nat} {dep un : Nat} {i j w k : Nat} {R : Nat → List Nat} {sc : Sc} {Q : AFl → St → Prop} {B : Nat → St → AV → Option (AFl × St)}

def gsc (sc : Sc) : Sc := { scope := F98.1.scope, cells := [], dep := sc.dep + 6, un := sc.un + 60 }
/-- the generator's text in its parts -/
def genOf : List Stmt → Option (Stmt × Stmt × Expr × Expr × List Stmt)
  | [s1, s2, .While t (.Expr (.Yield (some e) _) _ :: rest) [] _] => some (s1, s2, t, e, rest)
  | _ => none
theorem wl_own {Fs : List (Str × AV)} {s1 s2 : Stmt} {t e : Expr} {rest : List Stmt} {self : Str} (hi : st.H i = some (.inst 101 Fs)) (hg : Fs.lookup ("generator" : Str) = none) (hd : sc.dep < 800) (hu : sc.un < 9000)
    (hG : genOf F98.1.body = some (s1, s2, t, e, rest)) (hN : F98.1.names = [self])
    (h : Wx (gsc sc) { st with loc := [(self, .obj i)] } [s1, s2] fun fl st₁ => fl = .next ∧ W2 (fun n => forG (fun st => tst T n (gsc sc) st t) (fun st => ev T n (gsc sc) st e) (fun st => exs T n (gsc sc) st rest) (B (n + 1)) 100 st₁.loc { st₁ with loc := st.loc }) Q) :
    W2 (fun n => loop T n sc (B n) (.obj i) st) Q := by
  unfold genOf at hG
  split at hG
  · rename_i a1 a2 a3 a4 p1 p2 a5 p3 hB
    cases hG
    obtain ⟨fl, st1, ⟨N, y⟩, rfl, fl2, st2, ⟨M, z⟩, q⟩ := h
    refine ⟨fl2, st2, .up ⟨N + M, fun m hm => ?_⟩, q⟩
    simp only [loop, hi]
    rw [if_pos ⟨by trivial, hd, hu, hg⟩]
    simp only [F98.2, hB, hN]
    have y := y m (by omega)
    have z := z m (by omega)
    unfold gsc at y z
    dsimp only at y z
    rw [y]
    exact z
  · cases hG


theorem nxt {l pre : List Nat} {a : Nat} (e : R k = pre ++ l.drop j) (hj : j ≤ l.length) (ha : (l ++ [12 + k])[j]? = some a) :
    ∃ b, (j < l.length → (l ++ [12 + k])[j + 1]? = some b) ∧ ∃ l' m, R k = l' ++ m ∧ ((12 + k) :: l').getLast? = some a ∧ (m ++ [12 + k]).head? = some b := by
  rcases Nat.lt_or_ge j l.length with h | h
  · rw [List.getElem?_append_left h, List.getElem?_eq_getElem h] at ha
    cases ha
    rw [List.drop_eq_getElem_cons h] at e
    obtain ⟨b, hb⟩ : ∃ b, (l.drop (j + 1) ++ [12 + k]).head? = some b := by cases l.drop (j + 1) <;> exact ⟨_, rfl⟩
    refine ⟨b, fun _ => ?_, pre ++ [l[j]], l.drop (j + 1), by rw [e]; simp, lastc, hb⟩
    rw [← List.drop_append_of_le_length (by omega), List.head?_drop] at hb
    exact hb
  · have : j = l.length := by omega
    subst this
    rw [List.getElem?_append_right (Nat.le_refl _)] at ha
    simp at ha
    subst ha
    obtain ⟨b, hb⟩ : ∃ b, (R k ++ [12 + k]).head? = some b := by cases R k <;> exact ⟨_, rfl⟩
    exact ⟨b, fun h => by omega, [], R k, rfl, rfl, hb⟩

/-- a for over an own list, of which no node ahead is taken off -/
theorem wl_ring {l : List Nat} (hk : k < 3) (I : Nat → St → Prop) (h0 : I 0 st) (hd : sc.dep < 730) (hu : sc.un < 8300) (hl : l.length < 99) (hR : ∃ R, Wld st R ∧ R k = l)
    (hI : ∀ j st, j ≤ l.length → I j st → ∃ R pre, Wld st R ∧ R k = pre ++ l.drop j)
    (step : ∀ j w st, l[j]? = some w → I j st → W2 (fun n => B n st (.obj w)) fun fl st => fl = .next ∧ I (j + 1) st) (fin : ∀ st, I l.length st → Q .next st) : W2 (fun n => loop T n sc (B n) (.obj (12 + k)) st) Q := by
  obtain ⟨R0, W0, e0⟩ := hR
  have X0 := W0
  obtain ⟨nx, pv, S, X⟩ := X0
  obtain ⟨F, eF, nF⟩ := S.inst101 hk (x := "generator") (by decide)
  refine wl_own (Q := Q) eF nF (by omega) (by omega) rfl rfl ?_
  obtain ⟨a, ha⟩ : ∃ a, (l ++ [12 + k])[0]? = some a := ⟨_, List.getElem?_eq_getElem (by simp)⟩
  obtain ⟨b, hb, l1, m1, c1, c2, c3⟩ := nxt (R := R0) (l := l) (pre := []) (j := 0) (by simpa using e0) (Nat.zero_le _) ha
  refine wx_one (w1_set (we_meth (by decide) (by decide) (k_lt rfl S.loc (h3 hk) ⟨9, 193, [], 141, rfl, S.kd, rfl, rfl, ws_cons (k_hd rfl S.loc (h3 hk) (ws_nil ?_))⟩)))
  refine (d141 (by dsimp only [gsc]; omega) (by dsimp only [gsc]; omega) W0.loc hk (l := []) (m := l) (p := 12 + k) (n := a) e0 rfl (by rw [List.head?_eq_getElem?]; exact ha)).mono ?_
  rintro r st' ⟨rfl, rfl⟩
  refine ⟨_, rfl, wx_one (w1_set (we_meth (by decide) (by decide) (k_lt rfl S.loc (h3 hk) ⟨9, 193, [], 141, rfl, S.kd, rfl, rfl, ws_cons (we_name rfl (ws_nil ?_))⟩)))⟩
  refine (d141 (by dsimp only [gsc]; omega) (by dsimp only [gsc]; omega) W0.loc hk c1 c2 c3).mono ?_
  rintro r st' ⟨rfl, rfl⟩
  refine ⟨_, rfl, wx_nil ⟨rfl, ?_⟩⟩
  have key : ∀ {j a st R pre}, j ≤ l.length → (l ++ [12 + k])[j]? = some a → Wld st R → R k = pre ++ l.drop j → ((j < l.length → 17 ≤ a ∧ a ≤ 22) ∧ (j = l.length → a = 12 + k)) := by
    intro j a st R pre hj ha W e
    refine ⟨fun h => ?_, fun h => ?_⟩
    · rw [List.getElem?_append_left h, List.getElem?_eq_getElem h] at ha
      cases ha
      rw [List.drop_eq_getElem_cons h] at e
      exact W.nod hk (by rw [e]; exact List.mem_append_right _ List.mem_cons_self)
    · subst h
      rw [List.getElem?_append_right (Nat.le_refl _)] at ha
      simp at ha
      exact ha.symm
  refine wl_forG (B := fun n => B (n + 1)) (Q := Q) (fun j gl st => ∃ a b, (l ++ [12 + k])[j]? = some a ∧ (j < l.length → (l ++ [12 + k])[j + 1]? = some b) ∧ gl = [(("self" : Str), AV.obj (12 + k)), (("node" : Str), AV.obj a), (("next" : Str), AV.obj b)] ∧ I j st) l.length ?_ ?_ 100 0 _ _ (by omega) (Nat.zero_le _) ⟨a, b, ha, hb, rfl, h0⟩
  · rintro j gl st hj ⟨a, b, ha, hb, rfl, hI0⟩
    obtain ⟨R, pre, W, e⟩ := hI j st (by omega) hI0
    obtain ⟨nx, pv, S, X⟩ := id W
    have hA := (key (by omega) ha W e).1 hj
    refine wt_cmp (by decide) (we_name rfl (k_hd rfl S.loc (h3 hk) ⟨true, ?_, rfl, ?_⟩))
    · show (same _ _ _).map not = _
      rw [same_oo S.loc (.nd hA) (U.hd hk), decide_eq_false (by omega)]; rfl
    refine we_name rfl ?_
    have ha' := ha
    rw [List.getElem?_append_left hj] at ha'
    obtain ⟨fl, st3, ⟨N, y⟩, hfl, hI1⟩ := step j a st ha' hI0
    refine ⟨fl, st3, ⟨N, fun n hn => y (n + 1) (by omega)⟩, hfl, ?_⟩
    obtain ⟨R', pre', W', e'⟩ := hI (j + 1) st3 (by omega) hI1
    obtain ⟨nx', pv', S', X'⟩ := id W'
    have hb := hb hj
    obtain ⟨c, hc, l2, m2, d1, d2, d3⟩ := nxt (R := R') e' (by omega) hb
    refine wx_one (w1_set (we_name rfl ⟨_, rfl, ?_⟩))
    refine wx_one (w1_set (we_meth (by decide) (by decide) (k_lt rfl S'.loc (h3 hk) ⟨9, 193, [], 141, rfl, S'.kd, rfl, rfl, ws_cons (we_name rfl (ws_nil ?_))⟩)))
    refine (d141 (by dsimp only [gsc]; omega) (by dsimp only [gsc]; omega) W'.loc hk d1 d2 d3).mono ?_
    rintro r st' ⟨rfl, rfl⟩
    exact ⟨_, rfl, wx_nil ⟨rfl, b, c, hb, hc, rfl, hI1⟩⟩
  · rintro gl st ⟨a, b, ha, hb, rfl, hI0⟩
    obtain ⟨R, pre, W, e⟩ := hI _ st (Nat.le_refl _) hI0
    obtain ⟨nx, pv, S, X⟩ := id W
    have hA := (key (Nat.le_refl _) ha W e).2 rfl
    subst hA
    refine wt_cmp (by decide) (we_name rfl (k_hd rfl S.loc (h3 hk) ⟨false, ?_, rfl, fin _ hI0⟩))
    show (same _ _ _).map not = _
    rw [same_oo S.loc (U.hd hk) (U.hd hk), decide_eq_true rfl]; rfl
end Mine
end

section
open PySem PySem.W
set_option maxRecDepth 100000
namespace Mine
variable {st : St} {nx pv : Nat → Option Nat} {dep un : Nat} {i j w k : Nat} {R : Nat → List Nat} {sc : Sc}

theorem wb_for {Q : AFl → St → Prop} {x b v} (h : ∃ st1, wr sc st x v = some st1 ∧ Wx sc st1 b Q) : W2 (fun n => (wr sc st x v).bind fun st => exs T n sc st b) Q := by
  obtain ⟨st1, hw, fl, st2, y, q⟩ := h
  exact ⟨fl, st2, .here1 y fun n e => by rw [hw]; exact e, q⟩
def plainName (sc : Sc) (x : Str) : Bool := !decide (x = "__debug__" ∨ x = "__classdict__") && decide (sc.scope.names.lookup x = some .local)
theorem rd_loc {x : Str} {v : AV} (hx : plainName sc x = true) (hl : st.loc.lookup x = some v) : rd sc st x = some v := by
  unfold plainName at hx
  simp only [Bool.and_eq_true, Bool.not_eq_true', decide_eq_true_eq, decide_eq_false_iff_not] at hx
  unfold rd
  rw [if_neg hx.1, hx.2]
  exact hl
theorem lookup_here (x : Str) (v : AV) (l : List (Str × AV)) : (setA x v l).lookup x = some v := (lookup_setA x v l x).trans (if_pos rfl)
theorem drop_cons {l : List Nat} (h : l[j]? = some w) : l.drop j = w :: l.drop (j + 1) := by
  have hj : j < l.length := by
    rcases Nat.lt_or_ge j l.length with h' | h'
    · exact h'
    · rw [List.getElem?_eq_none_iff.mpr h'] at h; cases h
  rw [List.getElem?_eq_getElem hj] at h
  cases h
  exact List.drop_eq_getElem_cons hj
theorem Wld.len (W : Wld st R) (hk : k < 3) : (R k).length ≤ 6 := by
  obtain ⟨nx, pv, S, X⟩ := W
  have h1 := X.nd k hk
  have h2 : ∀ a ∈ R k, a ∈ [17, 18, 19, 20, 21, 22] := fun a ha => by
    have := X.nod k a hk ha
    have : a = 17 ∨ a = 18 ∨ a = 19 ∨ a = 20 ∨ a = 21 ∨ a = 22 := by omega
    simpa using this
  exact (List.Nodup.length_le_of_subset h1 h2 : _)
theorem Wld.sans_on (W : Wld st R) (hk : k < 3) {l m : List Nat} (e : R k = l ++ w :: m) : ∀ j, j < 3 → sans R w j = rset R k (l ++ m) j := let ⟨_, _, _, X⟩ := W; X.sans_on hk e
theorem e49 (hd : dep < 720) (hu : un < 8200) (W : Wld st R) (hk : k < 3) : Wc dep un st 49 [.obj (12 + k)] fun r st' => r = .none ∧ Wld st' (rset R k []) ∧ Same st st' := by
  refine wc_call F49.2 rfl (by decide) (by omega) (by omega) (by decide) rfl rfl ?_
  refine wx_one (w1_for (we_name rfl ?_))
  refine wl_ring hk (fun j st' => ∃ H rest R', st' = { H := H, n := st.n, loc := (("self" : Str), AV.obj (12 + k)) :: rest } ∧ (∀ j, ¬U j → H j = st.H j) ∧ Wld st' R' ∧ (∀ m, m < 3 → R' m = rset R k ((R k).drop j) m)) ?_ (by dsimp only; omega) (by dsimp only; omega) (l := R k) (by have := W.len hk; omega) ⟨R, W.loc, rfl⟩ ?_ ?_ ?_
  · refine ⟨_, _, R, rfl, fun _ _ => rfl, W.loc, fun m hm => ?_⟩
    by_cases h : m = k
    · subst h; rw [rset_self]; rfl
    · rw [rset_ne h]
  · rintro j st' hj ⟨H, rest, R', rfl, hH, W', hR⟩
    exact ⟨R', [], W', by rw [hR k hk, rset_self]; rfl⟩
  · rintro j w st' hw ⟨H, rest, R', rfl, hH, W', hR⟩
    obtain ⟨nx, pv, S, X⟩ := id W'
    obtain ⟨F, eF, nF⟩ := S.inst101 hk (x := "remove") (by decide)
    have e : R' k = [] ++ w :: (R k).drop (j + 1) := by rw [hR k hk, rset_self, drop_cons hw]; rfl
    have hw' := W'.nod hk (w := w) (by rw [e]; simp)
    refine wb_for ⟨_, rfl, wx_one (w1_expr (we_meth (by decide) (by decide) (we_name rfl ⟨12 + k, 101, F, 84, rfl, eF, rfl, nF, ws_cons (we_name (rd_loc rfl (lookup_here _ _ _)) (ws_nil ?_))⟩)))⟩
    refine (e84 (by dsimp only; omega) (by dsimp only; omega) W'.loc hk hw').mono ?_
    rintro r st2 ⟨rfl, W2, E⟩
    rw [E.eq] at W2 ⊢
    refine ⟨rfl, wx_nil ⟨rfl, st2.H, _, _, rfl, fun a ha => (E.H a ha).trans (hH a ha), W2, fun m hm => ?_⟩⟩
    rw [W'.sans_on hk e m hm]
    by_cases h : m = k
    · subst h; rw [rset_self, rset_self]; rfl
    · rw [rset_ne h, hR m hm, rset_ne h, rset_ne h]
  · rintro st' ⟨H, rest, R', rfl, hH, W', hR⟩
    refine wx_nil ⟨rfl, (W'.congr (fun m hm => ?_)).loc, rfl, rfl, hH⟩
    rw [hR m hm, List.drop_length]
end Mine
end

section
open PySem PySem.W
set_option maxRecDepth 100000
namespace Mine
variable {st : St} {dep un : Nat} {i j w k : Nat} {R : Nat → List Nat} {sc : Sc}

/-- what a for goes over -/
def Src (sc : Sc) (src : AV) (xs : List AV) (st1 : St) : Prop := ∀ (B : Nat → St → AV → Option (AFl × St)) (Q : AFl → St → Prop) (I : Nat → St → Prop), (∀ j st, I j st → ∀ a, a < st1.n → st.H a = st1.H a) → ∀ st, I 0 st →
  (∀ j v st, xs[j]? = some v → I j st → W2 (fun n => B n st v) fun fl st => fl = .next ∧ I (j + 1) st) → (∀ st, I xs.length st → Q .next st) → W2 (fun n => loop T n sc (B n) src st) Q
theorem src_list {st1 : St} {xs : List AV} (hi : st1.H i = some (.list xs)) (hn : i < st1.n) (hl : xs.length < 1000) : Src sc (.obj i) xs st1 :=
  fun B Q I hI st h0 step fin => wl_list I h0 (fun j st h => (hI j st h i hn).trans hi) hl step fin
theorem src_range {st1 : St} {z : Nat} (hi : st1.H i = some (.range z)) (hn : i < st1.n) (hz : z < 1000) : Src sc (.obj i) ((List.range z).map fun k : Nat => AV.int (k : Int)) st1 := by
  intro B Q I hI st h0 step fin
  refine wl_range ((hI 0 st h0 i hn).trans hi) hz I (fun _ => False) h0 (fun k st hk h => ?_) (fun st h => fin st (by simpa using h)) (fun _ h => h.elim)
  exact (step k _ st (by simp [hk]) h).mono fun fl st h => .inl h
theorem src_ring {st1 : St} (hk : k < 3) (hd : sc.dep < 730) (hu : sc.un < 8300) (W : Wld st1 R) (hn : 27 ≤ st1.n) : Src sc (.obj (12 + k)) ((R k).map .obj) st1 := by
  intro B Q I hI st h0 step fin
  have hw : ∀ j st, I j st → Wld st R := fun j st h => W.of (hI j st h 9 (by omega)) (fun i hi => hI j st h i (by have := hi.lt; omega))
  refine wl_ring (l := R k) hk I h0 hd hu (by have := W.len hk; omega) ⟨R, hw 0 st h0, rfl⟩ (fun j st hj h => ⟨R, (R k).take j, hw j st h, (List.take_append_drop j (R k)).symm⟩) (fun j w st hw h => step j _ st (by rw [List.getElem?_map, hw]; rfl) h) (fun st h => fin st (by simpa using h))

def Wts (sc : Sc) (st : St) (es : List Expr) (Q : Bool → St → Prop) : Prop := W2 (fun n => tsts T n sc st es) Q
theorem wts_nil {Q : Bool → St → Prop} (q : Q true st) : Wts sc st [] Q := ⟨_, _, .now fun m => by simp only [tsts], q⟩
theorem wts_one {Q : Bool → St → Prop} {e} (h : Wt sc st e Q) : Wts sc st [e] Q := by
  obtain ⟨b, st1, y, q⟩ := h
  exact ⟨_, _, .of1 y fun m e => by simp only [tsts, e], q⟩
theorem wb_comp {Q : AFl → St → Prop} {x ifs elt acc v st₁} (hw : wr sc st x v = some st₁) (h : Wts sc st₁ ifs fun ok st => (ok = true → We sc st elt fun y st => ∃ ys, st.H acc = some (.list ys) ∧ ys.length < 1000 ∧ Q .next { st with H := upd st.H acc (.list (ys ++ [y])) }) ∧ (ok = false → Q .next st)) :
    W2 (fun n => compBody n sc x ifs elt acc st v) Q := by
  obtain ⟨b, st1, y, h1, h2⟩ := h
  cases b
  · exact ⟨_, _, .here1 y fun m e => by simp only [compBody, hw, Option.bind_some, e, if_neg Bool.false_ne_true], h2 rfl⟩
  · obtain ⟨w, st2, z, ys, ha, hl, q⟩ := h1 rfl
    exact ⟨_, _, .here2 y z fun m e e2 => by simp only [compBody, hw, Option.bind_some, e, if_true, e2, ha, if_pos hl], q⟩

/-- a comprehension whose filter and element change nothing -/
theorem comp_src {Q : AV → St → Prop} {elt x xp iter ifs scope p} (hs : compSc scope x = true) {cl} (hc : closeOver sc scope.names = some cl) (hx : (relabelS scope sc.scope).names.lookup x = some .local)
    (h : We sc st iter fun src st1 => ∃ (xs : List AV) (f : AV → Bool) (g : AV → AV), Src { scope := relabelS scope sc.scope, cells := cl, dep := sc.dep, un := sc.un } src xs st1 ∧ xs.length < 1000 ∧
      (∀ v ∈ xs, ∀ H, (∀ a, a < st1.n → H a = st1.H a) → Wts { scope := relabelS scope sc.scope, cells := cl, dep := sc.dep, un := sc.un } { H := H, n := st1.n + 1, loc := [(x, v)] } ifs fun b st' => b = f v ∧ st' = { H := H, n := st1.n + 1, loc := [(x, v)] } ∧
        (f v = true → We { scope := relabelS scope sc.scope, cells := cl, dep := sc.dep, un := sc.un } { H := H, n := st1.n + 1, loc := [(x, v)] } elt fun y st' => y = g v ∧ st' = { H := H, n := st1.n + 1, loc := [(x, v)] })) ∧
      (∀ H, (∀ a, a < st1.n → H a = st1.H a) → H st1.n = some (.list ((xs.filter f).map g)) → Q (.obj st1.n) { H := H, n := st1.n + 1, loc := st1.loc })) :
    We sc st (.ListComp elt [⟨.Name x xp, iter, ifs, 0⟩] scope p) Q := by
  refine we_comp hs hc (W2.mono h ?_)
  rintro src st1 ⟨xs, f, g, S, hl, el, q⟩
  refine S _ _ (fun j st => ∃ H lc, st = { H := H, n := st1.n + 1, loc := lc } ∧ (lc = [] ∨ ∃ u, lc = [(x, u)]) ∧ (∀ a, a < st1.n → H a = st1.H a) ∧ H st1.n = some (.list (((xs.take j).filter f).map g))) ?_ _ ?_ ?_ ?_
  · rintro j st ⟨H, lc, rfl, _, h, _⟩
    exact h
  · exact ⟨_, _, rfl, .inl rfl, fun a ha => upd_ne _ _ (by omega), upd_self _ _ _⟩
  · rintro j v st hv ⟨H, lc, rfl, hlc, hH, ha⟩
    have hw : wr { scope := relabelS scope sc.scope, cells := cl, dep := sc.dep, un := sc.un } { H := H, n := st1.n + 1, loc := lc } x v = some { H := H, n := st1.n + 1, loc := [(x, v)] } := by
      unfold wr
      simp only [hx]
      rcases hlc with rfl | ⟨u, rfl⟩
      · rfl
      · simp [setA]
    have hm : v ∈ xs := List.mem_of_getElem? hv
    have ht : xs.take (j + 1) = xs.take j ++ [v] := by rw [List.take_add_one, hv]; rfl
    refine wb_comp hw (W2.mono (el v hm H hH) ?_)
    rintro b st' ⟨rfl, rfl, he⟩
    refine ⟨fun hf => W2.mono (he hf) ?_, fun hf => ⟨rfl, _, _, rfl, .inr ⟨_, rfl⟩, hH, ?_⟩⟩
    · rintro y st' ⟨rfl, rfl⟩
      refine ⟨_, ha, ?_, rfl, _, _, rfl, .inr ⟨_, rfl⟩, fun a h => (upd_ne _ _ (by omega)).trans (hH a h), ?_⟩
      · have := List.length_filter_le f (xs.take j)
        rw [List.length_map]
        rw [List.length_take] at this
        omega
      · rw [upd_self, ht, List.filter_append, List.filter_cons, if_pos hf, List.map_append]
        rfl
    · rw [ha, ht, List.filter_append, List.filter_cons, if_neg (by simp [hf])]
      simp
  · rintro st ⟨H, lc, rfl, _, hH, ha⟩
    rw [List.take_length] at ha
    exact ⟨rfl, q H hH ha⟩
end Mine
end

section
open PySem PySem.W
set_option maxRecDepth 100000
namespace Mine
variable {st : St} {dep un : Nat} {i j w k q : Nat} {R rows : Nat → List Nat} {r : Nat → Nat} {sc : Sc}

def nums (l : List Nat) : List AV := l.map fun a : Nat => AV.int (a : Int)
theorem intsOf_nums : ∀ l : List Nat, intsOf (nums l) = some (l.map fun a : Nat => (a : Int))
  | [] => rfl
  | a :: l => by
    have := intsOf_nums l
    unfold nums at this
    simp only [nums, List.map_cons, intsOf, this, Option.map_some]
theorem map_int_inj : ∀ {x y : List Nat}, (x.map fun a : Nat => (a : Int)) = (y.map fun a : Nat => (a : Int)) ↔ x = y
  | [], [] => by simp
  | [], b :: y => by simp
  | a :: x, [] => by simp
  | a :: x, b :: y => by
    simp only [List.map_cons, List.cons.injEq, map_int_inj (x := x)]
    constructor
    · rintro ⟨h, h'⟩; exact ⟨by omega, h'⟩
    · rintro ⟨h, h'⟩; exact ⟨by omega, h'⟩
theorem len_nums (l : List Nat) : (nums l).length = l.length := List.length_map _
theorem eqv_nums {x y : List Nat} (hi : st.H i = some (.list (nums x))) (hj : st.H j = some (.list (nums y))) (h1 : x.length < 1000) (h2 : y.length < 1000) : eqv st (.obj i) (.obj j) = some (decide (x = y)) := by
  unfold eqv
  simp only [hi, hj, intsOf_nums, len_nums]
  rw [if_pos ⟨h1, h2⟩]
  congr 1
  exact decide_eq_decide.mpr map_int_inj
def bools (l : List Bool) : List AV := l.map AV.bool
theorem boolsOf_bools : ∀ l : List Bool, boolsOf (bools l) = some l
  | [] => rfl
  | a :: l => by
    have := boolsOf_bools l
    unfold bools at this
    simp only [bools, List.map_cons, boolsOf, this, Option.map_some]
theorem eqv_bools {x y : List Bool} (hi : st.H i = some (.list (bools x))) (hj : st.H j = some (.list (bools y))) (hx : x ≠ []) (h1 : x.length < 1000) (h2 : y.length < 1000) : eqv st (.obj i) (.obj j) = some (decide (x = y)) := by
  unfold eqv
  simp only [hi, hj]
  have e : intsOf (bools x) = none := by
    cases x with
    | nil => exact absurd rfl hx
    | cons b x => rfl
  simp only [e, boolsOf_bools]
  rw [if_pos ⟨by unfold bools; simpa using h1, by unfold bools; simpa using h2⟩]
theorem idxH (hk : k < 3) : idx [.obj 12, .obj 13, .obj 14] (k : Int) = some (.obj (12 + k)) := by
  have : k = 0 ∨ k = 1 ∨ k = 2 := by omega
  rcases this with rfl | rfl | rfl <;> rfl
theorem idxR (hk : k < 3) : idx [.obj (r 0), .obj (r 1), .obj (r 2)] (k : Int) = some (.obj (r k)) := by
  have : k = 0 ∨ k = 1 ∨ k = 2 := by omega
  rcases this with rfl | rfl | rfl <;> rfl

/-- the cell of a name -/
def cellAt (sc : Sc) (x : Str) : Option Nat := if x = "__debug__" ∨ x = "__classdict__" then none else
  match sc.scope.names.lookup x with
  | some .cell | some .free => sc.cells.lookup x
  | _ => none
theorem rd_cell {x v} (h : cellAt sc x = some i) (hi : st.H i = some (.cell (some v))) : rd sc st x = some v := by
  unfold cellAt at h
  unfold rd
  split at h
  · cases h
  · rename_i hd
    rw [if_neg hd]
    split at h
    · rename_i e
      rw [e]
      simp only [h, hi]
    · rename_i e
      rw [e]
      simp only [h, hi]
    · cases h
def ownCell (sc : Sc) (x : Str) : Option Nat := match sc.scope.names.lookup x with
  | some .cell => sc.cells.lookup x
  | _ => none
theorem wr_cell {x v o} (h : ownCell sc x = some i) (hi : st.H i = some (.cell o)) : wr sc st x v = some { st with H := upd st.H i (.cell (some v)) } := by
  unfold ownCell at h
  unfold wr
  split at h
  · rename_i e
    rw [e]
    simp only [h, hi]
  · cases h

/-- the lists, the nodes and the rows -/
structure Frm (st : St) (q : Nat) (r : Nat → Nat) (rows : Nat → List Nat) : Prop where
  n : 27 ≤ st.n
  wld : Wld st fun k => (rows k).map (· + 16)
  lists : st.H 11 = some (.list [.obj 12, .obj 13, .obj 14])
  nodes : st.H 16 = some (.list [.obj 17, .obj 18, .obj 19, .obj 20, .obj 21, .obj 22])
  hq : 23 ≤ q ∧ q < st.n
  hr : ∀ k, k < 3 → 23 ≤ r k ∧ r k < st.n ∧ r k ≠ q
  hrows : st.H q = some (.list [.obj (r 0), .obj (r 1), .obj (r 2)])
  row : ∀ k, k < 3 → st.H (r k) = some (.list (nums (rows k)))
/-- old objects stand -/
structure Grw (st st' : St) : Prop where
  n : st.n ≤ st'.n
  H : ∀ a, a < st.n → st'.H a = st.H a
theorem Grw.refl (st : St) : Grw st st := ⟨Nat.le_refl _, fun _ _ => rfl⟩
theorem Grw.trans {a b c : St} (x : Grw a b) (y : Grw b c) : Grw a c := ⟨Nat.le_trans x.n y.n, fun i hi => (y.H i (Nat.lt_of_lt_of_le hi x.n)).trans (x.H i hi)⟩
theorem Grw.add (st : St) (o : AO) : Grw st (st.add o) := ⟨Nat.le_succ _, fun a ha => upd_ne _ _ (by omega)⟩
theorem Frm.grow {st' : St} (F : Frm st q r rows) (G : Grw st st') : Frm st' q r rows where
  n := Nat.le_trans F.n G.n
  wld := F.wld.of (G.H 9 (by have := F.n; omega)) (fun i hi => G.H i (by have := hi.lt; have := F.n; omega))
  lists := (G.H 11 (by have := F.n; omega)).trans F.lists
  nodes := (G.H 16 (by have := F.n; omega)).trans F.nodes
  hq := ⟨F.hq.1, Nat.lt_of_lt_of_le F.hq.2 G.n⟩
  hr := fun k hk => ⟨(F.hr k hk).1, Nat.lt_of_lt_of_le (F.hr k hk).2.1 G.n, (F.hr k hk).2.2⟩
  hrows := (G.H q F.hq.2).trans F.hrows
  row := fun k hk => (G.H (r k) (F.hr k hk).2.1).trans (F.row k hk)
theorem Frm.len (F : Frm st q r rows) (hk : k < 3) : (rows k).length ≤ 6 := by
  have := F.wld.len hk
  simpa using this
/-- lists[k] and rows[k] -/
theorem k_lists {Q : AV → St → Prop} {l lp s p} (F : Frm st q r rows) (hk : k < 3) (hl : rd sc st l = some (.obj 11)) (hs : noSlice s = true) (h : We sc st s fun v st' => v = .int k ∧ st'.H 11 = st.H 11 ∧ Q (.obj (12 + k)) st') : We sc st (.Subscript (.Name l lp) s p) Q := by
  refine we_sub hs (we_name hl (W2.mono h ?_))
  rintro v st' ⟨rfl, e, q⟩
  exact ⟨11, k, _, _, rfl, rfl, e.trans F.lists, ⟨by omega, by omega, by decide⟩, idxH hk, q⟩
theorem k_rows {Q : AV → St → Prop} {l lp s p} (F : Frm st q r rows) (hk : k < 3) (hl : rd sc st l = some (.obj q)) (hs : noSlice s = true) (h : We sc st s fun v st' => v = .int k ∧ st'.H q = st.H q ∧ Q (.obj (r k)) st') : We sc st (.Subscript (.Name l lp) s p) Q := by
  refine we_sub hs (we_name hl (W2.mono h ?_))
  rintro v st' ⟨rfl, e, q'⟩
  exact ⟨q, k, _, _, rfl, rfl, e.trans F.hrows, ⟨by omega, by omega, by simp⟩, idxR hk, q'⟩
end Mine
end

section
open PySem PySem.W
set_option maxRecDepth 100000
namespace Mine
variable {dep un n n0 : Nat} {i j w k q : Nat} {R rows : Nat → List Nat} {r : Nat → Nat} {H : Nat → Option AO} {loc rest : List (Str × AV)}

def F247 : {F : Fn // T 247 = some F} := ⟨_, rfl⟩
def sc247 (n0 dep un : Nat) : Sc := { scope := F247.1.scope, cells := [("lists", n0), ("rows", n0 + 1), ("k", n0 + 2), ("on", n0 + 3)], dep := dep, un := un }
def forBody : Stmt → List Stmt
  | .For _ _ b _ _ => b
  | _ => []
def nth (l : List Stmt) (i : Nat) : Stmt := l.getD i (.Pass ⟨0, 0, 0, 0⟩)
def turn247 : List Stmt := forBody (nth F247.1.body 0)
/-- a state in _law_alike -/
structure K (H : Nat → Option AO) (n : Nat) (n0 q k : Nat) (r : Nat → Nat) (rows : Nat → List Nat) : Prop where
  hn : n0 + 4 ≤ n
  c0 : H n0 = some (.cell (some (.obj 11)))
  c1 : H (n0 + 1) = some (.cell (some (.obj q)))
  c2 : H (n0 + 2) = some (.cell (some (.int k)))
  F : Frm { H := H, n := n, loc := [] } q r rows
theorem Frm.at {loc loc'} (F : Frm { H := H, n := n, loc := loc } q r rows) : Frm { H := H, n := n, loc := loc' } q r rows := F.grow ⟨Nat.le_refl _, fun _ _ => rfl⟩
theorem K.grow {H' n'} (h : K H n n0 q k r rows) (hn : n ≤ n') (hH : ∀ a, a < n → H' a = H a) : K H' n' n0 q k r rows :=
  ⟨Nat.le_trans h.hn hn, (hH _ (by have := h.hn; omega)).trans h.c0, (hH _ (by have := h.hn; omega)).trans h.c1, (hH _ (by have := h.hn; omega)).trans h.c2, h.F.grow ⟨hn, hH⟩⟩
theorem int_of {a b : Nat} (h : a = b) : AV.int (a : Int) = AV.int (b : Int) := by rw [h]
def pathOf : AV → AV
  | .obj w => .int ((w - 16 : Nat) : Int)
  | v => v
theorem paths (l : List Nat) : (((l.map (· + 16)).map AV.obj).filter fun _ => true).map pathOf = nums l := by
  rw [List.filter_eq_self.mpr (fun _ _ => rfl)]
  simp [nums, pathOf, Function.comp_def]

theorem a1 {Q : AFl → St → Prop} (hd : dep < 700) (hu : un < 8000) (h : K H n n0 q k r rows) (hk : k < 3) (q' : ∀ H' n', n ≤ n' → (∀ a, a < n → H' a = H a) → Q .next { H := H', n := n', loc := loc }) : W1 (sc247 n0 dep un) { H := H, n := n, loc := loc } (nth turn247 0) Q := by
  have F := h.F
  refine w1_if (wt_or (wt_cmp (by decide) (comp_src rfl rfl rfl (k_lists F.at hk (rd_cell rfl h.c0) rfl (we_name (rd_cell rfl h.c2) ⟨rfl, rfl, ?_⟩)))))
  refine ⟨_, fun _ => true, pathOf, src_ring hk (by dsimp only [sc247]; omega) (by dsimp only [sc247]; omega) F.at.wld F.n, by simp; have := F.len hk; omega, ?_, ?_⟩
  · intro v hv H' hH'
    simp only [List.mem_map] at hv
    obtain ⟨w, ⟨a, ha, rfl⟩, rfl⟩ := hv
    have F' := (F.grow (st' := { H := H', n := n + 1, loc := [] }) ⟨by dsimp only; omega, hH'⟩)
    exact wts_nil ⟨rfl, rfl, fun _ => k_path (by dsimp only [sc247]; omega) (by dsimp only [sc247]; omega) rfl F'.at.wld (F'.wld.nod hk (List.mem_map.mpr ⟨a, ha, rfl⟩)) ⟨rfl, rfl⟩⟩
  · intro H' hH' ha
    have F' := (F.grow (st' := { H := H', n := n + 1, loc := [] }) ⟨by dsimp only; omega, hH'⟩)
    have h' := h.grow (n' := n + 1) (by omega) hH'
    rw [paths] at ha
    refine k_rows F'.at hk (rd_cell rfl h'.c1) rfl (we_name (rd_cell rfl h'.c2) ⟨rfl, rfl, false, ?_, ?_⟩)
    · show (eqv _ _ _).map not = _
      exact (congrArg (Option.map not) (eqv_nums ha (F'.row k hk) (by have := F.len hk; omega) (by have := F.len hk; omega))).trans (by rw [decide_eq_true rfl]; rfl)
    refine wt_cmp (by decide) (k_list rfl (by decide) rfl (by decide) hk (k_lists F'.at hk (rd_cell rfl h'.c0) rfl (we_name (rd_cell rfl h'.c2) ⟨rfl, rfl, rfl, ⟨_, F'.at.wld⟩, ws_nil ?_⟩)))
    refine (e42 (by dsimp only [sc247]; omega) (by dsimp only [sc247]; omega) F'.at.wld hk).mono ?_
    rintro _ _ ⟨rfl, rfl⟩
    refine we_cmp (by decide) (k_rows F'.at hk (rd_cell rfl h'.c1) rfl (we_name (rd_cell rfl h'.c2) ⟨rfl, rfl, we_list (ws_nil ⟨by decide, ?_⟩)⟩))
    refine ⟨_, eqv_nums (x := rows k) (y := []) ?_ ?_ (by have := F.len hk; omega) (by decide), false, ?_, ?_⟩
    · exact (upd_ne _ _ (by have := (F'.hr k hk).2.1; dsimp only at this; dsimp only; omega)).trans (F'.row k hk)
    · exact upd_self _ _ _
    · show some (!decide (_ = _)) = _
      cases e : rows k <;> simp
    · refine wx_nil (q' _ (n + 2) (by omega) fun a ha => ?_)
      exact (upd_ne _ _ (by dsimp only; omega)).trans (hH' a ha)
end Mine
end

section
open PySem PySem.W
set_option maxRecDepth 100000
namespace Mine
variable {dep un n n0 : Nat} {i j w k q b : Nat} {R rows : Nat → List Nat} {r : Nat → Nat} {H : Nat → Option AO} {loc rest : List (Str × AV)}

theorem k_hd' {sc st} {Q : AV → St → Prop} {o p} (hc : isCall o = false) (hk : k < 3) (h : We sc st o fun v st => v = .obj (12 + k) ∧ (∃ R, Wld st R) ∧ Q (.obj (12 + k)) st) : We sc st (.Attribute o "head" p) Q := by
  refine we_attr hc (W2.mono h ?_)
  rintro v st ⟨rfl, ⟨R, nx, pv, S, X⟩, q⟩
  obtain ⟨C, F, e, f⟩ := S.ob (12 + k) (U.hd hk)
  rcases f.kind with ⟨_, rfl, h1, h2⟩ | ⟨h', _⟩
  · exact ⟨_, 101, F, _, rfl, e, by decide, .inl ⟨rfl, .inl rfl⟩, h1, rfl, q⟩
  · omega
def base (rest : List (Str × AV)) : List (Str × AV) := (("kind" : Str), AV.obj 9) :: (("nodes" : Str), AV.obj 16) :: rest

theorem a2 {Q : AFl → St → Prop} (hd : dep < 700) (hu : un < 8000) (h : K H n n0 q k r rows) (hk : k < 3)
    (q' : ∀ H' p rest', (∀ a, a < n → H' a = H a) → H' n = some (.list []) → ((12 + k) :: (rows k).map (· + 16)).getLast? = some p → rest'.lookup ("back" : Str) = some (.obj n) → rest'.lookup ("node" : Str) = some (.obj p) → Q .next { H := H', n := n + 1, loc := base rest' }) :
    W1 (sc247 n0 dep un) { H := H, n := n, loc := base rest } (nth turn247 1) Q := by
  have F := h.F
  refine w1_tup ["back", "node"] (by kernel_rfl) (ws_cons (we_list (ws_nil ⟨by decide, ws_cons ?_⟩)))
  have hH : ∀ a, a < n → upd H n (.list []) a = H a := fun a ha => upd_ne _ _ (by omega)
  have h' := h.grow (n' := n + 1) (by omega) hH
  have F' := h'.F
  obtain ⟨p, hp⟩ : ∃ p, ((12 + k) :: (rows k).map (· + 16)).getLast? = some p := ⟨_, List.getLast?_eq_some_getLast (by simp)⟩
  refine we_meth (by decide) (by decide) (we_name rfl ⟨9, 193, [], 155, rfl, F'.wld.kd, rfl, rfl, ws_cons (k_hd' rfl hk (k_lists F'.at hk (rd_cell rfl h'.c0) rfl (we_name (rd_cell rfl h'.c2) ⟨rfl, rfl, rfl, ⟨_, F'.at.wld⟩, ws_nil ?_⟩)))⟩)
  refine (d155 (by dsimp only [sc247]; omega) (by dsimp only [sc247]; omega) F'.at.wld hk (l := (rows k).map (· + 16)) (m := []) (by simp) hp rfl).mono ?_
  rintro _ _ ⟨rfl, rfl⟩
  refine ws_nil ⟨_, rfl, ?_⟩
  exact q' _ p (setA "node" (.obj p) (setA "back" (.obj n) rest)) hH (upd_self _ _ _) hp ((lookup_setA _ _ _ _).trans ((if_neg (by decide)).trans (lookup_here _ _ _))) (lookup_here _ _ _)

theorem K.cut (h : K H n n0 q k r rows) (hb0 : 27 ≤ b ∧ n0 + 4 ≤ b) (hbq : q < b) (hbr : ∀ k, k < 3 → r k < b) : K H b n0 q k r rows :=
  ⟨hb0.2, h.c0, h.c1, h.c2, hb0.1, h.F.wld.of rfl fun _ _ => rfl, h.F.lists, h.F.nodes, ⟨h.F.hq.1, hbq⟩, fun k hk => ⟨(h.F.hr k hk).1, hbr k hk, (h.F.hr k hk).2.2⟩, h.F.hrows, h.F.row⟩
theorem K.low {H'} {n' : Nat} (h : K H n n0 q k r rows) (hb0 : 27 ≤ b ∧ n0 + 4 ≤ b) (hbq : q < b) (hbr : ∀ k, k < 3 → r k < b) (hn : b ≤ n') (hH : ∀ a, a < b → H' a = H a) : K H' n' n0 q k r rows := (h.cut hb0 hbq hbr).grow hn hH
theorem nums_snoc (l : List Nat) (a : Nat) : nums l ++ [.int (a : Int)] = nums (l ++ [a]) := by simp [nums]
theorem a3 {Q : AFl → St → Prop} (hd : dep < 700) (hu : un < 8000) (h : K H n n0 q k r rows) (hk : k < 3) (hb0 : 27 ≤ b ∧ n0 + 4 ≤ b) (hbn : b < n) (hbq : q < b) (hbr : ∀ k, k < 3 → r k < b) (hb : H b = some (.list [])) {p : Nat} (hp : ((12 + k) :: (rows k).map (· + 16)).getLast? = some p) (l1 : rest.lookup ("back" : Str) = some (.obj b)) (l2 : rest.lookup ("node" : Str) = some (.obj p))
    (q' : ∀ H' n' rest', n ≤ n' → (∀ a, a < b → H' a = H a) → K H' n' n0 q k r rows → H' b = some (.list (nums (rows k).reverse)) → rest'.lookup ("back" : Str) = some (.obj b) → Q .next { H := H', n := n', loc := base rest' }) :
    W1 (sc247 n0 dep un) { H := H, n := n, loc := base rest } (nth turn247 2) Q := by
  have F := h.F
  have hlen := F.len hk
  refine w1_for (we_range rfl (ws_cons (we_int (ws_nil ⟨7, rfl, by decide, by decide, ?_⟩))))
  have hH : ∀ a, a < n → upd H n (.range 7) a = H a := fun a ha => upd_ne _ _ (by omega)
  have h' := h.grow (n' := n + 1) (by omega) hH
  refine wl_range (z := 7) (i := n) (upd_self _ _ _) (by decide)
    (fun t st => ∃ H' rest' l m p, st = { H := H', n := n + 1, loc := base rest' } ∧ (∀ a, a < n + 1 → a ≠ b → H' a = upd H n (.range 7) a) ∧ rows k = l ++ m ∧ m.length = t ∧ H' b = some (.list (nums m.reverse)) ∧ ((12 + k) :: l.map (· + 16)).getLast? = some p ∧ rest'.lookup ("back" : Str) = some (.obj b) ∧ rest'.lookup ("node" : Str) = some (.obj p))
    (fun st => ∃ H' rest', st = { H := H', n := n + 1, loc := base rest' } ∧ (∀ a, a < n + 1 → a ≠ b → H' a = upd H n (.range 7) a) ∧ H' b = some (.list (nums (rows k).reverse)) ∧ rest'.lookup ("back" : Str) = some (.obj b)) ?_ ?_ ?_ ?_
  · exact ⟨_, rest, rows k, [], p, rfl, fun _ _ _ => rfl, by simp, rfl, (hH b hbn).trans hb, hp, l1, l2⟩
  · rintro t st ht ⟨H', rest', l, m, p, rfl, hH', e, hm, hb', hp, l1', l2'⟩
    have hlow : ∀ a, a < b → H' a = H a := fun a ha => (hH' a (by omega) (by omega)).trans (hH a (by omega))
    have h' := h.low (n' := n + 1) hb0 hbq hbr (by omega) hlow
    have F' := h'.F
    have X : ∃ nx pv, Sto { H := H', n := n + 1, loc := [] } nx pv ∧ Rings nx pv fun k => (rows k).map (· + 16) := F'.wld
    obtain ⟨nx, pv, S, X⟩ := X
    refine wb_for ⟨_, rfl, ?_⟩
    have l1'' : (setA "turn" (.int (t : Int)) rest').lookup ("back" : Str) = some (.obj b) := (lookup_setA _ _ _ _).trans ((if_neg (by decide)).trans l1')
    have l2'' : (setA "turn" (.int (t : Int)) rest').lookup ("node" : Str) = some (.obj p) := (lookup_setA _ _ _ _).trans ((if_neg (by decide)).trans l2')
    have hpU : U p := by
      have := mem_last hp
      simp at this
      rcases this with rfl | ⟨a, ha, rfl⟩
      · exact U.hd hk
      · exact .nd (F'.wld.nod hk (List.mem_map.mpr ⟨a, by rw [e]; simp [ha], rfl⟩))
    refine wx_one (w1_if (wt_cmp (by decide) (we_name (rd_loc rfl l2'') (k_hd' rfl hk (k_lists F'.at hk (rd_cell rfl h'.c0) rfl (we_name (rd_cell rfl h'.c2) ⟨rfl, rfl, rfl, ⟨_, F'.at.wld⟩, _, same_oo S.loc hpU (U.hd hk), br (fun e2 => ?_) (fun e2 => ?_)⟩))))))
    · have e2 := of_decide_eq_true e2
      refine wx_one (w1_break (.inr ⟨rfl, H', _, rfl, hH', ?_, l1''⟩))
      have : l = [] := by
        rcases List.eq_nil_or_concat l with rfl | ⟨l, a, rfl⟩
        · rfl
        · rw [List.concat_eq_append] at e hp
          rw [List.map_append, List.map_cons, List.map_nil, lastc] at hp
          cases hp
          have := F'.wld.nod hk (List.mem_map.mpr ⟨a, by rw [e]; simp, rfl⟩)
          omega
      subst this
      rw [List.nil_append] at e
      rw [hb', e]
    · have e2 := of_decide_eq_false e2
      obtain ⟨l', a, rfl⟩ : ∃ l' a, l = l' ++ [a] := by
        rcases List.eq_nil_or_concat l with rfl | h
        · simp at hp; exact absurd hp.symm e2
        · obtain ⟨l', a, h⟩ := h
          exact ⟨l', a, by rw [h, List.concat_eq_append]⟩
      rw [List.map_append, List.map_cons, List.map_nil, lastc] at hp
      cases hp
      have hA := F'.wld.nod hk (List.mem_map.mpr ⟨a, by rw [e]; simp, rfl⟩)
      refine wx_nil (wx_one (w1_expr (we_append (by decide) (we_name (rd_loc rfl l1'') ⟨b, _, rfl, hb', ws_cons (k_path (by dsimp only [sc247]; omega) (by dsimp only [sc247]; omega) (rd_loc rfl l2'') F'.at.wld hA (ws_nil ⟨_, _, rfl, hb', ?_, rfl, ?_⟩))⟩))))
      · rw [len_nums, List.length_reverse]; omega
      have hlow2 : ∀ x, x < b → upd H' b (.list (nums m.reverse ++ [.int (((a + 16 - 16 : Nat)) : Int)])) x = H x := fun x hx => (upd_ne _ _ (by omega)).trans (hlow x hx)
      have h2 := h.low (n' := n + 1) hb0 hbq hbr (by omega) hlow2
      have F2 := h2.F
      obtain ⟨p2, hp2⟩ : ∃ p, ((12 + k) :: l'.map (· + 16)).getLast? = some p := ⟨_, List.getLast?_eq_some_getLast (by simp)⟩
      refine wx_one (w1_set (we_meth (by decide) (by decide) (we_name rfl ⟨9, 193, [], 155, rfl, F2.wld.kd, rfl, rfl, ws_cons (we_name (rd_loc rfl l2'') (ws_nil ?_))⟩)))
      refine (d155 (by dsimp only [sc247]; omega) (by dsimp only [sc247]; omega) F2.at.wld hk (l := l'.map (· + 16)) (m := (a + 16) :: m.map (· + 16)) (by rw [e]; simp) hp2 rfl).mono ?_
      rintro _ _ ⟨rfl, rfl⟩
      refine ⟨_, rfl, wx_nil (.inl ⟨rfl, _, _, l', a :: m, p2, rfl, ?_, ?_, ?_, ?_, hp2, ?_, lookup_here _ _ _⟩)⟩
      · exact fun x hx hxb => (upd_ne _ _ hxb).trans (hH' x hx hxb)
      · rw [e]; simp
      · simp [hm]
      · refine (upd_self _ _ _).trans ?_
        rw [show a + 16 - 16 = a by omega, nums_snoc, List.reverse_cons]
      · exact (lookup_setA _ _ _ _).trans ((if_neg (by decide)).trans l1'')
  · rintro st ⟨H', rest', l, m, p, rfl, _, e, hm, _⟩
    rw [e, List.length_append] at hlen
    omega
  · rintro st ⟨H', rest', rfl, hH', hb', l1'⟩
    have hlow : ∀ a, a < b → H' a = H a := fun a ha => (hH' a (by omega) (by omega)).trans (hH a (by omega))
    exact (q' H' (n + 1) rest' (by omega) hlow (h.low hb0 hbq hbr (by omega) hlow) hb' l1')
end Mine
end

section
open PySem PySem.W
set_option maxRecDepth 100000
namespace Mine
variable {dep un n n0 : Nat} {i j w k q b : Nat} {R rows : Nat → List Nat} {r : Nat → Nat} {H : Nat → Option AO} {loc rest : List (Str × AV)}

def backOf (l : List Nat) : AV → AV
  | .int t => (idx (nums l) (-1 - t)).getD .none
  | v => v
theorem idx_back {l : List Nat} {t : Nat} (h : t < l.length) : idx (nums l) (-1 - (t : Int)) = (nums l.reverse)[t]? := by
  unfold idx
  rw [if_neg (by omega), if_pos (by rw [len_nums]; omega), len_nums]
  rw [show (-1 - (t : Int) + (l.length : Int)).toNat = l.length - 1 - t by omega]
  unfold nums
  rw [List.getElem?_map, List.getElem?_map, List.getElem?_reverse h]
theorem nums_get {l : List Nat} {t : Nat} (h : t < l.length) : ∃ v, (nums l)[t]? = some v := ⟨_, List.getElem?_eq_getElem (by rw [len_nums]; exact h)⟩
theorem idx_tail {l : List Nat} {t : Nat} (h : t < l.length) : idx (nums l) (-1 - (t : Int)) = some (backOf l (.int t)) := by
  obtain ⟨v, hv⟩ := nums_get (l := l.reverse) (t := t) (by rw [List.length_reverse]; exact h)
  show _ = some ((idx (nums l) (-1 - (t : Int))).getD .none)
  rw [idx_back h, hv]; rfl
theorem backs (l : List Nat) : (((List.range l.length).map fun t : Nat => AV.int (t : Int)).filter fun _ => true).map (backOf l) = nums l.reverse := by
  rw [List.filter_eq_self.mpr (fun _ _ => rfl)]
  apply List.ext_getElem?
  intro t
  rw [List.getElem?_map, List.getElem?_map]
  rcases Nat.lt_or_ge t l.length with h | h
  · rw [List.getElem?_range h, ← idx_back h, idx_tail h]; rfl
  · rw [List.getElem?_eq_none_iff.mpr (by simpa using h), List.getElem?_eq_none_iff.mpr (by rw [len_nums, List.length_reverse]; exact h)]; rfl

theorem a4 {Q : AFl → St → Prop} (hd : dep < 700) (hu : un < 8000) (h : K H n n0 q k r rows) (hk : k < 3) (hbn : b < n) (hb : H b = some (.list (nums (rows k).reverse))) (l1 : rest.lookup ("back" : Str) = some (.obj b))
    (q' : ∀ H' n', n ≤ n' → (∀ a, a < n → H' a = H a) → Q .next { H := H', n := n', loc := base rest }) : W1 (sc247 n0 dep un) { H := H, n := n, loc := base rest } (nth turn247 3) Q := by
  have F := h.F
  have hlen := F.len hk
  have hH : ∀ a, a < n → upd H n (.range (rows k).length) a = H a := fun a ha => upd_ne _ _ (by omega)
  have h1 := h.grow (n' := n + 1) (by omega) hH
  have F1 := h1.F
  refine w1_if (wt_cmp (by decide) (we_name (rd_loc rfl l1) (comp_src rfl rfl rfl (we_range rfl (ws_cons (we_len rfl (ws_cons (k_rows F.at hk (rd_cell rfl h.c1) rfl (we_name (rd_cell rfl h.c2) ⟨rfl, rfl, ws_nil ⟨r k, _, rfl, F.row k hk, by rw [len_nums]; omega, ws_nil ⟨((rows k).length : Nat), by rw [len_nums], by omega, by omega, ?_⟩⟩⟩)))))))))
  refine ⟨_, fun _ => true, backOf (rows k), src_range (z := (rows k).length) (upd_self _ _ _) (Nat.lt_succ_self _) (by omega), by simp; omega, ?_, ?_⟩
  · intro v hv H' hH'
    simp only [List.mem_map, List.mem_range] at hv
    obtain ⟨t, ht, rfl⟩ := hv
    have h2 := h1.grow (H' := H') (n' := n + 2) (by omega) hH'
    have F2 := h2.F
    refine wts_nil ⟨rfl, rfl, fun _ => ?_⟩
    refine we_sub rfl (k_rows F2.at hk (rd_cell rfl h2.c1) rfl (we_name (rd_cell rfl h2.c2) ⟨rfl, rfl, ?_⟩))
    refine we_bin (we_neg (we_int ⟨1, rfl, we_name rfl ⟨_, _, rfl, r k, _, nums (rows k), _, rfl, rfl, F2.row k hk, ?_, idx_tail ht, rfl, rfl⟩⟩))
    rw [len_nums]
    omega
  · intro H' hH' ha
    rw [backs] at ha
    have h2 := h1.grow (H' := H') (n' := n + 2) (by omega) hH'
    refine ⟨false, ?_, wx_nil (q' H' (n + 2) (by omega) fun a ha => (hH' a (Nat.lt_succ_of_lt ha)).trans (hH a ha))⟩
    show (eqv _ _ _).map not = _
    refine (congrArg (Option.map not) (eqv_nums (x := (rows k).reverse) (y := (rows k).reverse) ?_ ha (by rw [List.length_reverse]; omega) (by rw [List.length_reverse]; omega))).trans (by rw [decide_eq_true rfl]; rfl)
    exact ((hH' b (Nat.lt_succ_of_lt hbn)).trans (hH b hbn)).trans hb
end Mine
end

section
open PySem PySem.W
set_option maxRecDepth 100000
namespace Mine
variable {st : St} {dep un n n0 : Nat} {i j w k q b : Nat} {R rows : Nat → List Nat} {r : Nat → Nat} {H : Nat → Option AO} {loc rest : List (Str × AV)}

theorem bin_add {xs ys} (hi : st.H i = some (.list xs)) (hj : st.H j = some (.list ys)) (hl : xs.length + ys.length < 1000) : bin st .Add (.obj i) (.obj j) = some (.obj st.n, st.add (.list (xs ++ ys))) := by
  simp only [bin, hi, hj]
  rw [if_pos hl]
theorem cmp_in {x : Int} {l : List Nat} (hj : st.H j = some (.list (nums l))) (hl : l.length < 1000) : cmp st .In (.int x) (.obj j) = some (decide (x ∈ l.map fun a : Nat => (a : Int))) := by
  simp only [cmp, hj, intsOf_nums]
  rw [if_pos (by rw [len_nums]; exact hl)]
def N6 : List Nat := [17, 18, 19, 20, 21, 22]
def onOf (R : Nat → List Nat) : AV → AV
  | .obj w => .bool (onR R w)
  | v => v
def inOf (l : List Nat) : AV → AV
  | .obj w => .bool (decide (((w - 16 : Nat) : Int) ∈ l.map fun a : Nat => (a : Int)))
  | v => v
theorem same_on (h : 17 ≤ w ∧ w ≤ 22) : decide (((w - 16 : Nat) : Int) ∈ (rows 0 ++ rows 1 ++ rows 2).map fun a : Nat => (a : Int)) = onR (fun k => (rows k).map (· + 16)) w := by
  rw [Bool.eq_iff_iff, decide_eq_true_iff, onR_iff]
  simp only [List.mem_map, List.mem_append]
  constructor
  · rintro ⟨a, ha, e⟩
    have : a + 16 = w := by omega
    rcases ha with (ha | ha) | ha
    · exact ⟨0, by omega, a, ha, this⟩
    · exact ⟨1, by omega, a, ha, this⟩
    · exact ⟨2, by omega, a, ha, this⟩
  · rintro ⟨k, hk, a, ha, e⟩
    refine ⟨a, ?_, by omega⟩
    have : k = 0 ∨ k = 1 ∨ k = 2 := by omega
    rcases this with rfl | rfl | rfl
    · exact .inl (.inl ha)
    · exact .inl (.inr ha)
    · exact .inr ha
theorem nums_app (a b : List Nat) : nums a ++ nums b = nums (a ++ b) := by simp [nums]
theorem idx0 : (0 : Int) = ((0 : Nat) : Int) := rfl

theorem filt_true (l : List AV) : (l.filter fun _ => true) = l := List.filter_eq_self.mpr (fun _ _ => rfl)
theorem ret247 {Q : AFl → St → Prop} (hd : dep < 700) (hu : un < 8000) (F : Frm { H := H, n := n, loc := base rest } q r rows) (hn : n0 + 4 ≤ n) (c0 : H n0 = some (.cell (some (.obj 11)))) (c3 : H (n0 + 3) = some (.cell (some (.obj b)))) (hb : b < n)
    (hbl : H b = some (.list (nums (rows 0 ++ rows 1 ++ rows 2)))) (q' : ∀ st', Grw { H := H, n := n, loc := base rest } st' → Q (.ret (.bool true)) st') : W1 (sc247 n0 dep un) { H := H, n := n, loc := base rest } (nth F247.1.body 2) Q := by
  have hn27 := F.n
  dsimp only at hn27
  have mem6 : ∀ {v : AV}, v ∈ N6.map AV.obj → ∃ w, v = .obj w ∧ 17 ≤ w ∧ w ≤ 22 := by
    intro v hv
    obtain ⟨w, hw, rfl⟩ := List.mem_map.mp hv
    exact ⟨w, rfl, by simp [N6] at hw; omega⟩
  refine w1_ret (we_cmp (by decide) (comp_src rfl rfl rfl (we_name rfl ⟨N6.map .obj, fun _ => true, onOf fun k => (rows k).map (· + 16), src_list F.nodes (by dsimp only; omega) (by decide), by decide, ?_, ?_⟩)))
  · intro v hv H' hH'
    obtain ⟨w, rfl, hw⟩ := mem6 hv
    have F' := F.grow (st' := { H := H', n := n + 1, loc := [] }) ⟨by dsimp only; omega, hH'⟩
    have c0' : H' n0 = _ := (hH' n0 (by dsimp only; omega)).trans c0
    have h16 : ((w - 16 : Nat) : Int) % 3 = (((w - 16) % 3 : Nat) : Int) := by omega
    refine wts_nil ⟨rfl, rfl, fun _ => ?_⟩
    refine k_list (k := (w - 16) % 3) rfl (by decide) rfl (by decide) (Nat.mod_lt _ (by decide)) (k_lists (k := (w - 16) % 3) F'.at (Nat.mod_lt _ (by decide)) (rd_cell rfl c0') rfl (we_bin (k_path (by dsimp only [sc247]; omega) (by dsimp only [sc247]; omega) rfl F'.at.wld hw (we_int ⟨_, _, rfl, by rw [← h16], rfl, rfl, ⟨_, F'.at.wld⟩, ws_cons (we_name rfl (ws_nil ?_))⟩))))
    refine (e56 (by dsimp only [sc247]; omega) (by dsimp only [sc247]; omega) F'.at.wld (Nat.mod_lt _ (by decide)) hw).mono ?_
    rintro _ _ ⟨rfl, rfl⟩
    exact ⟨rfl, rfl⟩
  · intro H2 hH2 ha
    rw [filt_true] at ha
    have F2 : Frm { H := H2, n := n + 1, loc := base rest } q r rows := F.grow ⟨by dsimp only; omega, hH2⟩
    have c32 : H2 (n0 + 3) = _ := (hH2 _ (by dsimp only; omega)).trans c3
    have hbl2 : H2 b = _ := (hH2 _ (by dsimp only; omega)).trans hbl
    refine comp_src rfl rfl rfl (we_name rfl ⟨N6.map .obj, fun _ => true, inOf (rows 0 ++ rows 1 ++ rows 2), src_list F2.nodes (by dsimp only; omega) (by decide), by decide, ?_, ?_⟩)
    · intro v hv H' hH'
      obtain ⟨w, rfl, hw⟩ := mem6 hv
      have F' := F2.grow (st' := { H := H', n := n + 2, loc := [] }) ⟨by dsimp only; omega, hH'⟩
      have c3' : H' (n0 + 3) = _ := (hH' _ (by dsimp only; omega)).trans c32
      have hbl' : H' b = _ := (hH' _ (by dsimp only; omega)).trans hbl2
      have h0 := F.len (k := 0) (by omega)
      have h1 := F.len (k := 1) (by omega)
      have h2 := F.len (k := 2) (by omega)
      refine wts_nil ⟨rfl, rfl, fun _ => ?_⟩
      refine we_cmp (by decide) (k_path (by dsimp only [sc247]; omega) (by dsimp only [sc247]; omega) rfl F'.at.wld hw (we_name (rd_cell rfl c3') ⟨_, cmp_in hbl' (by simp only [List.length_append]; omega), rfl, rfl⟩))
    · intro H3 hH3 ha3
      rw [filt_true] at ha3
      have ha' : H3 n = _ := (hH3 _ (by dsimp only; omega)).trans ha
      refine ⟨true, ?_, ?_⟩
      · have e1 : (N6.map AV.obj).map (onOf fun k => (rows k).map (· + 16)) = bools (N6.map (onR fun k => (rows k).map (· + 16))) := rfl
        have e2 : (N6.map AV.obj).map (inOf (rows 0 ++ rows 1 ++ rows 2)) = bools (N6.map fun w => decide (((w - 16 : Nat) : Int) ∈ (rows 0 ++ rows 1 ++ rows 2).map fun a : Nat => (a : Int))) := rfl
        rw [e1] at ha'
        rw [e2] at ha3
        have e3 : N6.map (onR fun k => (rows k).map (· + 16)) = N6.map fun w => decide (((w - 16 : Nat) : Int) ∈ (rows 0 ++ rows 1 ++ rows 2).map fun a : Nat => (a : Int)) := by
          refine List.map_congr_left fun w hw => (same_on ?_).symm
          simp [N6] at hw; omega
        show eqv { H := H3, n := n + 2, loc := base rest } (.obj n) (.obj (n + 1)) = some true
        refine (eqv_bools ha' ha3 (by simp [N6]) (by simp [N6]) (by simp [N6])).trans ?_
        rw [e3, decide_eq_true rfl]
      · exact q' _ ⟨by dsimp only; omega, fun a h => (hH3 a (by dsimp only; dsimp only at h; omega)).trans (hH2 a h)⟩

/-- a state of _law_alike between two turns -/
structure L (st : St) (H : Nat → Option AO) (n q : Nat) : Prop where
  hn : st.n + 4 ≤ n
  hH : ∀ a, a < st.n → H a = st.H a
  c0 : H st.n = some (.cell (some (.obj 11)))
  c1 : H (st.n + 1) = some (.cell (some (.obj q)))
  c2 : ∃ o, H (st.n + 2) = some (.cell o)
  c3 : H (st.n + 3) = some (.cell none)
theorem turn {Q : AFl → St → Prop} (hd : dep < 700) (hu : un < 8000) (F : Frm st q r rows) (hk : k < 3) (h : L st H n q)
    (q' : ∀ H' n' rest', L st H' n' q → Q .next { H := H', n := n', loc := base rest' }) : Wx (sc247 st.n dep un) { H := upd H (st.n + 2) (.cell (some (.int k))), n := n, loc := base rest } [nth turn247 0, nth turn247 1, nth turn247 2, nth turn247 3] Q := by
  have hn := h.hn
  have hlow : ∀ a, a < st.n → upd H (st.n + 2) (.cell (some (.int k))) a = st.H a := fun a ha => (upd_ne _ _ (by omega)).trans (h.hH a ha)
  have K1 : K (upd H (st.n + 2) (.cell (some (.int k)))) n st.n q k r rows :=
    ⟨hn, (upd_ne _ _ (by omega)).trans h.c0, (upd_ne _ _ (by omega)).trans h.c1, upd_self _ _ _, F.grow ⟨by dsimp only; omega, hlow⟩⟩
  refine wx_one (a1 hd hu K1 hk fun H2 n2 hn2 hH2 => ?_)
  have K2 := K1.grow hn2 hH2
  refine wx_one (a2 hd hu K2 hk fun H3 p rest3 hH3 hb hp l1 l2 => ?_)
  have K3 := K2.grow (n' := n2 + 1) (by omega) hH3
  have hq := F.hq
  have hr := F.hr
  have hn27 := F.n
  refine wx_one (a3 (b := n2) hd hu K3 hk ⟨by omega, by omega⟩ (by omega) (by omega) (fun k hk => by have := hr k hk; omega) hb hp l1 l2 fun H4 n4 rest4 hn4 hH4 K4 hb4 l4 => ?_)
  refine wx_one (a4 (b := n2) hd hu K4 hk (by omega) hb4 l4 fun H5 n5 hn5 hH5 => ?_)
  have all : ∀ a, a < n → H5 a = upd H (st.n + 2) (.cell (some (.int k))) a := fun a ha => (((hH5 a (by omega)).trans (hH4 a (by omega))).trans (hH3 a (by omega))).trans (hH2 a ha)
  refine wx_nil (q' H5 n5 rest4 ⟨by omega, fun a ha => (all a (by omega)).trans (hlow a ha), (all _ (by omega)).trans K1.c0, (all _ (by omega)).trans K1.c1, ⟨_, (all _ (by omega)).trans K1.c2⟩, (all _ (by omega)).trans ((upd_ne _ _ (by omega)).trans h.c3)⟩)

theorem fin247 {Q : AFl → St → Prop} (hd : dep < 700) (hu : un < 8000) (F : Frm st q r rows) (h : L st H n q) (q' : ∀ st', Grw st st' → Q (.ret (.bool true)) st') : Wx (sc247 st.n dep un) { H := H, n := n, loc := base rest } [nth F247.1.body 1, nth F247.1.body 2] Q := by
  have hn := h.hn
  have F1 : Frm { H := H, n := n, loc := base rest } q r rows := F.grow ⟨by dsimp only; omega, h.hH⟩
  have hq := F.hq
  have hr := F.hr
  have hl0 := F.len (k := 0) (by omega)
  have hl1 := F.len (k := 1) (by omega)
  have hl2 := F.len (k := 2) (by omega)
  refine wx_one (w1_set (we_bin (we_bin (k_rows (k := 0) F1 (by omega) (rd_cell rfl h.c1) rfl (we_int ⟨rfl, rfl, k_rows (k := 1) F1 (by omega) (rd_cell rfl h.c1) rfl (we_int ⟨rfl, rfl, _, _, bin_add (F1.row 0 (by omega)) (F1.row 1 (by omega)) (by rw [len_nums, len_nums]; omega), ?_⟩)⟩)))))
  rw [nums_app]
  have G2 : ∀ a, a < n → upd H n (.list (nums (rows 0 ++ rows 1))) a = H a := fun a ha => upd_ne _ _ (by omega)
  have F2 : Frm { H := upd H n (.list (nums (rows 0 ++ rows 1))), n := n + 1, loc := base rest } q r rows := F1.grow ⟨by dsimp only; omega, G2⟩
  refine k_rows (k := 2) F2 (by omega) (rd_cell rfl ((G2 _ (by omega)).trans h.c1)) rfl (we_int ⟨rfl, rfl, _, _, bin_add (upd_self _ _ _) (F2.row 2 (by omega)) (by rw [len_nums, len_nums, List.length_append]; omega), ?_⟩)
  rw [nums_app]
  have G3 : ∀ a, a < n + 1 → upd (upd H n (.list (nums (rows 0 ++ rows 1)))) (n + 1) (.list (nums (rows 0 ++ rows 1 ++ rows 2))) a = upd H n (.list (nums (rows 0 ++ rows 1))) a := fun a ha => upd_ne _ _ (by omega)
  refine ⟨_, wr_cell rfl ((G3 _ (by omega)).trans ((G2 _ (by omega)).trans h.c3)), ?_⟩
  have all : ∀ a, a < n → a ≠ st.n + 3 → upd (upd (upd H n (.list (nums (rows 0 ++ rows 1)))) (n + 1) (.list (nums (rows 0 ++ rows 1 ++ rows 2)))) (st.n + 3) (.cell (some (.obj (n + 1)))) a = H a := fun a ha ha' => ((upd_ne _ _ ha').trans (G3 a (by omega))).trans (G2 a ha)
  have F4 : Frm { H := upd (upd (upd H n (.list (nums (rows 0 ++ rows 1)))) (n + 1) (.list (nums (rows 0 ++ rows 1 ++ rows 2)))) (st.n + 3) (.cell (some (.obj (n + 1)))), n := n + 2, loc := base rest } q r rows := F.grow ⟨by dsimp only; omega, fun a ha => (all a (by omega) (by omega)).trans (h.hH a ha)⟩
  refine wx_one (ret247 (n := n + 2) (n0 := st.n) (b := n + 1) hd hu F4 (by omega) ((all _ (by omega) (by omega)).trans h.c0) (upd_self _ _ _) (by omega) ((upd_ne _ _ (by omega)).trans (upd_self _ _ _)) fun st' G => q' st' ?_)
  exact ⟨by have := G.n; dsimp only at this; omega, fun a ha => (G.H a (by dsimp only; omega)).trans ((all a (by omega) (by omega)).trans (h.hH a ha))⟩
end Mine
end

section
open PySem PySem.W
set_option maxRecDepth 100000
namespace Mine
variable {st : St} {dep un n n0 : Nat} {i j w k q b : Nat} {R rows : Nat → List Nat} {r : Nat → Nat} {H : Nat → Option AO} {loc rest : List (Str × AV)}

/-- _law_alike answers True -/
theorem c247 (hd : dep < 690) (hu : un < 7900) (F : Frm st q r rows) : Wc dep un st 247 [.obj 9, .obj 11, .obj 16, .obj q] fun rv st' => rv = .bool true ∧ st'.loc = st.loc ∧ Grw st st' := by
  have hn := F.n
  refine wc_call F247.2 rfl (by decide) (by omega) (by omega) (by decide) rfl rfl ?_
  show Wx (sc247 st.n (dep + 3) (un + 20)) _ [nth F247.1.body 0, nth F247.1.body 1, nth F247.1.body 2] _
  refine wx_one (w1_for (we_range rfl (ws_cons (we_int (ws_nil ⟨3, rfl, by decide, by decide, ?_⟩)))))
  refine wl_range (z := 3) (i := st.n + 4) (upd_self _ _ _) (by decide) (fun _ st' => ∃ H n rest, st' = { H := H, n := n, loc := base rest } ∧ L st H n q) (fun _ => False) ?_ ?_ ?_ (fun _ h => h.elim)
  · refine ⟨_, st.n + 5, [], rfl, by omega, fun a ha => ?_, ?_, ?_, ⟨none, ?_⟩, ?_⟩
    · exact (upd_ne _ _ (by dsimp only [St.add]; omega)).trans ((upd_ne _ _ (by dsimp only [St.add]; omega)).trans ((upd_ne _ _ (by dsimp only [St.add]; omega)).trans ((upd_ne _ _ (by dsimp only [St.add]; omega)).trans (upd_ne _ _ (by omega)))))
    · exact (upd_ne _ _ (by dsimp only [St.add]; omega)).trans ((upd_ne _ _ (by dsimp only [St.add]; omega)).trans ((upd_ne _ _ (by dsimp only [St.add]; omega)).trans ((upd_ne _ _ (by dsimp only [St.add]; omega)).trans (upd_self _ _ _))))
    · exact (upd_ne _ _ (by dsimp only [St.add]; omega)).trans ((upd_ne _ _ (by dsimp only [St.add]; omega)).trans ((upd_ne _ _ (by dsimp only [St.add]; omega)).trans (upd_self _ _ _)))
    · exact (upd_ne _ _ (by dsimp only [St.add]; omega)).trans ((upd_ne _ _ (by dsimp only [St.add]; omega)).trans (upd_self _ _ _))
    · exact (upd_ne _ _ (by dsimp only [St.add]; omega)).trans (upd_self _ _ _)
  · rintro k st' hk ⟨H, n, rest, rfl, h⟩
    obtain ⟨o, c2⟩ := h.c2
    refine wb_for ⟨_, wr_cell rfl c2, ?_⟩
    exact turn (by omega) (by omega) F hk h fun H' n' rest' h' => .inl ⟨rfl, H', n', rest', rfl, h'⟩
  · rintro st' ⟨H, n, rest, rfl, h⟩
    exact fin247 (by omega) (by omega) F h fun st' G => ⟨rfl, rfl, G.n, G.H⟩
end Mine
end

section
open PySem PySem.W
set_option maxRecDepth 100000
namespace Mine
variable {i j w k q n d m nd : Nat} {R rows : Nat → List Nat} {r : Nat → Nat} {H H' : Nat → Option AO} {t loc loc' : List (Str × AV)} {ds : List AV} {num : Option AV}

def F252 : {F : Fn // T 252 = some F} := ⟨_, rfl⟩
def sc252 : Sc := { scope := F252.1.scope, cells := [("kind", 1), ("number", 2)], dep := 304, un := 24 }
def turn252 : List Stmt := forBody (nth F252.1.body 4)
def base2 (q : Nat) (t : List (Str × AV)) : List (Str × AV) := (("script" : Str), AV.obj 0) :: (("rest" : Str), AV.obj 3) :: (("cells" : Str), AV.obj 8) :: (("lists" : Str), AV.obj 11) :: (("nodes" : Str), AV.obj 16) :: (("rows" : Str), AV.obj q) :: t
/-- the cells, the lists' object, the nodes' object and the rows -/
structure Rw (H : Nat → Option AO) (n q : Nat) (r : Nat → Nat) (rows : Nat → List Nat) (ds : List AV) (num : Option AV) : Prop where
  le : 27 ≤ n
  c1 : H 1 = some (.cell (some (.obj 9)))
  c2 : H 2 = some (.cell num)
  c8 : H 8 = some (.list ds)
  lists : H 11 = some (.list [.obj 12, .obj 13, .obj 14])
  nodes : H 16 = some (.list [.obj 17, .obj 18, .obj 19, .obj 20, .obj 21, .obj 22])
  hq : 23 ≤ q ∧ q < n
  hr : ∀ k, k < 3 → 23 ≤ r k ∧ r k < n ∧ r k ≠ q
  hrows : H q = some (.list [.obj (r 0), .obj (r 1), .obj (r 2)])
  row : ∀ k, k < 3 → H (r k) = some (.list (nums (rows k)))
theorem Rw.of {n'} (X : Rw H n q r rows ds num) (hn : n ≤ n') (h : ∀ a, a < n → ¬U a → H' a = H a) : Rw H' n' q r rows ds num where
  le := Nat.le_trans X.le hn
  c1 := (h 1 (by have := X.le; omega) (by unfold U; omega)).trans X.c1
  c2 := (h 2 (by have := X.le; omega) (by unfold U; omega)).trans X.c2
  c8 := (h 8 (by have := X.le; omega) (by unfold U; omega)).trans X.c8
  lists := (h 11 (by have := X.le; omega) (by unfold U; omega)).trans X.lists
  nodes := (h 16 (by have := X.le; omega) (by unfold U; omega)).trans X.nodes
  hq := ⟨X.hq.1, Nat.lt_of_lt_of_le X.hq.2 hn⟩
  hr := fun k hk => ⟨(X.hr k hk).1, Nat.lt_of_lt_of_le (X.hr k hk).2.1 hn, (X.hr k hk).2.2⟩
  hrows := (h q X.hq.2 (by have := X.hq.1; unfold U; omega)).trans X.hrows
  row := fun k hk => (h (r k) (X.hr k hk).2.1 (by have := (X.hr k hk).1; unfold U; omega)).trans (X.row k hk)
theorem Rw.frm (X : Rw H n q r rows ds num) (W : Wld { H := H, n := n, loc := loc } fun k => (rows k).map (· + 16)) : Frm { H := H, n := n, loc := loc } q r rows := ⟨X.le, W, X.lists, X.nodes, X.hq, X.hr, X.hrows, X.row⟩
theorem Wld.at {n'} (W : Wld { H := H, n := n, loc := loc } R) : Wld { H := H, n := n', loc := loc' } R := W.of rfl fun _ _ => rfl
theorem idxN (h1 : 1 ≤ k) (h2 : k ≤ 6) : idx [.obj 17, .obj 18, .obj 19, .obj 20, .obj 21, .obj 22] ((k : Int) - 1) = some (.obj (k + 16)) := by
  have : k = 1 ∨ k = 2 ∨ k = 3 ∨ k = 4 ∨ k = 5 ∨ k = 6 := by omega
  rcases this with rfl | rfl | rfl | rfl | rfl | rfl <;> rfl

section
variable {sc : Sc} {Q : AV → St → Prop}
theorem s_lists {l lp s p} (X : Rw H n q r rows ds num) (hk : k < 3) (hl : rd sc { H := H, n := n, loc := loc } l = some (.obj 11)) (hs : noSlice s = true) (h : We sc { H := H, n := n, loc := loc } s fun v st' => v = .int k ∧ st'.H 11 = H 11 ∧ Q (.obj (12 + k)) st') : We sc { H := H, n := n, loc := loc } (.Subscript (.Name l lp) s p) Q := by
  refine we_sub hs (we_name hl (W2.mono h ?_))
  rintro v st' ⟨rfl, e, q⟩
  exact ⟨11, k, _, _, rfl, rfl, e.trans X.lists, ⟨by omega, by omega, by decide⟩, idxH hk, q⟩
theorem s_rows {l lp s p} (X : Rw H n q r rows ds num) (hk : k < 3) (hl : rd sc { H := H, n := n, loc := loc } l = some (.obj q)) (hs : noSlice s = true) (h : We sc { H := H, n := n, loc := loc } s fun v st' => v = .int k ∧ st'.H q = H q ∧ Q (.obj (r k)) st') : We sc { H := H, n := n, loc := loc } (.Subscript (.Name l lp) s p) Q := by
  refine we_sub hs (we_name hl (W2.mono h ?_))
  rintro v st' ⟨rfl, e, q'⟩
  exact ⟨q, k, _, _, rfl, rfl, e.trans X.hrows, ⟨by omega, by omega, by simp⟩, idxR hk, q'⟩
end
def nset (r : Nat → Nat) (k j : Nat) : Nat → Nat := fun m => if m = k then j else r m
theorem setR (hk : k < 3) : [AV.obj (r 0), .obj (r 1), .obj (r 2)].set k (.obj j) = [.obj (nset r k j 0), .obj (nset r k j 1), .obj (nset r k j 2)] := by
  have : k = 0 ∨ k = 1 ∨ k = 2 := by omega
  rcases this with rfl | rfl | rfl <;> rfl
/-- rows[which] = ... -/
theorem w1_row {Q : AFl → St → Prop} {sc st e op ip p1 p} (h : We sc st e fun v st' => ∃ H n q r rows ds num t k j l, st' = { H := H, n := n, loc := base2 q t } ∧ Rw H n q r rows ds num ∧ rd sc st' "rows" = some (.obj q) ∧ rd sc st' "which" = some (.int (k : Nat)) ∧ k < 3 ∧ v = .obj j ∧ (23 ≤ j ∧ j < n ∧ j ≠ q) ∧ H j = some (.list (nums l)) ∧
      (∀ H', Rw H' n q (nset r k j) (rset rows k l) ds num → (∀ a, a ≠ q → H' a = H a) → Q .next { H := H', n := n, loc := base2 q t })) : W1 sc st (.Assign [.Subscript (.Name "rows" op) (.Name "which" ip) p1] e p) Q := by
  refine w1_item (W2.mono h ?_)
  rintro v st' ⟨H, n, q, r, rows, ds, num, t, k, j, l, rfl, X, h1, h2, hk, rfl, hj, hl, q'⟩
  refine ⟨q, k, _, h1, h2, X.hrows, by omega, by simp; omega, by simp, ?_⟩
  have hq := X.hq
  have hne : ∀ a, a ≠ q → upd H q (.list ([AV.obj (r 0), .obj (r 1), .obj (r 2)].set (k : Int).toNat (.obj j))) a = H a := fun a ha => upd_ne _ _ ha
  refine q' _ ⟨X.le, (hne 1 (by omega)).trans X.c1, (hne 2 (by omega)).trans X.c2, (hne 8 (by omega)).trans X.c8, (hne 11 (by omega)).trans X.lists, (hne 16 (by omega)).trans X.nodes, X.hq, fun m hm => ?_, ?_, fun m hm => ?_⟩ hne
  · unfold nset
    split
    · exact hj
    · exact X.hr m hm
  · rw [upd_self, ← setR hk]; rfl
  · unfold nset rset
    split
    · exact (hne j hj.2.2).trans hl
    · exact (hne _ (X.hr m hm).2.2).trans (X.row m hm)
/-- the names of a turn -/
structure Lk (t : List (Str × AV)) (d w m nd : Nat) : Prop where
  deed : t.lookup ("deed" : Str) = some (.int (d : Nat))
  which : t.lookup ("which" : Str) = some (.int (w : Nat))
  more : t.lookup ("more" : Str) = some (.int (m : Nat))
  node : t.lookup ("node" : Str) = some (.obj nd)
theorem Lk.set {x : Str} {v} (h : Lk t d w m nd) (h1 : x ≠ ("deed" : Str)) (h2 : x ≠ ("which" : Str)) (h3 : x ≠ ("more" : Str)) (h4 : x ≠ ("node" : Str)) : Lk (setA x v t) d w m nd :=
  ⟨(lookup_setA _ _ _ _).trans ((if_neg (Ne.symm h1)).trans h.deed), (lookup_setA _ _ _ _).trans ((if_neg (Ne.symm h2)).trans h.which), (lookup_setA _ _ _ _).trans ((if_neg (Ne.symm h3)).trans h.more), (lookup_setA _ _ _ _).trans ((if_neg (Ne.symm h4)).trans h.node)⟩
theorem lk_ne {x y : Str} {v u} (h : x ≠ y) (h2 : t.lookup x = some u) : (setA y v t).lookup x = some u := (lookup_setA _ _ _ _).trans ((if_neg h).trans h2)
theorem wrs_nil {sc st} : wrs sc st [] = some st := rfl
theorem wrs_cons {sc st st1 st2 x v l} (h : wr sc st x v = some st1) (h2 : wrs sc st1 l = some st2) : wrs sc st ((x, v) :: l) = some st2 := by simp only [wrs, h, Option.bind_some, h2]

/-- the names that a turn begins with -/
theorem p01 {Q : AFl → St → Prop} {D : Nat} (X : Rw H n q r rows ds num) (hD : t.lookup ("draw" : Str) = some (.int (D : Nat)))
    (q' : ∀ H' t', Rw H' n q r rows ds (some (.int ((1 + D / 18 % 6 : Nat) : Int))) → (∀ a, a ≠ 2 → H' a = H a) → Lk t' (D % 6) (D / 6 % 3) (D / 108) (1 + D / 18 % 6 + 16) → Wx sc252 { H := H', n := n, loc := base2 q t' } [nth turn252 2, nth turn252 3, nth turn252 4] Q) :
    Wx sc252 { H := H, n := n, loc := base2 q t } [nth turn252 0, nth turn252 1, nth turn252 2, nth turn252 3, nth turn252 4] Q := by
  have hG : ∀ a, a ≠ 2 → upd H 2 (.cell (some (.int ((1 + D / 18 % 6 : Nat) : Int)))) a = H a := fun a ha => upd_ne _ _ ha
  have hq := X.hq
  have X2 : Rw (upd H 2 (.cell (some (.int ((1 + D / 18 % 6 : Nat) : Int))))) n q r rows ds (some (.int ((1 + D / 18 % 6 : Nat) : Int))) :=
    ⟨X.le, (hG _ (by omega)).trans X.c1, upd_self _ _ _, (hG _ (by omega)).trans X.c8, (hG _ (by omega)).trans X.lists, (hG _ (by omega)).trans X.nodes, X.hq, X.hr, (hG _ (by omega)).trans X.hrows, fun k hk => (hG _ (by have := X.hr k hk; omega)).trans (X.row k hk)⟩
  have e1 : (D : Int) % 6 = ((D % 6 : Nat) : Int) := by omega
  have e2 : (D : Int) / 6 % 3 = ((D / 6 % 3 : Nat) : Int) := by omega
  have e3 : 1 + (D : Int) / 18 % 6 = ((1 + D / 18 % 6 : Nat) : Int) := by omega
  have e4 : (D : Int) / 108 = ((D / 108 : Nat) : Int) := by omega
  have hd : ∀ {st' : St}, st'.loc = base2 q t → rd sc252 st' "draw" = some (.int (D : Nat)) := fun h => rd_loc rfl (by rw [h]; exact hD)
  refine wx_one (w1_tup ["deed", "which", "number", "more"] (by kernel_rfl) ?_)
  refine ws_cons (we_bin (we_name (hd rfl) (we_int ⟨_, _, rfl, ?_⟩)))
  refine ws_cons (we_bin (we_bin (we_name (hd rfl) (we_int ⟨_, _, rfl, we_int ⟨_, _, rfl, ?_⟩⟩))))
  refine ws_cons (we_bin (we_int (we_bin (we_bin (we_name (hd rfl) (we_int ⟨_, _, rfl, we_int ⟨_, _, rfl, _, _, rfl, ?_⟩⟩))))))
  refine ws_cons (we_bin (we_name (hd rfl) (we_int ⟨_, _, rfl, ws_nil ?_⟩)))
  rw [e1, e2, e3, e4]
  refine ⟨_, wrs_cons rfl (wrs_cons rfl (wrs_cons (wr_cell rfl X.c2) (wrs_cons rfl wrs_nil))), ?_⟩
  have hN : (1 + D / 18 % 6) + 16 ≤ 22 := by omega
  refine wx_one (w1_set (we_sub rfl (we_name rfl (we_bin (we_name (rd_cell rfl X2.c2) (we_int ⟨_, _, rfl, 16, _, _, _, rfl, rfl, X2.nodes, ⟨by omega, by omega, by decide⟩, idxN (by omega) (by omega), _, rfl, ?_⟩))))))
  exact q' _ _ X2 hG ⟨lk_ne (by decide) (lk_ne (by decide) (lk_ne (by decide) (lookup_here _ _ _))), lk_ne (by decide) (lk_ne (by decide) (lookup_here _ _ _)), lk_ne (by decide) (lookup_here _ _ _), lookup_here _ _ _⟩
end Mine
end

section
open PySem PySem.W
set_option maxRecDepth 100000
namespace Mine
variable {i j w k q n d m nd nu : Nat} {R rows : Nat → List Nat} {r : Nat → Nat} {H H' : Nat → Option AO} {t loc loc' : List (Str × AV)} {ds : List AV} {num : Option AV}

def strip (rows : Nat → List Nat) (nu : Nat) : Nat → List Nat := fun k => (rows k).filter fun a => decide (a ≠ nu)
def neInt (nu : Nat) : AV → Bool
  | .int a => !decide (a = (nu : Int))
  | _ => true
theorem nums_strip (l : List Nat) : ((nums l).filter (neInt nu)).map id = nums (l.filter fun a => decide (a ≠ nu)) := by
  unfold nums
  rw [List.map_id, List.filter_map]
  congr 1
  apply List.filter_congr
  intro a _
  simp only [Function.comp_def, neInt]
  by_cases h : a = nu
  · subst h; simp
  · simp [h]; omega
theorem sans_strip : sans (fun k => (rows k).map (· + 16)) (nu + 16) = fun k => (strip rows nu k).map (· + 16) := by
  funext k
  unfold sans strip
  rw [List.filter_map]
  congr 1
  apply List.filter_congr
  intro a _
  simp
theorem get3 {a b c v : AV} (h : [a, b, c][j]? = some v) : j < 3 := by
  rcases Nat.lt_or_ge j 3 with h' | h'
  · exact h'
  · rw [List.getElem?_eq_none_iff.mpr (by simpa using h')] at h; cases h
theorem getR {v : AV} (h : [AV.obj (r 0), .obj (r 1), .obj (r 2)][j]? = some v) : j < 3 ∧ v = .obj (r j) := by
  have hj := get3 h
  refine ⟨hj, ?_⟩
  have : j = 0 ∨ j = 1 ∨ j = 2 := by omega
  rcases this with rfl | rfl | rfl <;> (cases h; rfl)
theorem Wld.rlen {st : St} (W : Wld st fun k => (rows k).map (· + 16)) (hk : k < 3) : (rows k).length ≤ 6 := by
  have := W.len hk
  simpa using this
theorem p2 {Q : AFl → St → Prop} (X : Rw H n q r rows ds (some (.int (nu : Nat)))) (W : Wld { H := H, n := n, loc := loc } fun k => (rows k).map (· + 16)) (lk : Lk t d w m (nu + 16)) (hd : d < 3) (hnu : 1 ≤ nu ∧ nu ≤ 6)
    (q' : ∀ H' n' q2 r2, Rw H' n' q2 r2 (strip rows nu) ds (some (.int (nu : Nat))) → Wld { H := H', n := n', loc := loc } (fun k => (strip rows nu k).map (· + 16)) → Q .next { H := H', n := n', loc := base2 q2 t }) :
    W1 sc252 { H := H, n := n, loc := base2 q t } (nth turn252 2) Q := by
  have hn := X.le
  have hq := X.hq
  refine w1_if (wt_cmp (by decide) (we_name (rd_loc rfl lk.deed) (we_int ⟨_, rfl, br (fun e => ?_) (fun e => ?_)⟩)))
  rotate_left
  · have := of_decide_eq_false e
    omega
  have h3 : (m : Int) % 3 = ((m % 3 : Nat) : Int) := by omega
  have hm : m % 3 < 3 := Nat.mod_lt _ (by decide)
  refine wx_one (w1_expr (k_list (k := m % 3) rfl (by decide) rfl (by decide) hm (s_lists (k := m % 3) X hm rfl rfl (we_bin (we_name (rd_loc rfl lk.more) (we_int ⟨_, _, rfl, by rw [← h3], rfl, rfl, ⟨_, W.at⟩, ws_cons (we_name (rd_loc rfl lk.node) (ws_nil ?_))⟩))))))
  refine (e84 (by decide) (by decide) W.at hm ⟨by omega, by omega⟩).mono ?_
  rintro _ st' ⟨rfl, W1, E⟩
  rw [E.eq, sans_strip] at W1
  rw [E.eq]
  refine ⟨rfl, ?_⟩
  have hH1 := E.H
  have X1 : Rw st'.H n q r rows ds (some (.int (nu : Nat))) := X.of (Nat.le_refl _) fun a _ h => hH1 a h
  revert X1 W1
  generalize st'.H = H1
  intro W1 X1
  refine wx_one (w1_set (we_comp rfl rfl (we_name rfl ?_)))
  refine wl_list (xs := [.obj (r 0), .obj (r 1), .obj (r 2)]) (fun j st => ∃ Hj lc, st = { H := Hj, n := n + 1 + j, loc := lc } ∧ (lc = [] ∨ ∃ u, lc = [(("row" : Str), u)]) ∧ (∀ a, a < n → Hj a = H1 a) ∧ Hj n = some (.list ((List.range j).map fun k => .obj (n + 1 + k))) ∧ ∀ k, k < j → Hj (n + 1 + k) = some (.list (nums (strip rows nu k)))) ?_ ?_ (by simp) ?_ ?_
  · exact ⟨_, [], rfl, .inl rfl, fun a ha => upd_ne _ _ (by dsimp only; omega), upd_self _ _ _, fun k hk => by omega⟩
  · rintro j st ⟨Hj, lc, rfl, _, hl, _⟩
    exact (hl q hq.2).trans X1.hrows
  · rintro j v st hv ⟨Hj, lc, rfl, hlc, hl, ha, hrs⟩
    obtain ⟨hj, rfl⟩ := getR hv
    have hrj := X1.hr j hj
    refine wb_comp0 (st₁ := { H := Hj, n := n + 1 + j, loc := [(("row" : Str), .obj (r j))] }) (by rcases hlc with rfl | ⟨u, rfl⟩ <;> rfl) ?_
    refine comp_src rfl rfl rfl (we_name rfl ⟨nums (rows j), neInt nu, id, src_list ((hl _ hrj.2.1).trans (X1.row j hj)) (by dsimp only; omega) ?_, ?_, ?_, ?_⟩)
    · rw [len_nums]; have := W.rlen hj; omega
    · rw [len_nums]; have := W.rlen hj; omega
    · intro v hv H2 hH2
      obtain ⟨a, ha', rfl⟩ := List.mem_map.mp hv
      refine wts_one (wt_cmp (by decide) (we_name rfl (we_name (rd_cell rfl ((hH2 2 (by dsimp only; omega)).trans ((hl 2 (by omega)).trans X1.c2))) ⟨_, rfl, rfl, rfl, fun _ => we_name rfl ⟨rfl, rfl⟩⟩)))
    · intro H2 hH2 h2
      rw [nums_strip] at h2
      dsimp only at h2 hH2
      refine ⟨_, (hH2 n (by omega)).trans ha, by simp; omega, rfl, _, _, rfl, .inr ⟨_, rfl⟩, fun a h => ?_, ?_, fun k hk => ?_⟩
      · exact (upd_ne _ _ (by dsimp only; omega)).trans ((hH2 a (by omega)).trans (hl a h))
      · rw [upd_self, List.range_succ, List.map_append]; rfl
      · refine (upd_ne _ _ (by dsimp only; omega)).trans ?_
        by_cases h : k = j
        · subst h; exact h2
        · exact (hH2 _ (by omega)).trans (hrs k (by omega))
  · rintro st ⟨Hj, lc, rfl, hlc, hl, ha, hrs⟩
    refine ⟨rfl, _, rfl, wx_nil ?_⟩
    refine q' Hj (n + 4) n (fun k => n + 1 + k) ?_ ?_
    · have Y := X1.of (H' := Hj) (n' := n + 4) (by omega) fun a h _ => hl a h
      exact ⟨Y.le, Y.c1, Y.c2, Y.c8, Y.lists, Y.nodes, ⟨by omega, by omega⟩, fun k hk => ⟨by omega, by omega, by omega⟩, ha, fun k hk => hrs k hk⟩
    · exact W1.of (hl 9 (by omega)) fun i hi => hl i (by have := hi.lt; omega)
theorem p2' {Q : AFl → St → Prop} (lk : Lk t d w m nd) (hd : 3 ≤ d) (q' : Q .next { H := H, n := n, loc := base2 q t }) : W1 sc252 { H := H, n := n, loc := base2 q t } (nth turn252 2) Q := by
  refine w1_if (wt_cmp (by decide) (we_name (rd_loc rfl lk.deed) (we_int ⟨_, rfl, br (fun e => ?_) (fun e => ?_)⟩)))
  · have := of_decide_eq_true e
    omega
  · exact wx_nil q'
end Mine
end

section
open PySem PySem.W
set_option maxRecDepth 100000
namespace Mine
variable {i j w k q n d m nd nu : Nat} {R rows : Nat → List Nat} {r : Nat → Nat} {H H' : Nat → Option AO} {t loc loc' : List (Str × AV)} {ds : List AV} {num : Option AV}

theorem rset_map {l : List Nat} : (fun k => (rset rows w l k).map (· + 16)) = rset (fun k => (rows k).map (· + 16)) w (l.map (· + 16)) := by
  funext k
  unfold rset
  split <;> rfl
/-- the ways that a deed ends -/
def Ends (q : Nat) (ds : List AV) (nu : Nat) (Q : AFl → St → Prop) : Prop := ∀ H' n' r2 rows2 t', Rw H' n' q r2 rows2 ds (some (.int (nu : Nat))) → Wld { H := H', n := n', loc := [] } (fun k => (rows2 k).map (· + 16)) → Q .next { H := H', n := n', loc := base2 q t' }
theorem off16 (hf : ∀ k, k < 3 → nu ∉ rows k) : ∀ k, k < 3 → nu + 16 ∉ (rows k).map (· + 16) := by
  intro k hk h
  obtain ⟨a, ha, e⟩ := List.mem_map.mp h
  have : a = nu := by omega
  subst this
  exact hf k hk ha
theorem deed0 {Q : AFl → St → Prop} (X : Rw H n q r rows ds (some (.int (nu : Nat)))) (W : Wld { H := H, n := n, loc := loc } fun k => (rows k).map (· + 16)) (lk : Lk t 0 w m (nu + 16)) (hw : w < 3) (hnu : 1 ≤ nu ∧ nu ≤ 6) (hf : ∀ k, k < 3 → nu ∉ rows k) (q' : Ends q ds nu Q) :
    W1 sc252 { H := H, n := n, loc := base2 q t } (nth turn252 3) Q := by
  have hn := X.le
  have hq := X.hq
  have hr := X.hr w hw
  have hlen := W.rlen hw
  have e3 : (m : Int) / 3 % 2 = ((m / 3 % 2 : Nat) : Int) := by omega
  refine w1_if (wt_cmp (by decide) (we_name (rd_loc rfl lk.deed) (we_int ⟨true, rfl, br (fun _ => ?_) (fun e => absurd e (by decide))⟩)))
  refine wx_one (w1_if (wt_cmp (by decide) (we_bin (we_bin (we_name (rd_loc rfl lk.more) (we_int ⟨_, _, rfl, we_int ⟨_, _, rfl, we_int ⟨_, rfl, br (fun e => ?_) (fun e => ?_)⟩⟩⟩))))))
  · refine wx_one (w1_expr (k_list (k := w) rfl (by decide) rfl (by decide) hw (s_lists X hw rfl rfl (we_name (rd_loc rfl lk.which) ⟨rfl, rfl, rfl, ⟨_, W.at⟩, ws_cons (we_name (rd_loc rfl lk.node) (ws_nil ?_))⟩))))
    refine (e63 (by decide) (by decide) W.at hw ⟨by omega, by omega⟩ (off16 hf)).mono ?_
    rintro _ st' ⟨rfl, W1, E⟩
    have X1 : Rw st'.H n q r rows ds (some (.int (nu : Nat))) := X.of (Nat.le_refl _) fun a _ h => E.H a h
    rw [E.eq] at W1
    rw [E.eq]
    refine ⟨rfl, ?_⟩
    revert X1 W1
    generalize st'.H = H1
    intro W1 X1
    refine wx_one (w1_row (we_bin (s_rows X1 hw rfl rfl (we_name (rd_loc rfl lk.which) ⟨rfl, rfl, we_list (ws_cons (we_name (rd_cell rfl X1.c2) (ws_nil ⟨by simp, _, _, bin_add (xs := nums (rows w)) (ys := nums [nu]) ((upd_ne _ _ (by dsimp only; omega)).trans (X1.row w hw)) (upd_self _ _ _) (by rw [len_nums, len_nums]; simp; omega), ?_⟩)))⟩))))
    rw [nums_app]
    have hG : ∀ a, a < n → upd (upd H1 n (.list (nums [nu]))) (n + 1) (.list (nums (rows w ++ [nu]))) a = H1 a := fun a ha => (upd_ne _ _ (by omega)).trans (upd_ne _ _ (by omega))
    refine ⟨_, n + 2, q, r, rows, ds, _, t, w, n + 1, rows w ++ [nu], rfl, X1.of (by omega) fun a ha _ => hG a ha, rfl, rd_loc rfl lk.which, hw, rfl, ⟨by omega, by omega, by omega⟩, upd_self _ _ _, fun H2 Y hne => wx_nil (wx_nil (q' H2 _ _ _ t Y ?_))⟩
    rw [rset_map]
    refine (W1.of (st' := { H := H2, n := n + 2, loc := [] }) ?_ ?_).congr fun k hk => by rw [List.map_append]; rfl
    · exact (hne 9 (by omega)).trans (hG 9 (by omega))
    · exact fun i hi => (hne i (by have := hi.lt; unfold U at hi; omega)).trans (hG i (by have := hi.lt; omega))
  · refine wx_one (w1_expr (k_list (k := w) rfl (by decide) rfl (by decide) hw (s_lists X hw rfl rfl (we_name (rd_loc rfl lk.which) ⟨rfl, rfl, rfl, ⟨_, W.at⟩, ws_cons (we_name (rd_loc rfl lk.node) (ws_nil ?_))⟩))))
    refine (e70 (by decide) (by decide) W.at hw ⟨by omega, by omega⟩ (off16 hf)).mono ?_
    rintro _ st' ⟨rfl, W1, E⟩
    have X1 : Rw st'.H n q r rows ds (some (.int (nu : Nat))) := X.of (Nat.le_refl _) fun a _ h => E.H a h
    rw [E.eq] at W1
    rw [E.eq]
    refine ⟨rfl, ?_⟩
    revert X1 W1
    generalize st'.H = H1
    intro W1 X1
    have hG1 : ∀ a, a < n → upd H1 n (.list (nums [nu])) a = H1 a := fun a ha => upd_ne _ _ (by omega)
    have X2 : Rw (upd H1 n (.list (nums [nu]))) (n + 1) q r rows ds (some (.int (nu : Nat))) := X1.of (by omega) fun a ha _ => hG1 a ha
    refine wx_one (w1_row (we_bin (we_list (ws_cons (we_name (rd_cell rfl X1.c2) (ws_nil ⟨by simp, s_rows X2 hw rfl rfl (we_name (rd_loc rfl lk.which) ⟨rfl, rfl, _, _, bin_add (xs := nums [nu]) (ys := nums (rows w)) (upd_self _ _ _) (X2.row w hw) (by rw [len_nums, len_nums]; simp; omega), ?_⟩)⟩))))))
    rw [nums_app]
    have hG : ∀ a, a < n → upd (upd H1 n (.list (nums [nu]))) (n + 1) (.list (nums ([nu] ++ rows w))) a = H1 a := fun a ha => (upd_ne _ _ (by omega)).trans (upd_ne _ _ (by omega))
    refine ⟨_, n + 2, q, r, rows, ds, _, t, w, n + 1, [nu] ++ rows w, rfl, X1.of (by omega) fun a ha _ => hG a ha, rfl, rd_loc rfl lk.which, hw, rfl, ⟨by omega, by omega, by omega⟩, upd_self _ _ _, fun H2 Y hne => wx_nil (wx_nil (q' H2 _ _ _ t Y ?_))⟩
    rw [rset_map]
    refine (W1.of (st' := { H := H2, n := n + 2, loc := [] }) ?_ ?_).congr fun k hk => by rw [List.map_append]; rfl
    · exact (hne 9 (by omega)).trans (hG 9 (by omega))
    · exact fun i hi => (hne i (by have := hi.lt; unfold U at hi; omega)).trans (hG i (by have := hi.lt; omega))
end Mine
end

section
open PySem PySem.W
set_option maxRecDepth 100000
namespace Mine
variable {i j w k q n d m nd nu : Nat} {R rows : Nat → List Nat} {r : Nat → Nat} {H H' : Nat → Option AO} {t loc loc' : List (Str × AV)} {ds : List AV} {num : Option AV}

theorem nums_take (l : List Nat) (k : Nat) : (nums l).take k = nums (l.take k) := by unfold nums; rw [List.map_take]
theorem nums_drop (l : List Nat) (k : Nat) : (nums l).drop k = nums (l.drop k) := by unfold nums; rw [List.map_drop]
theorem bin_mod {st : St} {a b : Nat} (h : 0 < b) : bin st .Mod (.int (a : Nat)) (.int (b : Nat)) = some (.int ((a % b : Nat) : Int), st) := by
  show (if 0 < (b : Int) then some (AV.int ((a : Int) % (b : Int)), st) else none) = _
  rw [if_pos (by omega)]
  rfl
theorem idx_nums {l : List Nat} {p a : Nat} (h : l[p]? = some a) : idx (nums l) (p : Int) = some (.int (a : Nat)) := by
  unfold idx nums
  rw [if_pos (by omega), Int.toNat_natCast, List.getElem?_map, h]
  rfl
/-- what a state on the way keeps -/
theorem Wld.low {n'} (W : Wld { H := H, n := n, loc := loc } R) (hn : 27 ≤ n) (h : ∀ a, a < n → H' a = H a) : Wld { H := H', n := n', loc := loc' } R := W.of (h 9 (by omega)) fun i hi => h i (by have := hi.lt; omega)
theorem Wld.row {n'} (W : Wld { H := H, n := n, loc := loc } R) (hq : 23 ≤ q) (hn : 27 ≤ n) {H1 : Nat → Option AO} (h1 : ∀ a, a < n → H1 a = H a) (h : ∀ a, a ≠ q → H' a = H1 a) : Wld { H := H', n := n', loc := loc' } R :=
  W.of ((h 9 (by omega)).trans (h1 9 (by omega))) fun i hi => (h i (by unfold Mine.U at hi; omega)).trans (h1 i (by have := hi.lt; omega))

def thenOf : Stmt → List Stmt
  | .If _ b _ _ => b
  | _ => []
def orOf : Stmt → List Stmt
  | .If _ _ b _ => b
  | _ => []
def els (s : Stmt) : Stmt := nth (orOf s) 0
def K1 : Stmt := els (nth turn252 3)
def K3 : Stmt := els K1
def K4 : Stmt := els K3
def K5 : Stmt := els K4

theorem ins_tail {Q : AFl → St → Prop} {p : Nat} (X : Rw H n q r rows ds (some (.int (nu : Nat)))) (W : Wld { H := H, n := n, loc := loc } R) (lk : Lk t d w m nd) (hw : w < 3) (hlen : (rows w).length ≤ 6) (hp : p ≤ 6) (lp : t.lookup ("place" : Str) = some (.int (p : Nat)))
    (hR : ∀ k, k < 3 → (rset rows w ((rows w).take p ++ [nu] ++ (rows w).drop p) k).map (· + 16) = R k) (q' : Ends q ds nu Q) : W1 sc252 { H := H, n := n, loc := base2 q t } (nth (thenOf K1) 2) Q := by
  have hn := X.le
  have hq := X.hq
  have hr := X.hr w hw
  have lt : ((rows w).take p).length ≤ 6 := Nat.le_trans (List.length_take_le _ _) hp
  have ld : ((rows w).drop p).length ≤ 6 := by rw [List.length_drop]; omega
  refine w1_row (we_bin (we_bin (we_upto (s_rows X hw rfl rfl (we_name (rd_loc rfl lk.which) ⟨rfl, rfl, we_name (rd_loc rfl lp) ⟨r w, p, nums (rows w), rfl, rfl, ?_, ⟨by omega, by omega, by rw [len_nums]; omega⟩, ?_⟩⟩)))))
  · show sliceable (H (r w)) = _
    rw [X.row w hw]; rfl
  rw [Int.toNat_natCast, nums_take]
  refine we_list (ws_cons (we_name (rd_cell rfl ((upd_ne _ _ (by dsimp only; omega)).trans X.c2)) (ws_nil ⟨by simp, _, _, bin_add (xs := nums ((rows w).take p)) (ys := nums [nu]) ((upd_ne _ _ (by dsimp only [St.add]; omega)).trans (upd_self _ _ _)) (upd_self _ _ _) (by rw [len_nums, len_nums]; simp; omega), ?_⟩)))
  rw [nums_app]
  have hG : ∀ a, a < n → upd (upd (upd H n (.list (nums ((rows w).take p)))) (n + 1) (.list (nums [nu]))) (n + 2) (.list (nums ((rows w).take p ++ [nu]))) a = H a := fun a ha => (upd_ne _ _ (by omega)).trans ((upd_ne _ _ (by omega)).trans (upd_ne _ _ (by omega)))
  have X3 : Rw (upd (upd (upd H n (.list (nums ((rows w).take p)))) (n + 1) (.list (nums [nu]))) (n + 2) (.list (nums ((rows w).take p ++ [nu])))) (n + 3) q r rows ds (some (.int (nu : Nat))) := X.of (by omega) fun a ha _ => hG a ha
  refine we_from (s_rows X3 hw rfl rfl (we_name (rd_loc rfl lk.which) ⟨rfl, rfl, we_name (rd_loc rfl lp) ⟨r w, p, nums (rows w), rfl, rfl, ?_, ⟨by omega, by omega, by rw [len_nums]; omega⟩, ?_⟩⟩))
  · refine (congrArg sliceable (X3.row w hw)).trans rfl
  rw [Int.toNat_natCast, nums_drop]
  refine ⟨_, _, bin_add (xs := nums ((rows w).take p ++ [nu])) (ys := nums ((rows w).drop p)) ((upd_ne _ _ (by dsimp only [St.add]; omega)).trans (upd_self _ _ _)) (upd_self _ _ _) (by rw [len_nums, len_nums, List.length_append]; simp; omega), ?_⟩
  rw [nums_app]
  have hG2 : ∀ a, a < n → upd (upd (upd (upd (upd H n (.list (nums ((rows w).take p)))) (n + 1) (.list (nums [nu]))) (n + 2) (.list (nums ((rows w).take p ++ [nu])))) (n + 3) (.list (nums ((rows w).drop p)))) (n + 4) (.list (nums ((rows w).take p ++ [nu] ++ (rows w).drop p))) a = H a := fun a ha => (upd_ne _ _ (by omega)).trans ((upd_ne _ _ (by omega)).trans (hG a ha))
  refine ⟨_, n + 5, q, r, rows, ds, _, t, w, n + 4, _, rfl, X.of (by omega) fun a ha _ => hG2 a ha, rfl, rd_loc rfl lk.which, hw, rfl, ⟨by omega, by omega, by omega⟩, upd_self _ _ _, fun H2 Y hne => q' H2 _ _ _ t Y ?_⟩
  exact (W.row hq.1 hn hG2 hne).congr hR
end Mine
end

section
open PySem PySem.W
set_option maxRecDepth 100000
namespace Mine
variable {i j w k q n d m nd nu : Nat} {R rows : Nat → List Nat} {r : Nat → Nat} {H H' : Nat → Option AO} {t loc loc' : List (Str × AV)} {ds : List AV} {num : Option AV}

theorem deed1b {Q : AFl → St → Prop} (X : Rw H n q r rows ds (some (.int (nu : Nat)))) (W : Wld { H := H, n := n, loc := loc } fun k => (rows k).map (· + 16)) (lk : Lk t d w m (nu + 16)) (hw : w < 3) (hne : rows w ≠ []) (hnu : 1 ≤ nu ∧ nu ≤ 6) (hf : ∀ k, k < 3 → nu ∉ rows k) (q' : Ends q ds nu Q) :
    Wx sc252 { H := H, n := n, loc := base2 q t } [nth (thenOf K1) 0, nth (thenOf K1) 1, nth (thenOf K1) 2] Q := by
  have hn := X.le
  have hlen := W.rlen hw
  have hpos : 0 < (rows w).length := List.length_pos_iff.mpr hne
  have e3 : (m : Int) / 3 = ((m / 3 : Nat) : Int) := by omega
  refine wx_one (w1_set (we_bin (we_bin (we_name (rd_loc rfl lk.more) (we_int ⟨_, _, rfl, we_len rfl (ws_cons (s_rows X hw rfl rfl (we_name (rd_loc rfl lk.which) ⟨rfl, rfl, ws_nil ⟨r w, _, rfl, X.row w hw, by rw [len_nums]; omega, ?_⟩⟩)))⟩)))))
  rw [e3, len_nums]
  refine ⟨_, _, bin_mod hpos, _, rfl, ?_⟩
  have hp : m / 3 % (rows w).length < (rows w).length := Nat.mod_lt _ hpos
  revert hp
  generalize m / 3 % (rows w).length = p
  intro hp
  have lk2 : Lk (setA "place" (.int (p : Nat)) t) d w m (nu + 16) := lk.set (by decide) (by decide) (by decide) (by decide)
  have lp := lookup_here ("place" : Str) (.int (p : Nat)) t
  obtain ⟨a, ha⟩ : ∃ a, (rows w)[p]? = some a := ⟨_, List.getElem?_eq_getElem hp⟩
  have eR : rows w = (rows w).take p ++ a :: (rows w).drop (p + 1) := by rw [← drop_cons ha, List.take_append_drop]
  have h6 := W.nod hw (w := a + 16) (List.mem_map.mpr ⟨a, by rw [eR]; simp, rfl⟩)
  have eM : (rows w).map (· + 16) = ((rows w).take p).map (· + 16) ++ (a + 16) :: ((rows w).drop (p + 1)).map (· + 16) := (congrArg (List.map (· + 16)) eR).trans (by rw [List.map_append, List.map_cons])
  refine wx_one (w1_if (wt_cmp (by decide) (we_bin (we_bin (we_name (rd_loc rfl lk2.more) (we_int ⟨_, _, rfl, we_int ⟨_, _, rfl, we_int ⟨_, rfl, br (fun e => ?_) (fun e => ?_)⟩⟩⟩))))))
  · refine wx_one (w1_expr (we_meth (by decide) (by decide) (we_name (rd_cell rfl X.c1) ⟨9, 193, [], 176, rfl, W.at.kd, rfl, rfl, ws_cons (we_sub rfl (we_name rfl (we_bin (we_sub rfl (s_rows X hw rfl rfl (we_name (rd_loc rfl lk2.which) ⟨rfl, rfl, we_name (rd_loc rfl lp) ⟨r w, p, nums (rows w), .int (a : Nat), rfl, rfl, X.row w hw, ⟨by omega, by omega, by rw [len_nums]; omega⟩, idx_nums ha, we_int ⟨_, _, rfl, 16, _, _, _, rfl, rfl, X.nodes, ⟨by omega, by omega, by decide⟩, idxN (by omega) (by omega), ws_cons (we_name (rd_loc rfl lk2.node) (ws_nil ?_))⟩⟩⟩)))))) ⟩)))
    refine (e176 (by decide) (by decide) W.at hw eM ⟨by omega, by omega⟩ (off16 hf)).mono ?_
    rintro _ st' ⟨rfl, W1, E⟩
    have X1 : Rw st'.H n q r rows ds (some (.int (nu : Nat))) := X.of (Nat.le_refl _) fun a _ h => E.H a h
    rw [E.eq] at W1
    rw [E.eq]
    refine ⟨rfl, ?_⟩
    revert X1 W1
    generalize st'.H = H1
    intro W1 X1
    refine wx_one (w1_aug ⟨p, rd_loc rfl lp, we_int ⟨1, _, rfl, rfl, wx_nil ?_⟩⟩)
    refine wx_one (ins_tail (p := p + 1) X1 W1 (lk2.set (by decide) (by decide) (by decide) (by decide)) hw hlen (by omega) (lookup_here _ _ _) (fun k hk => ?_) fun H' n' r2 rows2 t' Y W' => wx_nil (q' H' n' r2 rows2 t' Y W'))
    have ht : (rows w).take (p + 1) = (rows w).take p ++ [a] := by rw [List.take_add_one, ha]; rfl
    rw [ht]
    have := congrFun (rset_map (rows := rows) (w := w) (l := (rows w).take p ++ [a] ++ [nu] ++ (rows w).drop (p + 1))) k
    rw [this]
    simp
  · refine wx_one (w1_expr (we_meth (by decide) (by decide) (we_name (rd_cell rfl X.c1) ⟨9, 193, [], 183, rfl, W.at.kd, rfl, rfl, ws_cons (we_sub rfl (we_name rfl (we_bin (we_sub rfl (s_rows X hw rfl rfl (we_name (rd_loc rfl lk2.which) ⟨rfl, rfl, we_name (rd_loc rfl lp) ⟨r w, p, nums (rows w), .int (a : Nat), rfl, rfl, X.row w hw, ⟨by omega, by omega, by rw [len_nums]; omega⟩, idx_nums ha, we_int ⟨_, _, rfl, 16, _, _, _, rfl, rfl, X.nodes, ⟨by omega, by omega, by decide⟩, idxN (by omega) (by omega), ws_cons (we_name (rd_loc rfl lk2.node) (ws_nil ?_))⟩⟩⟩)))))) ⟩)))
    refine (e183 (by decide) (by decide) W.at hw eM rfl ⟨by omega, by omega⟩ (off16 hf)).mono ?_
    rintro _ st' ⟨rfl, W1, E⟩
    have X1 : Rw st'.H n q r rows ds (some (.int (nu : Nat))) := X.of (Nat.le_refl _) fun a _ h => E.H a h
    rw [E.eq] at W1
    rw [E.eq]
    refine ⟨rfl, wx_nil ?_⟩
    revert X1 W1
    generalize st'.H = H1
    intro W1 X1
    refine wx_one (ins_tail (p := p) X1 W1 lk2 hw hlen (by omega) lp (fun k hk => ?_) fun H' n' r2 rows2 t' Y W' => wx_nil (q' H' n' r2 rows2 t' Y W'))
    have hd : (rows w).drop p = a :: (rows w).drop (p + 1) := drop_cons ha
    rw [hd]
    have := congrFun (rset_map (rows := rows) (w := w) (l := (rows w).take p ++ [nu] ++ a :: (rows w).drop (p + 1))) k
    rw [this]
    simp

/-- the deeds from 3 on are passed over -/
theorem skip3 {Q : AFl → St → Prop} (lk : Lk t d w m nd) (hd : d < 3) (q' : Q .next { H := H, n := n, loc := base2 q t }) : W1 sc252 { H := H, n := n, loc := base2 q t } K3 Q := by
  refine w1_if (wt_cmp (by decide) (we_name (rd_loc rfl lk.deed) (we_int ⟨_, rfl, br (fun e => ?_) (fun e => ?_)⟩)))
  · have := of_decide_eq_true e; omega
  refine wx_one (w1_if (wt_and (wt_cmp (by decide) (we_name (rd_loc rfl lk.deed) (we_int ⟨_, rfl, br (fun e => ?_) (fun e => ?_)⟩)))))
  · have := of_decide_eq_true e; omega
  refine br (fun e => absurd e (by decide)) (fun _ => ?_)
  refine wx_one (w1_if (wt_cmp (by decide) (we_name (rd_loc rfl lk.deed) (we_int ⟨_, rfl, br (fun e => ?_) (fun e => ?_)⟩))))
  · have := of_decide_eq_true e; omega
  exact wx_nil (wx_nil (wx_nil q'))
theorem deed2 {Q : AFl → St → Prop} (X : Rw H n q r rows ds (some (.int (nu : Nat)))) (W : Wld { H := H, n := n, loc := loc } fun k => (rows k).map (· + 16)) (lk : Lk t 2 w m (nu + 16)) (q' : Ends q ds nu Q) :
    W1 sc252 { H := H, n := n, loc := base2 q t } (nth turn252 3) Q := by
  refine w1_if (wt_cmp (by decide) (we_name (rd_loc rfl lk.deed) (we_int ⟨false, rfl, br (fun e => absurd e (by decide)) (fun _ => ?_)⟩)))
  refine wx_one (w1_if (wt_and (wt_cmp (by decide) (we_name (rd_loc rfl lk.deed) (we_int ⟨false, rfl, br (fun e => absurd e (by decide)) (fun _ => ?_)⟩)))))
  refine br (fun e => absurd e (by decide)) (fun _ => ?_)
  exact wx_one (skip3 lk (by omega) (wx_nil (wx_nil (q' _ _ _ _ _ X W.at))))
theorem deed1 {Q : AFl → St → Prop} (X : Rw H n q r rows ds (some (.int (nu : Nat)))) (W : Wld { H := H, n := n, loc := loc } fun k => (rows k).map (· + 16)) (lk : Lk t 1 w m (nu + 16)) (hw : w < 3) (hnu : 1 ≤ nu ∧ nu ≤ 6) (hf : ∀ k, k < 3 → nu ∉ rows k) (q' : Ends q ds nu Q) :
    W1 sc252 { H := H, n := n, loc := base2 q t } (nth turn252 3) Q := by
  have hn := X.le
  have hr := X.hr w hw
  have hlen := W.rlen hw
  have hG : ∀ a, a < n → upd H n (.list []) a = H a := fun a ha => upd_ne _ _ (by omega)
  have X1 : Rw (upd H n (.list [])) (n + 1) q r rows ds (some (.int (nu : Nat))) := X.of (by omega) fun a ha _ => hG a ha
  have W1 : Wld { H := upd H n (.list []), n := n + 1, loc := [] } fun k => (rows k).map (· + 16) := W.low hn hG
  refine w1_if (wt_cmp (by decide) (we_name (rd_loc rfl lk.deed) (we_int ⟨false, rfl, br (fun e => absurd e (by decide)) (fun _ => ?_)⟩)))
  refine wx_one (w1_if (wt_and (wt_cmp (by decide) (we_name (rd_loc rfl lk.deed) (we_int ⟨true, rfl, br (fun _ => ?_) (fun e => absurd e (by decide))⟩)))))
  refine wt_cmp (by decide) (s_rows X hw rfl rfl (we_name (rd_loc rfl lk.which) ⟨rfl, rfl, we_list (ws_nil ⟨by simp, _, congrArg (Option.map not) (eqv_nums (x := rows w) (y := []) (X1.row w hw) (upd_self _ _ _) (by omega) (by decide)), br (fun e => ?_) (fun e => ?_)⟩)⟩))
  · exact deed1b X1 W1 lk hw (by simpa using e) hnu hf fun H' n' r2 rows2 t' Y W' => wx_nil (q' H' n' r2 rows2 t' Y W')
  · exact wx_one (skip3 lk (by omega) (wx_nil (wx_nil (q' _ _ _ _ _ X1 W1))))
end Mine
end

section
open PySem PySem.W
set_option maxRecDepth 100000
namespace Mine
variable {i j w k q n d m nd nu : Nat} {R rows : Nat → List Nat} {r : Nat → Nat} {H H' : Nat → Option AO} {t loc loc' : List (Str × AV)} {ds : List AV} {num : Option AV}

theorem wx_last {sc st s} {Q : AFl → St → Prop} (h : W1 sc st s Q) : Wx sc st [s] Q := by
  refine wx_one (W2.mono h fun fl st q => ?_)
  cases fl
  · exact wx_nil q
  · exact q
  · exact q
theorem to3 {Q : AFl → St → Prop} (lk : Lk t d w m nd) (hd : 3 ≤ d) (h : W1 sc252 { H := H, n := n, loc := base2 q t } K3 Q) : W1 sc252 { H := H, n := n, loc := base2 q t } (nth turn252 3) Q := by
  refine w1_if (wt_cmp (by decide) (we_name (rd_loc rfl lk.deed) (we_int ⟨_, rfl, br (fun e => ?_) (fun e => ?_)⟩)))
  · have := of_decide_eq_true e; omega
  refine wx_last (w1_if (wt_and (wt_cmp (by decide) (we_name (rd_loc rfl lk.deed) (we_int ⟨_, rfl, br (fun e => ?_) (fun e => ?_)⟩)))))
  · have := of_decide_eq_true e; omega
  exact br (fun e => absurd e (by decide)) (fun _ => wx_last h)

theorem drop_tail {Q : AFl → St → Prop} (X : Rw H n q r rows ds (some (.int (nu : Nat)))) (W : Wld { H := H, n := n, loc := loc } R) (lk : Lk t d w m nd) (hw : w < 3) (hlen : (rows w).length ≤ 6)
    (hR : ∀ k, k < 3 → (rset rows w ((rows w).drop 1) k).map (· + 16) = R k) (q' : Ends q ds nu Q) : W1 sc252 { H := H, n := n, loc := base2 q t } (nth (thenOf K3) 2) Q := by
  have hn := X.le
  have hq := X.hq
  have hr := X.hr w hw
  refine w1_row (we_from (s_rows X hw rfl rfl (we_name (rd_loc rfl lk.which) ⟨rfl, rfl, we_int ⟨r w, ((1 : Nat) : Int), nums (rows w), rfl, rfl, ?_, ⟨by omega, by omega, by rw [len_nums]; omega⟩, ?_⟩⟩)))
  · exact (congrArg sliceable (X.row w hw)).trans rfl
  rw [Int.toNat_natCast, nums_drop]
  have hG : ∀ a, a < n → upd H n (.list (nums ((rows w).drop 1))) a = H a := fun a ha => upd_ne _ _ (by omega)
  refine ⟨_, n + 1, q, r, rows, ds, _, t, w, n, _, rfl, X.of (by omega) fun a ha _ => hG a ha, rfl, rd_loc rfl lk.which, hw, rfl, ⟨by omega, by omega, by omega⟩, upd_self _ _ _, fun H2 Y hne => q' H2 _ _ _ t Y ?_⟩
  exact (W.row hq.1 hn hG hne).congr hR

theorem deed3 {Q : AFl → St → Prop} (X : Rw H n q r rows ds (some (.int (nu : Nat)))) (W : Wld { H := H, n := n, loc := loc } fun k => (rows k).map (· + 16)) (lk : Lk t 3 w m nd) (hw : w < 3) (q' : Ends q ds nu Q) :
    W1 sc252 { H := H, n := n, loc := base2 q t } (nth turn252 3) Q := by
  have hn := X.le
  have hr := X.hr w hw
  have hlen := W.rlen hw
  have q2 : Ends q ds nu fun fl st => match fl with | .next => Wx sc252 st [] Q | fl => Q fl st := fun H' n' r2 rows2 t' Y W' => wx_nil (q' H' n' r2 rows2 t' Y W')
  refine to3 lk (Nat.le_refl _) (w1_if (wt_cmp (by decide) (we_name (rd_loc rfl lk.deed) (we_int ⟨true, rfl, br (fun _ => ?_) (fun e => absurd e (by decide))⟩))))
  cases e : rows w with
  | nil =>
    have eR : (rows w).map (· + 16) = [] := by rw [e]; rfl
    refine wx_one (w1_set (k_list (k := w) rfl (by decide) rfl (by decide) hw (s_lists X hw rfl rfl (we_name (rd_loc rfl lk.which) ⟨rfl, rfl, rfl, ⟨_, W.at⟩, ws_nil ?_⟩))))
    refine (e91_nil (by decide) (by decide) W.at hw eR).mono ?_
    rintro _ _ ⟨rfl, rfl⟩
    refine ⟨_, rfl, ?_⟩
    have lk2 : Lk (setA "popped" .none t) 3 w m nd := lk.set (by decide) (by decide) (by decide) (by decide)
    have lp := lookup_here ("popped" : Str) .none t
    have hG : ∀ a, a < n → upd H n (.list []) a = H a := fun a ha => upd_ne _ _ (by omega)
    have X1 : Rw (upd H n (.list [])) (n + 1) q r rows ds (some (.int (nu : Nat))) := X.of (by omega) fun a ha _ => hG a ha
    have W1 : Wld { H := upd H n (.list []), n := n + 1, loc := [] } fun k => (rows k).map (· + 16) := W.low hn hG
    refine wx_one (w1_if (wt_cmp (by decide) (we_ifx (wt_cmp (by decide) (we_name (rd_loc rfl lp) (we_none ⟨true, rfl, br (fun _ => ?_) (fun e => absurd e (by decide))⟩))))))
    refine we_none (we_ifx (wt_cmp (by decide) (s_rows X hw rfl rfl (we_name (rd_loc rfl lk2.which) ⟨rfl, rfl, we_list (ws_nil ⟨by simp, _, congrArg (Option.map not) (eqv_nums (x := rows w) (y := []) (X1.row w hw) (upd_self _ _ _) (by omega) (by decide)), br (fun e' => ?_) (fun _ => ?_)⟩)⟩))))
    · simp [e] at e'
    refine we_none ⟨false, rfl, wx_nil ?_⟩
    exact wx_one (drop_tail X1 W1 lk2 hw hlen (fun k hk => by
      by_cases h : k = w
      · subst h; rw [rset_self, e]; rfl
      · rw [rset_ne h]) q2)
  | cons a s =>
    have eR : (rows w).map (· + 16) = (a + 16) :: s.map (· + 16) := by rw [e]; rfl
    have ha := W.nod hw (w := a + 16) (List.mem_map.mpr ⟨a, by rw [e]; simp, rfl⟩)
    refine wx_one (w1_set (k_list (k := w) rfl (by decide) rfl (by decide) hw (s_lists X hw rfl rfl (we_name (rd_loc rfl lk.which) ⟨rfl, rfl, rfl, ⟨_, W.at⟩, ws_nil ?_⟩))))
    refine (e91_cons (by decide) (by decide) W.at hw eR).mono ?_
    rintro _ st' ⟨rfl, W1, E⟩
    have X1 : Rw st'.H n q r rows ds (some (.int (nu : Nat))) := X.of (Nat.le_refl _) fun a _ h => E.H a h
    rw [E.eq] at W1
    rw [E.eq]
    refine ⟨_, rfl, ?_⟩
    revert X1 W1
    generalize st'.H = H1
    intro W1 X1
    have lk2 : Lk (setA "popped" (.obj (a + 16)) t) 3 w m nd := lk.set (by decide) (by decide) (by decide) (by decide)
    have lp := lookup_here ("popped" : Str) (.obj (a + 16)) t
    have hG : ∀ a, a < n → upd H1 n (.list []) a = H1 a := fun a ha => upd_ne _ _ (by omega)
    have X2 : Rw (upd H1 n (.list [])) (n + 1) q r rows ds (some (.int (nu : Nat))) := X1.of (by omega) fun a ha _ => hG a ha
    have W2 := W1.low (H' := upd H1 n (.list [])) (loc' := []) (n' := n + 1) hn hG
    refine wx_one (w1_if (wt_cmp (by decide) (we_ifx (wt_cmp (by decide) (we_name (rd_loc rfl lp) (we_none ⟨false, rfl, br (fun e => absurd e (by decide)) (fun _ => ?_)⟩))))))
    refine k_path (by decide) (by decide) (rd_loc rfl lp) W1.at ha (we_ifx (wt_cmp (by decide) (s_rows X1 hw rfl rfl (we_name (rd_loc rfl lk2.which) ⟨rfl, rfl, we_list (ws_nil ⟨by simp, _, congrArg (Option.map not) (eqv_nums (x := rows w) (y := []) (X2.row w hw) (upd_self _ _ _) (by omega) (by decide)), br (fun _ => ?_) (fun e' => ?_)⟩)⟩))))
    · refine we_sub rfl (s_rows X2 hw rfl rfl (we_name (rd_loc rfl lk2.which) ⟨rfl, rfl, we_int ⟨r w, ((0 : Nat) : Int), nums (rows w), .int (a : Nat), rfl, rfl, X2.row w hw, ⟨by omega, by omega, by rw [len_nums]; omega⟩, idx_nums (by rw [e]; rfl), false, ?_, wx_nil ?_⟩⟩))
      · show some (!decide (((a + 16 - 16 : Nat) : Int) = (a : Int))) = _
        simp
      exact wx_one (drop_tail X2 W2 lk2 hw hlen (fun k hk => by
        rw [e, congrFun (rset_map (rows := rows) (w := w) (l := (a :: s).drop 1)) k]; rfl) q2)
    · simp [e] at e'
end Mine
end

section
open PySem PySem.W
set_option maxRecDepth 100000
namespace Mine
variable {i j w k q n d m nd nu o : Nat} {R rows : Nat → List Nat} {r : Nat → Nat} {H H' : Nat → Option AO} {t loc loc' : List (Str × AV)} {ds : List AV} {num : Option AV}

/-- rows[x] = ... -/
theorem w1_rowx {Q : AFl → St → Prop} {sc st e op ip p1 p} {x : Str} (h : We sc st e fun v st' => ∃ H n q r rows ds num t k j l, st' = { H := H, n := n, loc := base2 q t } ∧ Rw H n q r rows ds num ∧ rd sc st' "rows" = some (.obj q) ∧ rd sc st' x = some (.int (k : Nat)) ∧ k < 3 ∧ v = .obj j ∧ (23 ≤ j ∧ j < n ∧ j ≠ q) ∧ H j = some (.list (nums l)) ∧
      (∀ H', Rw H' n q (nset r k j) (rset rows k l) ds num → (∀ a, a ≠ q → H' a = H a) → Q .next { H := H', n := n, loc := base2 q t })) : W1 sc st (.Assign [.Subscript (.Name "rows" op) (.Name x ip) p1] e p) Q := by
  refine w1_item (W2.mono h ?_)
  rintro v st' ⟨H, n, q, r, rows, ds, num, t, k, j, l, rfl, X, h1, h2, hk, rfl, hj, hl, q'⟩
  refine ⟨q, k, _, h1, h2, X.hrows, by omega, by simp; omega, by simp, ?_⟩
  have hq := X.hq
  have hne : ∀ a, a ≠ q → upd H q (.list ([AV.obj (r 0), .obj (r 1), .obj (r 2)].set (k : Int).toNat (.obj j))) a = H a := fun a ha => upd_ne _ _ ha
  refine q' _ ⟨X.le, (hne 1 (by omega)).trans X.c1, (hne 2 (by omega)).trans X.c2, (hne 8 (by omega)).trans X.c8, (hne 11 (by omega)).trans X.lists, (hne 16 (by omega)).trans X.nodes, X.hq, fun m hm => ?_, ?_, fun m hm => ?_⟩ hne
  · unfold nset
    split
    · exact hj
    · exact X.hr m hm
  · rw [upd_self, ← setR hk]; rfl
  · unfold nset rset
    split
    · exact (hne j hj.2.2).trans hl
    · exact (hne _ (X.hr m hm).2.2).trans (X.row m hm)

theorem to4 {Q : AFl → St → Prop} (lk : Lk t d w m nd) (hd : 4 ≤ d) (h : W1 sc252 { H := H, n := n, loc := base2 q t } K4 Q) : W1 sc252 { H := H, n := n, loc := base2 q t } (nth turn252 3) Q := by
  refine to3 lk (by omega) (w1_if (wt_cmp (by decide) (we_name (rd_loc rfl lk.deed) (we_int ⟨_, rfl, br (fun e => ?_) (fun e => ?_)⟩))))
  · have := of_decide_eq_true e; omega
  exact wx_last h
theorem deed4 {Q : AFl → St → Prop} (X : Rw H n q r rows ds (some (.int (nu : Nat)))) (W : Wld { H := H, n := n, loc := loc } fun k => (rows k).map (· + 16)) (lk : Lk t 4 w m nd) (hw : w < 3) (hm : m % 4 = 0) (q' : Ends q ds nu Q) :
    W1 sc252 { H := H, n := n, loc := base2 q t } (nth turn252 3) Q := by
  have hn := X.le
  have hq := X.hq
  refine to4 lk (Nat.le_refl _) (w1_if (wt_and (wt_cmp (by decide) (we_name (rd_loc rfl lk.deed) (we_int ⟨true, rfl, br (fun _ => ?_) (fun e => absurd e (by decide))⟩)))))
  refine wt_cmp (by decide) (we_bin (we_name (rd_loc rfl lk.more) (we_int ⟨_, _, rfl, we_int ⟨_, rfl, br (fun _ => ?_) (fun e => ?_)⟩⟩)))
  rotate_left
  · have := of_decide_eq_false e; omega
  refine wx_one (w1_expr (k_list (k := w) rfl (by decide) rfl (by decide) hw (s_lists X hw rfl rfl (we_name (rd_loc rfl lk.which) ⟨rfl, rfl, rfl, ⟨_, W.at⟩, ws_nil ?_⟩))))
  refine (e49 (by decide) (by decide) W.at hw).mono ?_
  rintro _ st' ⟨rfl, W1, E⟩
  have X1 : Rw st'.H n q r rows ds (some (.int (nu : Nat))) := X.of (Nat.le_refl _) fun a _ h => E.H a h
  rw [E.eq] at W1
  rw [E.eq]
  refine ⟨rfl, ?_⟩
  revert X1 W1
  generalize st'.H = H1
  intro W1 X1
  have hG : ∀ a, a < n → upd H1 n (.list []) a = H1 a := fun a ha => upd_ne _ _ (by omega)
  refine wx_last (w1_row (we_list (ws_nil ⟨by simp, _, n + 1, q, r, rows, ds, _, t, w, n, [], rfl, X1.of (by omega) fun a ha _ => hG a ha, rfl, rd_loc rfl lk.which, hw, rfl, ⟨by omega, by omega, by omega⟩, upd_self _ _ _, fun H2 Y hne => q' H2 _ _ _ t Y ?_⟩)))
  exact (W1.row hq.1 hn hG hne).congr fun k hk => (congrFun (rset_map (rows := rows) (w := w) (l := [])) k)
/-- the odd and the even -/
def pari (c : Nat) (l : List Nat) : List Nat := l.filter fun a => decide (a % 2 = c)
def parI (c : Nat) : AV → Bool
  | .int a => decide (a % 2 = (c : Int))
  | _ => true
theorem nums_pari (c : Nat) (l : List Nat) : ((nums l).filter (parI c)).map id = nums (pari c l) := by
  unfold nums pari
  rw [List.map_id, List.filter_map]
  congr 1
  apply List.filter_congr
  intro a _
  simp only [Function.comp_def, parI]
  rw [decide_eq_decide]
  omega
theorem even_tail {Q : AFl → St → Prop} (X : Rw H n q r rows ds (some (.int (nu : Nat)))) (W : Wld { H := H, n := n, loc := loc } R) (lk : Lk t d w m nd) (hw : w < 3) (hlen : (rows w).length ≤ 6)
    (hR : ∀ k, k < 3 → (rset rows w (pari 0 (rows w)) k).map (· + 16) = R k) (q' : Ends q ds nu Q) : W1 sc252 { H := H, n := n, loc := base2 q t } (nth (thenOf K5) 3) Q := by
  have hn := X.le
  have hq := X.hq
  have hr := X.hr w hw
  refine w1_row (comp_src rfl rfl rfl (s_rows X hw rfl rfl (we_name (rd_loc rfl lk.which) ⟨rfl, rfl, nums (rows w), parI 0, id, src_list (X.row w hw) (by dsimp only; omega) (by rw [len_nums]; omega), by rw [len_nums]; omega, ?_, ?_⟩)))
  · intro v hv H2 hH2
    obtain ⟨a, ha', rfl⟩ := List.mem_map.mp hv
    exact wts_one (wt_cmp (by decide) (we_bin (we_name rfl (we_int ⟨_, _, rfl, we_int ⟨_, rfl, rfl, rfl, fun _ => we_name rfl ⟨rfl, rfl⟩⟩⟩))))
  · intro H2 hH2 h2
    rw [nums_pari] at h2
    dsimp only at h2 hH2
    refine ⟨_, n + 1, q, r, rows, ds, _, t, w, n, _, rfl, X.of (by omega) fun a ha _ => hH2 a ha, rfl, rd_loc rfl lk.which, hw, rfl, ⟨by omega, by omega, by omega⟩, h2, fun H3 Y hne => q' H3 _ _ _ t Y ?_⟩
    exact (W.row hq.1 hn hH2 hne).congr hR
theorem odd_add {Q : AFl → St → Prop} (X : Rw H n q r rows ds (some (.int (nu : Nat)))) (W : Wld { H := H, n := n, loc := loc } R) (lk : Lk t 5 w m nd) (lo : t.lookup ("other" : Str) = some (.int (o : Nat))) (hw : w < 3) (ho : o < 3) (hlen : (rows w).length ≤ 6) (hlo : (rows o).length ≤ 6)
    (q' : ∀ H' n' r2, Rw H' n' q r2 (rset rows o (rows o ++ pari 1 (rows w))) ds (some (.int (nu : Nat))) → Wld { H := H', n := n', loc := [] } R → Q .next { H := H', n := n', loc := base2 q t }) : W1 sc252 { H := H, n := n, loc := base2 q t } (nth (thenOf K5) 2) Q := by
  have hn := X.le
  have hq := X.hq
  have hr := X.hr w hw
  have hp : (pari 1 (rows w)).length ≤ 6 := Nat.le_trans (List.length_filter_le _ _) hlen
  refine w1_if (wt_cmp (by decide) (we_name (rd_loc rfl lk.deed) (we_int ⟨true, rfl, br (fun _ => ?_) (fun e => absurd e (by decide))⟩)))
  refine wx_last (w1_rowx (we_bin (s_rows X ho rfl rfl (we_name (rd_loc rfl lo) ⟨rfl, rfl, comp_src rfl rfl rfl (s_rows X hw rfl rfl (we_name (rd_loc rfl lk.which) ⟨rfl, rfl, nums (rows w), parI 1, id, src_list (X.row w hw) (by dsimp only; omega) (by rw [len_nums]; omega), by rw [len_nums]; omega, ?_, ?_⟩))⟩))))
  · intro v hv H2 hH2
    obtain ⟨a, ha', rfl⟩ := List.mem_map.mp hv
    exact wts_one (wt_cmp (by decide) (we_bin (we_name rfl (we_int ⟨_, _, rfl, we_int ⟨_, rfl, rfl, rfl, fun _ => we_name rfl ⟨rfl, rfl⟩⟩⟩))))
  · intro H2 hH2 h2
    rw [nums_pari] at h2
    dsimp only at h2 hH2
    have X2 : Rw H2 (n + 1) q r rows ds (some (.int (nu : Nat))) := X.of (by omega) fun a ha _ => hH2 a ha
    refine ⟨_, _, bin_add (X2.row o ho) h2 (by rw [len_nums, len_nums]; omega), ?_⟩
    rw [nums_app]
    have hG : ∀ a, a < n → upd H2 (n + 1) (.list (nums (rows o ++ pari 1 (rows w)))) a = H a := fun a ha => (upd_ne _ _ (by omega)).trans (hH2 a ha)
    refine ⟨_, n + 2, q, r, rows, ds, _, t, o, n + 1, _, rfl, X.of (by omega) fun a ha _ => hG a ha, rfl, rd_loc rfl lo, ho, rfl, ⟨by omega, by omega, by omega⟩, upd_self _ _ _, fun H3 Y hne => q' H3 _ _ Y (W.row hq.1 hn hG hne)⟩
theorem odd_skip {Q : AFl → St → Prop} (lk : Lk t 4 w m nd) (q' : Q .next { H := H, n := n, loc := base2 q t }) : W1 sc252 { H := H, n := n, loc := base2 q t } (nth (thenOf K5) 2) Q := by
  refine w1_if (wt_cmp (by decide) (we_name (rd_loc rfl lk.deed) (we_int ⟨false, rfl, br (fun e => absurd e (by decide)) (fun _ => ?_)⟩)))
  exact wx_nil q'
end Mine
end

section
open PySem PySem.W
set_option maxRecDepth 100000
namespace Mine
variable {i j w k q n d m nd nu o a : Nat} {R rows : Nat → List Nat} {r : Nat → Nat} {H H' : Nat → Option AO} {t loc loc' : List (Str × AV)} {ds : List AV} {num : Option AV}

def part (rows : Nat → List Nat) (w o d j : Nat) : Nat → List Nat := fun k => if k = w then pari 0 ((rows w).take j) ++ (rows w).drop j else if k = o then rows o ++ (if d = 5 then pari 1 ((rows w).take j) else []) else rows k
theorem part_w : part rows w o d j w = pari 0 ((rows w).take j) ++ (rows w).drop j := if_pos rfl
theorem pari_snoc {c : Nat} {l : List Nat} : pari c (l ++ [a]) = pari c l ++ (if a % 2 = c then [a] else []) := by
  unfold pari
  rw [List.filter_append]
  congr 1
  by_cases h : a % 2 = c <;> simp [h]
theorem part_0 : ∀ k, part rows w o d 0 k = rows k := by
  intro k
  unfold part
  by_cases h : k = w
  · subst h; simp [pari]
  · rw [if_neg h]
    by_cases h2 : k = o
    · subst h2; simp [pari]
    · rw [if_neg h2]
theorem take_s (ha : (rows w)[j]? = some a) : (rows w).take (j + 1) = (rows w).take j ++ [a] := by rw [List.take_add_one, ha]; rfl
theorem part_even (ha : (rows w)[j]? = some a) (h : a % 2 = 0) : part rows w o d (j + 1) = part rows w o d j := by
  funext k
  unfold part
  have h1 : ¬ a % 2 = 1 := by omega
  rw [take_s ha, pari_snoc, pari_snoc, if_pos h, if_neg h1, drop_cons ha]
  simp
/-- after the taking off of an odd one -/
def gone (rows : Nat → List Nat) (w o d j : Nat) : Nat → List Nat := rset (part rows w o d j) w (pari 0 ((rows w).take j) ++ (rows w).drop (j + 1))
theorem part_odd4 (ha : (rows w)[j]? = some a) (h : a % 2 = 1) (hd : d ≠ 5) : part rows w o d (j + 1) = gone rows w o d j := by
  funext k
  unfold gone rset part
  have h1 : ¬ a % 2 = 0 := by omega
  rw [take_s ha, pari_snoc, if_neg h1, if_neg hd, List.append_nil]
  by_cases e : k = w
  · simp [e]
  · simp [e, hd]
theorem part_odd5 (ha : (rows w)[j]? = some a) (h : a % 2 = 1) (ho : o ≠ w) : part rows w o 5 (j + 1) = rset (gone rows w o 5 j) o (gone rows w o 5 j o ++ [a]) := by
  funext k
  unfold gone rset part
  have h1 : ¬ a % 2 = 0 := by omega
  rw [take_s ha, pari_snoc, pari_snoc, if_neg h1, if_pos h, List.append_nil]
  by_cases e : k = w
  · subst e; simp [Ne.symm ho]
  · by_cases e2 : k = o
    · subst e2; simp [e]
    · simp [e, e2]

theorem loop5 {Q : AFl → St → Prop} (X : Rw H n q r rows ds (some (.int (nu : Nat)))) (W : Wld { H := H, n := n, loc := loc } fun k => (rows k).map (· + 16)) (lk : Lk t d w m nd) (lo : t.lookup ("other" : Str) = some (.int (o : Nat))) (hw : w < 3) (ho : o < 3) (how : o ≠ w)
    (q' : ∀ H' t', (∀ a, ¬U a → H' a = H a) → Lk t' d w m nd → t'.lookup ("other" : Str) = some (.int (o : Nat)) → Wld { H := H', n := n, loc := [] } (fun k => (part rows w o d (rows w).length k).map (· + 16)) → Q .next { H := H', n := n, loc := base2 q t' }) :
    W1 sc252 { H := H, n := n, loc := base2 q t } (nth (thenOf K5) 1) Q := by
  have hn := X.le
  have hq := X.hq
  have hlen := W.rlen hw
  refine w1_for (s_lists X hw rfl rfl (we_name (rd_loc rfl lk.which) ⟨rfl, rfl, ?_⟩))
  refine wl_ring hw (l := (rows w).map (· + 16)) (fun j st => ∃ H' t', st = { H := H', n := n, loc := base2 q t' } ∧ (∀ a, ¬U a → H' a = H a) ∧ Lk t' d w m nd ∧ t'.lookup ("other" : Str) = some (.int (o : Nat)) ∧ Wld { H := H', n := n, loc := [] } fun k => (part rows w o d j k).map (· + 16)) ?_ (by decide) (by decide) (by rw [List.length_map]; omega) ⟨_, W.at, rfl⟩ ?_ ?_ ?_
  · exact ⟨H, t, rfl, fun _ _ => rfl, lk, lo, W.at.congr fun k _ => by rw [part_0]⟩
  · rintro j st hj ⟨H', t', rfl, hH, lk', lo', W'⟩
    exact ⟨_, (pari 0 ((rows w).take j)).map (· + 16), W'.at, by rw [part_w, List.map_append, List.map_drop]⟩
  · rintro j x st hx ⟨H', t', rfl, hH, lk', lo', W'⟩
    rw [List.getElem?_map] at hx
    obtain ⟨a, ha, rfl⟩ := Option.map_eq_some_iff.mp hx
    have X' : Rw H' n q r rows ds (some (.int (nu : Nat))) := X.of (Nat.le_refl _) fun a _ h => hH a h
    have eW : (part rows w o d j w).map (· + 16) = (pari 0 ((rows w).take j)).map (· + 16) ++ (a + 16) :: ((rows w).drop (j + 1)).map (· + 16) := by
      rw [part_w, drop_cons ha, List.map_append, List.map_cons]
    have hA := W'.nod hw (w := a + 16) (by rw [eW]; simp)
    have lk2 : Lk (setA "one" (.obj (a + 16)) t') d w m nd := lk'.set (by decide) (by decide) (by decide) (by decide)
    have lo2 : (setA "one" (.obj (a + 16)) t').lookup ("other" : Str) = some (.int (o : Nat)) := lk_ne (by decide) lo'
    have l1 := lookup_here ("one" : Str) (.obj (a + 16)) t'
    refine wb_for ⟨_, rfl, ?_⟩
    refine wx_last (w1_if (wt_cmp (by decide) (we_bin (k_path (by decide) (by decide) (rd_loc rfl l1) W'.at hA (we_int ⟨_, _, rfl, we_int ⟨_, rfl, br (fun e => ?_) (fun e => ?_)⟩⟩)))))
    · have e := of_decide_eq_true e
      have h1 : a % 2 = 1 := by omega
      refine wx_one (w1_expr (k_list (k := w) rfl (by decide) rfl (by decide) hw (s_lists X' hw rfl rfl (we_name (rd_loc rfl lk2.which) ⟨rfl, rfl, rfl, ⟨_, W'.at⟩, ws_cons (we_name (rd_loc rfl l1) (ws_nil ?_))⟩))))
      refine (e84 (by decide) (by decide) W'.at hw hA).mono ?_
      rintro _ st' ⟨rfl, W1, E⟩
      rw [E.eq] at W1
      rw [E.eq]
      refine ⟨rfl, ?_⟩
      have hH1 : ∀ a, ¬U a → st'.H a = H a := fun a h => (E.H a h).trans (hH a h)
      revert W1 hH1
      generalize st'.H = H1
      intro W1 hH1
      have X1 : Rw H1 n q r rows ds (some (.int (nu : Nat))) := X.of (Nat.le_refl _) fun a _ h => hH1 a h
      have eG : ∀ k, k < 3 → (gone rows w o d j k).map (· + 16) = sans (fun k => (part rows w o d j k).map (· + 16)) (a + 16) k := by
        intro k hk
        rw [W'.sans_on hw eW k hk, ← List.map_append]
        exact congrFun (rset_map (rows := part rows w o d j) (w := w)) k
      have W2 : Wld { H := H1, n := n, loc := [] } fun k => (gone rows w o d j k).map (· + 16) := W1.at.congr eG
      refine wx_last (w1_if (wt_cmp (by decide) (we_name (rd_loc rfl lk2.deed) (we_int ⟨_, rfl, br (fun e => ?_) (fun e => ?_)⟩))))
      · have e := of_decide_eq_true e
        have h5 : d = 5 := by omega
        subst h5
        have hf : ∀ k, k < 3 → a + 16 ∉ (gone rows w o 5 j k).map (· + 16) := by
          intro k hk h
          rw [eG k hk] at h
          simp [sans] at h
        refine wx_last (w1_expr (k_list (k := o) rfl (by decide) rfl (by decide) ho (s_lists X1 ho rfl rfl (we_name (rd_loc rfl lo2) ⟨rfl, rfl, rfl, ⟨_, W2.at⟩, ws_cons (we_name (rd_loc rfl l1) (ws_nil ?_))⟩))))
        refine (e63 (by decide) (by decide) W2.at ho hA hf).mono ?_
        rintro _ st' ⟨rfl, W3, E⟩
        rw [E.eq] at W3
        rw [E.eq]
        refine ⟨rfl, rfl, _, _, rfl, fun a h => (E.H a h).trans (hH1 a h), lk2, lo2, W3.at.congr fun k hk => ?_⟩
        rw [part_odd5 ha h1 how]
        refine (congrFun (rset_map (rows := gone rows w o 5 j) (w := o)) k).trans ?_
        rw [List.map_append]; rfl
      · have e := of_decide_eq_false e
        refine wx_nil ⟨rfl, _, _, rfl, hH1, lk2, lo2, W2.congr fun k hk => ?_⟩
        rw [part_odd4 ha h1 (by omega)]
    · have e := of_decide_eq_false e
      have h0 : a % 2 = 0 := by omega
      refine wx_nil ⟨rfl, _, _, rfl, hH, lk2, lo2, W'.congr fun k hk => ?_⟩
      rw [part_even ha h0]
  · rintro st ⟨H', t', rfl, hH, lk', lo', W'⟩
    rw [List.length_map] at W'
    exact q' H' t' hH lk' lo' W'
end Mine
end

section
open PySem PySem.W
set_option maxRecDepth 100000
namespace Mine
variable {i j w k q n d m nd nu o a : Nat} {R rows : Nat → List Nat} {r : Nat → Nat} {H H' : Nat → Option AO} {t loc loc' : List (Str × AV)} {ds : List AV} {num : Option AV}

theorem to5 {Q : AFl → St → Prop} (lk : Lk t d w m nd) (hd : d = 4 ∧ m % 4 ≠ 0 ∨ d = 5) (h : W1 sc252 { H := H, n := n, loc := base2 q t } K5 Q) : W1 sc252 { H := H, n := n, loc := base2 q t } (nth turn252 3) Q := by
  refine to4 lk (by omega) (w1_if (wt_and (wt_cmp (by decide) (we_name (rd_loc rfl lk.deed) (we_int ⟨_, rfl, br (fun e => ?_) (fun e => ?_)⟩)))))
  · have e := of_decide_eq_true e
    refine wt_cmp (by decide) (we_bin (we_name (rd_loc rfl lk.more) (we_int ⟨_, _, rfl, we_int ⟨_, rfl, br (fun e2 => ?_) (fun _ => ?_)⟩⟩)))
    · have := of_decide_eq_true e2; omega
    · exact wx_last h
  · exact br (fun e => absurd e (by decide)) (fun _ => wx_last h)
theorem deed45 {Q : AFl → St → Prop} (X : Rw H n q r rows ds (some (.int (nu : Nat)))) (W : Wld { H := H, n := n, loc := loc } fun k => (rows k).map (· + 16)) (lk : Lk t d w m nd) (hw : w < 3) (hd : d = 4 ∧ m % 4 ≠ 0 ∨ d = 5) (q' : Ends q ds nu Q) :
    W1 sc252 { H := H, n := n, loc := base2 q t } (nth turn252 3) Q := by
  have hn := X.le
  refine to5 lk hd (w1_if (wt_cmp (by decide) (we_name (rd_loc rfl lk.deed) (we_int ⟨_, rfl, br (fun e => ?_) (fun e => ?_)⟩))))
  rotate_left
  · have := of_decide_eq_false e; omega
  refine wx_one (w1_set (we_bin (we_bin (we_bin (we_name (rd_loc rfl lk.which) (we_int ⟨_, _, rfl, we_bin (we_name (rd_loc rfl lk.more) (we_int ⟨_, _, rfl, _, _, rfl, we_int ⟨_, _, rfl, _, rfl, ?_⟩⟩))⟩))))))
  have eo : ((w : Int) + 1 + (m : Int) % 2) % 3 = (((w + 1 + m % 2) % 3 : Nat) : Int) := by omega
  rw [eo]
  have ho : (w + 1 + m % 2) % 3 < 3 := Nat.mod_lt _ (by decide)
  have how : (w + 1 + m % 2) % 3 ≠ w := by omega
  revert ho how
  generalize (w + 1 + m % 2) % 3 = o
  intro ho how
  have lk1 : Lk (setA "other" (.int (o : Nat)) t) d w m nd := lk.set (by decide) (by decide) (by decide) (by decide)
  have lo1 := lookup_here ("other" : Str) (.int (o : Nat)) t
  refine wx_one (loop5 X W lk1 lo1 hw ho how fun H2 t2 hH lk2 lo2 W2 => ?_)
  have X2 : Rw H2 n q r rows ds (some (.int (nu : Nat))) := X.of (Nat.le_refl _) fun a _ h => hH a h
  have hl := W.rlen hw
  have hlo := W.rlen ho
  have q2 : Ends q ds nu fun fl st => match fl with | .next => Wx sc252 st [] Q | fl => Q fl st := fun H' n' r2 rows2 t' Y W' => wx_nil (q' H' n' r2 rows2 t' Y W')
  have ew : part rows w o d (rows w).length w = pari 0 (rows w) := by rw [part_w, List.take_length, List.drop_length, List.append_nil]
  rcases hd with ⟨rfl, _⟩ | rfl
  · refine wx_one (odd_skip lk2 ?_)
    refine wx_one (even_tail X2 W2 lk2 hw hl (fun k hk => ?_) q2)
    congr 1
    unfold rset
    split
    · rename_i h; subst h; exact ew.symm
    · rename_i h
      unfold part
      rw [if_neg h]
      split
      · rename_i h; subst h; simp
      · rfl
  · refine wx_one (odd_add X2 W2 lk2 lo2 hw ho hl hlo fun H3 n3 r3 X3 W3 => ?_)
    have ek : rset rows o (rows o ++ pari 1 (rows w)) w = rows w := rset_ne (Ne.symm how)
    refine wx_one (even_tail X3 W3 lk2 hw (by rw [ek]; exact hl) (fun k hk => ?_) q2)
    congr 1
    rw [ek]
    unfold rset
    split
    · rename_i h; subst h; exact ew.symm
    · rename_i h
      unfold part
      rw [if_neg h]
      split
      · rename_i h; subst h; rw [List.take_length]; rfl
      · rfl
/-- a turn's deed -/
theorem deed {Q : AFl → St → Prop} {D : Nat} (X : Rw H n q r rows ds (some (.int ((1 + D / 18 % 6 : Nat) : Int)))) (W : Wld { H := H, n := n, loc := loc } fun k => (rows k).map (· + 16)) (lk : Lk t (D % 6) (D / 6 % 3) (D / 108) (1 + D / 18 % 6 + 16))
    (q' : ∀ H' n' q r2 rows2 t', Rw H' n' q r2 rows2 ds (some (.int ((1 + D / 18 % 6 : Nat) : Int))) → Wld { H := H', n := n', loc := [] } (fun k => (rows2 k).map (· + 16)) → Wx sc252 { H := H', n := n', loc := base2 q t' } [nth turn252 4] Q) :
    Wx sc252 { H := H, n := n, loc := base2 q t } [nth turn252 2, nth turn252 3, nth turn252 4] Q := by
  have hw : D / 6 % 3 < 3 := Nat.mod_lt _ (by decide)
  have hnu : 1 ≤ 1 + D / 18 % 6 ∧ 1 + D / 18 % 6 ≤ 6 := by omega
  revert lk X q'
  generalize 1 + D / 18 % 6 = nu at hnu ⊢
  have hd : D % 6 < 6 := Nat.mod_lt _ (by decide)
  generalize D % 6 = d at hd ⊢
  generalize D / 6 % 3 = w at hw ⊢
  generalize D / 108 = m
  intro X lk q'
  by_cases h3 : d < 3
  · refine wx_one (p2 X W lk h3 hnu fun H1 n1 q1 r1 X1 W1 => wx_one ?_)
    have hf : ∀ k, k < 3 → nu ∉ strip rows nu k := fun k _ h => by simp [strip] at h
    have : d = 0 ∨ d = 1 ∨ d = 2 := by omega
    rcases this with rfl | rfl | rfl
    · exact deed0 X1 W1 lk hw hnu hf fun H' n' r2 rows2 t' Y W' => q' _ _ _ _ _ _ Y W'
    · exact deed1 X1 W1 lk hw hnu hf fun H' n' r2 rows2 t' Y W' => q' _ _ _ _ _ _ Y W'
    · exact deed2 X1 W1 lk fun H' n' r2 rows2 t' Y W' => q' _ _ _ _ _ _ Y W'
  · refine wx_one (p2' lk (by omega) (wx_one ?_))
    by_cases h4 : d = 3
    · subst h4
      exact deed3 X W lk hw fun H' n' r2 rows2 t' Y W' => q' _ _ _ _ _ _ Y W'
    · by_cases h5 : d = 4 ∧ m % 4 = 0
      · obtain ⟨rfl, hm⟩ := h5
        exact deed4 X W lk hw hm fun H' n' r2 rows2 t' Y W' => q' _ _ _ _ _ _ Y W'
      · exact deed45 X W lk hw (by omega) fun H' n' r2 rows2 t' Y W' => q' _ _ _ _ _ _ Y W'
end Mine
end

section
open PySem PySem.W
set_option maxRecDepth 100000
namespace Mine
variable {i j w k q n d m nd nu o a : Nat} {R rows : Nat → List Nat} {r : Nat → Nat} {H H' : Nat → Option AO} {t loc loc' : List (Str × AV)} {ds : List AV} {num : Option AV}

theorem alike {Q : AFl → St → Prop} (X : Rw H n q r rows ds num) (W : Wld { H := H, n := n, loc := loc } fun k => (rows k).map (· + 16))
    (q' : ∀ H' n', Rw H' n' q r rows ds num → Wld { H := H', n := n', loc := [] } (fun k => (rows k).map (· + 16)) → Q .next { H := H', n := n', loc := base2 q t }) : W1 sc252 { H := H, n := n, loc := base2 q t } (nth turn252 4) Q := by
  refine w1_if (wt_not (wt_val rfl (we_alike rfl ?_)))
  refine ws_cons (we_name (rd_cell rfl X.c1) (ws_cons (we_name rfl ?_)))
  refine ws_cons (we_name rfl (ws_cons (we_name rfl (ws_nil ?_))))
  refine (c247 (by decide) (by decide) (X.frm W.at)).mono ?_
  rintro _ ⟨H', n', l'⟩ ⟨rfl, hl, G⟩
  dsimp only at hl
  subst hl
  have hn := X.le
  refine ⟨true, rfl, br (fun e => absurd e (by decide)) (fun _ => wx_nil (q' H' n' (X.of G.n fun a ha _ => G.H a ha) (W.low hn G.H)))⟩
theorem main_loop {Q : AFl → St → Prop} {Ds : List Nat} (X : Rw H n q r rows (nums Ds) num) (W : Wld { H := H, n := n, loc := loc } fun k => (rows k).map (· + 16)) (hl : Ds.length < 1000) (q' : ∀ st', Q (.ret (.bool true)) st') :
    Wx sc252 { H := H, n := n, loc := base2 q t } [nth F252.1.body 4, nth F252.1.body 5] Q := by
  refine wx_one (w1_for (we_name rfl ?_))
  refine wl_list (xs := nums Ds) (fun j st => ∃ H n q r rows num t, st = { H := H, n := n, loc := base2 q t } ∧ Rw H n q r rows (nums Ds) num ∧ Wld { H := H, n := n, loc := [] } fun k => (rows k).map (· + 16)) ?_ ?_ (by rw [len_nums]; exact hl) ?_ ?_
  · exact ⟨_, _, _, _, _, _, _, rfl, X, W.at⟩
  · rintro j st ⟨H, n, q, r, rows, num, t, rfl, X, W⟩
    exact X.c8
  · rintro j v st hv ⟨H, n, q, r, rows, num, t, rfl, X, W⟩
    unfold nums at hv
    rw [List.getElem?_map] at hv
    obtain ⟨D, hD, rfl⟩ := Option.map_eq_some_iff.mp hv
    refine wb_for ⟨_, rfl, ?_⟩
    refine p01 (t := setA "draw" (.int (D : Nat)) t) X (lookup_here _ _ _) fun H1 t1 X1 hH1 lk => ?_
    have W1 : Wld { H := H1, n := n, loc := [] } fun k => (rows k).map (· + 16) := W.of (hH1 9 (by decide)) fun i hi => hH1 i (by unfold U at hi; omega)
    refine deed X1 W1 lk fun H2 n2 q2 r2 rows2 t2 X2 W2 => wx_last ?_
    exact alike X2 W2 fun H3 n3 X3 W3 => ⟨rfl, _, _, _, _, _, _, _, rfl, X3, W3⟩
  · rintro st ⟨H, n, q, r, rows, num, t, rfl, X, W⟩
    exact wx_one (w1_ret (we_bool (q' _)))
end Mine
end

section
open PySem PySem.W
set_option maxRecDepth 100000
namespace Mine
variable {st : St} {dep un i j : Nat} {F : List (Str × AV)} {kd : AV}

def F113 : {F : Fn // T 113 = some F} := ⟨_, rfl⟩
def F120 : {F : Fn // T 120 = some F} := ⟨_, rfl⟩
def F134 : {F : Fn // T 134 = some F} := ⟨_, rfl⟩
def F35 : {F : Fn // T 35 = some F} := ⟨_, rfl⟩
def F212 : {F : Fn // T 212 = some F} := ⟨_, rfl⟩

/- a new head -/
theorem i141 (hd : dep < 790) (hu : un < 8900) (hi : st.H i = some (.inst 101 F)) (hF : F.lookup ("next_on_list" : Str) = none) : Wc dep un st 141 [kd, .obj i] fun r st' => r = .none ∧ st' = st := by
  refine wc_call F141.2 rfl (by decide) (by omega) (by omega) (by decide) rfl rfl ?_
  refine wx_one (w1_try (.inl rfl) rfl ⟨i, 101, F, rfl, hi, .inl rfl, fun u h => absurd (hF.symm.trans h) (by simp), ?_⟩)
  rw [hF]
  exact ⟨rfl, rfl⟩
theorem i155 (hd : dep < 790) (hu : un < 8900) (hi : st.H i = some (.inst 101 F)) (hF : F.lookup ("prev_on_list" : Str) = none) : Wc dep un st 155 [kd, .obj i] fun r st' => r = .none ∧ st' = st := by
  refine wc_call F155.2 rfl (by decide) (by omega) (by omega) (by decide) rfl rfl ?_
  refine wx_one (w1_try (.inr rfl) rfl ⟨i, 101, F, rfl, hi, .inl rfl, fun u h => absurd (hF.symm.trans h) (by simp), ?_⟩)
  rw [hF]
  exact ⟨rfl, rfl⟩
theorem i148 (hd : dep < 790) (hu : un < 8900) (hi : st.H i = some (.inst 101 F)) (hl : F.length < 100) : Wc dep un st 148 [kd, .obj i, .obj j] fun r st' => r = .none ∧ st' = { st with H := upd st.H i (.inst 101 (setA "next_on_list" (.obj j) F)) } := by
  refine wc_call F148.2 rfl (by decide) (by omega) (by omega) (by decide) rfl rfl ?_
  refine wx_one (w1_fld (we_name rfl ⟨i, 101, F, rfl, hi, .inl rfl, by decide, hl, ?_⟩))
  exact wx_nil ⟨rfl, rfl⟩
theorem i162 (hd : dep < 790) (hu : un < 8900) (hi : st.H i = some (.inst 101 F)) (hl : F.length < 100) : Wc dep un st 162 [kd, .obj i, .obj j] fun r st' => r = .none ∧ st' = { st with H := upd st.H i (.inst 101 (setA "prev_on_list" (.obj j) F)) } := by
  refine wc_call F162.2 rfl (by decide) (by omega) (by omega) (by decide) rfl rfl ?_
  refine wx_one (w1_fld (we_name rfl ⟨i, 101, F, rfl, hi, .inl rfl, by decide, hl, ?_⟩))
  exact wx_nil ⟨rfl, rfl⟩
theorem i169 (hd : dep < 780) (hu : un < 8800) (h9 : st.H 9 = some (.inst 193 [])) (hi : st.H i = some (.inst 101 F)) (hF : F.lookup ("next_on_list" : Str) = none) (hF2 : F.lookup ("prev_on_list" : Str) = none) : Wc dep un st 169 [.obj 9, .obj i] fun r st' => r = .bool false ∧ st' = st := by
  refine wc_call F169.2 rfl (by decide) (by omega) (by omega) (by decide) rfl rfl ?_
  refine wx_one (w1_set (we_meth (by decide) (by decide) (we_name rfl ⟨9, 193, [], 141, rfl, h9, rfl, rfl, ws_cons (we_name rfl (ws_nil ((i141 (by dsimp only; omega) (by dsimp only; omega) (by exact hi) hF).mono ?_)))⟩)))
  rintro r st' ⟨rfl, rfl⟩
  refine ⟨_, rfl, ?_⟩
  refine wx_one (w1_if (wt_or (wt_cmp (by decide) (we_name rfl (we_name rfl ⟨false, rfl, br (fun e => absurd e (by decide)) (fun _ => ?_)⟩)))))
  refine wt_cmp (by decide) (we_name rfl (we_none ⟨true, rfl, br (fun _ => ?_) (fun e => absurd e (by decide))⟩))
  refine wx_one (w1_assert (wt_cmp (by decide) (we_meth (by decide) (by decide) (we_name rfl ⟨9, 193, [], 155, rfl, h9, rfl, rfl, ws_cons (we_name rfl (ws_nil ((i155 (by dsimp only; omega) (by dsimp only; omega) (by exact hi) hF2).mono ?_)))⟩))))
  rintro r st' ⟨rfl, rfl⟩
  exact we_name rfl ⟨true, rfl, rfl, wx_one (w1_ret (we_bool ⟨rfl, rfl⟩))⟩
def hdF (i : Nat) : List (Str × AV) := [(("list_type" : Str), .obj 9), (("head" : Str), .obj i), (("next_on_list" : Str), .obj i), (("prev_on_list" : Str), .obj i)]
theorem i134 (hd : dep < 770) (hu : un < 8700) (h9 : st.H 9 = some (.inst 193 [])) (h9i : i ≠ 9) (hi : st.H i = some (.inst 101 [(("list_type" : Str), .obj 9), (("head" : Str), .obj i)])) : Wc dep un st 134 [.obj 9, .obj i] fun r st' => r = .none ∧ st'.n = st.n ∧ st'.loc = st.loc ∧ (∀ a, a ≠ i → st'.H a = st.H a) ∧ st'.H i = some (.inst 101 (hdF i)) := by
  refine wc_call F134.2 rfl (by decide) (by omega) (by omega) (by decide) rfl rfl ?_
  refine wx_one (w1_assert (wt_not (wt_val rfl (we_meth (by decide) (by decide) (we_name rfl ⟨9, 193, [], 169, rfl, h9, rfl, rfl, ws_cons (we_name rfl (ws_nil ((i169 (by dsimp only; omega) (by dsimp only; omega) (by exact h9) (by exact hi) rfl rfl).mono ?_)))⟩)))))
  rintro r st' ⟨rfl, rfl⟩
  refine ⟨false, rfl, rfl, ?_⟩
  refine wx_one (w1_expr (we_meth (by decide) (by decide) (we_name rfl ⟨9, 193, [], 148, rfl, h9, rfl, rfl, ws_cons (we_name rfl (ws_cons (we_name rfl (ws_nil ((i148 (by dsimp only; omega) (by dsimp only; omega) (by exact hi) (by simp)).mono ?_)))))⟩)))
  rintro r st' ⟨rfl, rfl⟩
  have h92 : upd st.H i (.inst 101 (setA "next_on_list" (.obj i) [(("list_type" : Str), .obj 9), (("head" : Str), .obj i)])) 9 = some (.inst 193 []) := (upd_ne _ _ (Ne.symm h9i)).trans h9
  refine ⟨rfl, wx_one (w1_expr (we_meth (by decide) (by decide) (we_name rfl ⟨9, 193, [], 162, rfl, h92, rfl, rfl, ws_cons (we_name rfl (ws_cons (we_name rfl (ws_nil ((i162 (F := setA "next_on_list" (.obj i) [(("list_type" : Str), .obj 9), (("head" : Str), .obj i)]) (by dsimp only; omega) (by dsimp only; omega) (by exact upd_self _ _ _) (show (3 : Nat) < 100 by decide)).mono ?_)))))⟩)))⟩
  rintro r st' ⟨rfl, rfl⟩
  refine ⟨rfl, wx_nil ⟨rfl, rfl, rfl, fun a ha => (upd_ne _ _ ha).trans (upd_ne _ _ ha), (upd_self _ _ _).trans rfl⟩⟩
theorem i35 (hd : dep < 760) (hu : un < 8600) (h9 : st.H 9 = some (.inst 193 [])) (h9i : i ≠ 9) (hi : st.H i = some (.inst 101 [])) : Wc dep un st 35 [.obj i, .obj 9] fun r st' => r = .none ∧ st'.n = st.n ∧ st'.loc = st.loc ∧ (∀ a, a ≠ i → st'.H a = st.H a) ∧ st'.H i = some (.inst 101 (hdF i)) := by
  refine wc_call F35.2 rfl (by decide) (by omega) (by omega) (by decide) rfl rfl ?_
  refine wx_one (w1_fld (we_name rfl ⟨i, 101, [], rfl, hi, .inl rfl, by decide, by decide, ?_⟩))
  refine wx_one (w1_fld (we_name rfl ⟨i, 101, [(("list_type" : Str), .obj 9)], rfl, upd_self _ _ _, .inl rfl, by decide, by decide, ?_⟩))
  have h92 : upd (upd st.H i (.inst 101 [(("list_type" : Str), .obj 9)])) i (.inst 101 [(("list_type" : Str), .obj 9), (("head" : Str), .obj i)]) 9 = some (.inst 193 []) := (upd_ne _ _ (Ne.symm h9i)).trans ((upd_ne _ _ (Ne.symm h9i)).trans h9)
  refine wx_one (w1_expr (we_meth (by decide) (by decide) (we_attr rfl (we_name rfl ⟨i, 101, _, .obj 9, rfl, upd_self _ _ _, by decide, .inl ⟨rfl, .inr rfl⟩, rfl, rfl, 9, 193, [], 134, rfl, h92, rfl, rfl, ws_cons (we_attr rfl (we_name rfl ⟨i, 101, _, .obj i, rfl, upd_self _ _ _, by decide, .inl ⟨rfl, .inl rfl⟩, rfl, rfl, ws_nil ((i134 (by dsimp only; omega) (by dsimp only; omega) (by exact h92) h9i (by exact upd_self _ _ _)).mono ?_)⟩))⟩))))
  rintro r st' ⟨rfl, h1, h2, h3, h4⟩
  exact ⟨rfl, wx_nil ⟨rfl, h1, rfl, fun a ha => (h3 a ha).trans ((upd_ne _ _ ha).trans (upd_ne _ _ ha)), h4⟩⟩
theorem i120 (hd : dep < 750) (hu : un < 8500) (h9 : st.H 9 = some (.inst 193 [])) (hn : 9 < st.n) : Wc dep un st 120 [.obj 9] fun r st' => r = .obj st.n ∧ st'.n = st.n + 1 ∧ st'.loc = st.loc ∧ (∀ a, a ≠ st.n → st'.H a = st.H a) ∧ st'.H st.n = some (.inst 101 (hdF st.n)) := by
  refine wc_call F120.2 rfl (by decide) (by omega) (by omega) (by decide) rfl rfl ?_
  refine wx_one (w1_ret (we_mk rfl rfl (ws_cons (we_name rfl (ws_nil ⟨_, rfl, ?_⟩)))))
  refine (i35 (by dsimp only; omega) (by dsimp only; omega) ((upd_ne _ _ (by dsimp only; omega)).trans h9) (by dsimp only; omega) (upd_self _ _ _)).mono ?_
  rintro r st' ⟨rfl, h1, h2, h3, h4⟩
  exact ⟨rfl, rfl, h1, rfl, fun a ha => (h3 a ha).trans (upd_ne _ _ ha), h4⟩
theorem i113 {a b : AV} (hd : dep < 750) (hu : un < 8500) : Wc dep un st 113 [.obj i, a, b] fun r st' => r = .none ∧ st' = st := by
  refine wc_call F113.2 rfl (by decide) (by omega) (by omega) (by decide) rfl rfl ?_
  exact wx_one (w1_pass (wx_nil ⟨rfl, rfl⟩))
def ndF (k : Nat) : List (Str × AV) := [(("sink" : Str), .none), (("_path" : Str), .int (k : Nat)), (("_for_route_refresh" : Str), .bool false)]
theorem i212 {k : Nat} (hd : dep < 750) (hu : un < 8500) (hk : k ≠ 0) (hi : st.H i = some (.inst 238 [])) : Wc dep un st 212 [.obj i, .int (k : Nat), .bool false] fun r st' => r = .none ∧ st'.n = st.n ∧ st'.loc = st.loc ∧ (∀ a, a ≠ i → st'.H a = st.H a) ∧ st'.H i = some (.inst 238 (ndF k)) := by
  refine wc_call F212.2 rfl (by decide) (by omega) (by omega) (by decide) rfl rfl ?_
  refine wx_one (w1_assert (wt_val rfl (we_name rfl ⟨true, ?_, rfl, ?_⟩)))
  · show some (decide ((k : Int) ≠ 0)) = _
    rw [decide_eq_true (by omega)]
  refine wx_one (w1_fld (we_none ⟨i, 238, [], rfl, hi, .inr rfl, by decide, by decide, ?_⟩))
  refine wx_one (w1_fld (we_name rfl ⟨i, 238, [(("sink" : Str), .none)], rfl, upd_self _ _ _, .inr rfl, by decide, by decide, ?_⟩))
  refine wx_one (w1_fld (we_name rfl ⟨i, 238, [(("sink" : Str), .none), (("_path" : Str), .int (k : Nat))], rfl, upd_self _ _ _, .inr rfl, by decide, by simp, ?_⟩))
  exact wx_nil ⟨rfl, rfl, rfl, fun a ha => (upd_ne _ _ ha).trans ((upd_ne _ _ ha).trans (upd_ne _ _ ha)), upd_self _ _ _⟩
end Mine
end

section
open PySem PySem.W
set_option maxRecDepth 100000
namespace Mine
variable {i j w k q n d m nd nu o a : Nat} {H H' : Nat → Option AO} {t loc loc' : List (Str × AV)} {ns : List Int}

def restL : List Nat := [0, 18, 36, 54, 72, 90, 2053, 5, 13, 1300, 145, 3, 57, 4, 4000, 101]
def mod6 : AV → AV
  | .int x => .int (x % 1000000)
  | v => v
def first16 (ns : List Int) : List Nat := (ns.take 16).map fun x => (x % 1000000).toNat
theorem first_eq : ((((ns.map AV.int).take (16 : Int).toNat).filter fun _ => true).map mod6) = nums (first16 ns) := by
  rw [filt_true, ← List.map_take, List.map_map]
  unfold nums first16
  rw [List.map_map]
  apply List.map_congr_left
  intro x _
  show AV.int (x % 1000000) = AV.int (((x % 1000000).toNat : Nat) : Int)
  congr 1
  omega
theorem setup0b {Q : AFl → St → Prop} (h0 : H 0 = some (.args (ns.map .int))) (c1 : H 1 = some (.cell none)) (c2 : H 2 = some (.cell none)) (hr : H 3 = some (.list (nums restL))) (hlen : ns.length ≤ 63)
    (q' : ∀ H' Ds, H' 1 = some (.cell none) → H' 2 = some (.cell none) → H' 8 = some (.list (nums Ds)) → Ds.length < 1000 → Wx sc252 { H := H', n := 9, loc := [(("script" : Str), .obj 0), (("rest" : Str), .obj 3), (("cells" : Str), .obj 8)] } [nth F252.1.body 2, nth F252.1.body 3, nth F252.1.body 4, nth F252.1.body 5] Q) :
    Wx sc252 { H := H, n := 4, loc := [(("script" : Str), .obj 0), (("rest" : Str), .obj 3)] } [nth F252.1.body 1, nth F252.1.body 2, nth F252.1.body 3, nth F252.1.body 4, nth F252.1.body 5] Q := by
  have lm : (ns.map AV.int).length < 1000 := by rw [List.length_map]; omega
  have l16 : ((ns.map AV.int).take (16 : Int).toNat).length ≤ 16 := List.length_take_le _ _
  refine wx_one (w1_set (we_bin (comp_src rfl rfl rfl (we_upto (we_name rfl (we_int ⟨0, 16, ns.map AV.int, rfl, rfl, (congrArg sliceable h0).trans rfl, ⟨by decide, by decide, lm⟩, (ns.map AV.int).take (16 : Int).toNat, fun _ => true, mod6, src_list rfl (Nat.lt_succ_self _) (by omega), by omega, ?_, ?_⟩))))))
  · intro v hv H' hH'
    obtain ⟨x, hx, rfl⟩ := List.mem_map.mp (List.mem_of_mem_take hv)
    exact wts_nil ⟨rfl, rfl, fun _ => we_bin (we_name rfl (we_int ⟨_, _, rfl, rfl, rfl⟩))⟩
  · intro H2 hH2 h2
    rw [first_eq] at h2
    dsimp only [St.add] at h2 hH2 ⊢
    have h02 : H2 0 = some (.args (ns.map .int)) := (hH2 0 (by decide)).trans (h0)
    have h32 : H2 3 = some (.list (nums restL)) := (hH2 3 (by decide)).trans (hr)
    have c12 : H2 1 = some (.cell none) := (hH2 1 (by decide)).trans (c1)
    have c22 : H2 2 = some (.cell none) := (hH2 2 (by decide)).trans (c2)
    refine we_from (we_name rfl (we_len rfl (ws_cons (we_upto (we_name rfl (we_int ⟨0, 16, ns.map AV.int, rfl, rfl, (congrArg sliceable h02).trans rfl, ⟨by decide, by decide, lm⟩, ws_nil ⟨6, _, rfl, rfl, by omega, 3, _, nums restL, rfl, rfl, ?_, ⟨by omega, by omega, by decide⟩, ?_⟩⟩))))))
    · exact (congrArg sliceable (h32)).trans rfl
    rw [Int.toNat_natCast, nums_drop]
    have lf : (first16 ns).length ≤ 16 := by unfold first16; rw [List.length_map]; exact List.length_take_le _ _
    have lr : ∀ k, (restL.drop k).length ≤ 16 := fun k => by rw [List.length_drop]; exact Nat.sub_le _ _
    refine ⟨_, _, bin_add (xs := nums (first16 ns)) (h2) rfl (by rw [len_nums, len_nums]; have := lr ((ns.map AV.int).take (16 : Int).toNat).length; omega), _, rfl, ?_⟩
    rw [nums_app]
    refine q' _ _ ?_ ?_ rfl ?_
    · exact c12
    · exact c22
    · rw [List.length_append]; have := lr ((ns.map AV.int).take (16 : Int).toNat).length; omega
theorem setup0 {Q : AFl → St → Prop} (h0 : H 0 = some (.args (ns.map .int))) (c1 : H 1 = some (.cell none)) (c2 : H 2 = some (.cell none)) (hlen : ns.length ≤ 63)
    (q' : ∀ H' Ds, H' 1 = some (.cell none) → H' 2 = some (.cell none) → H' 8 = some (.list (nums Ds)) → Ds.length < 1000 → Wx sc252 { H := H', n := 9, loc := [(("script" : Str), .obj 0), (("rest" : Str), .obj 3), (("cells" : Str), .obj 8)] } [nth F252.1.body 2, nth F252.1.body 3, nth F252.1.body 4, nth F252.1.body 5] Q) :
    Wx sc252 { H := H, n := 3, loc := [(("script" : Str), .obj 0)] } [nth F252.1.body 0, nth F252.1.body 1, nth F252.1.body 2, nth F252.1.body 3, nth F252.1.body 4, nth F252.1.body 5] Q := by
  refine wx_one (w1_set (we_list (ws_cons (we_int (ws_cons (we_int (ws_cons (we_int (ws_cons (we_int (ws_cons (we_int (ws_cons (we_int (ws_cons (we_int (ws_cons (we_int (ws_cons (we_int (ws_cons (we_int (ws_cons (we_int (ws_cons (we_int (ws_cons (we_int (ws_cons (we_int (ws_cons (we_int (ws_cons (we_int (ws_nil ⟨by decide, _, rfl, ?_⟩)))))))))))))))))))))))))))))))))))
  exact setup0b (H := upd H 3 (.list (nums restL))) (h0) (c1) (c2) rfl hlen q'
end Mine
end

section
open PySem PySem.W
set_option maxRecDepth 100000
namespace Mine
variable {i j w k q n d m nd nu o a : Nat} {H H' : Nat → Option AO} {t loc loc' : List (Str × AV)} {ns : List Int} {ds : List AV}

def tupOf : Stmt → List Expr
  | .Assign _ (.Tuple vs _ _) _ => vs
  | _ => []
def nthE (l : List Expr) (i : Nat) : Expr := l.getD i (.Constant .none 0 ⟨0, 0, 0, 0⟩)
theorem comp_heads {Q : AV → St → Prop} (c1 : H 1 = some (.cell (some (.obj 9)))) (h9 : H 9 = some (.inst 193 []))
    (q' : ∀ H', (∀ a, a < 10 → H' a = H a) → H' 11 = some (.list [.obj 12, .obj 13, .obj 14]) → (∀ k, k < 3 → H' (12 + k) = some (.inst 101 (hdF (12 + k)))) → Q (.obj 11) { H := H', n := 15, loc := loc }) : We sc252 { H := H, n := 10, loc := loc } (nthE (tupOf (nth F252.1.body 3)) 0) Q := by
  refine we_comp rfl rfl (we_range rfl (ws_cons (we_int (ws_nil ⟨3, rfl, by decide, by decide, ?_⟩))))
  refine wl_range (z := 3) (i := 10) rfl (by decide) (fun j st => ∃ H' lc, st = { H := H', n := 12 + j, loc := lc } ∧ (lc = [] ∨ ∃ u, lc = [(("k" : Str), u)]) ∧ (∀ a, a < 10 → H' a = H a) ∧ H' 11 = some (.list ((List.range j).map fun k => .obj (12 + k))) ∧ ∀ k, k < j → H' (12 + k) = some (.inst 101 (hdF (12 + k)))) (fun _ => False) ?_ ?_ ?_ (fun _ h => h.elim)
  · exact ⟨_, [], rfl, .inl rfl, fun a ha => (upd_ne _ _ (by dsimp only [St.add]; omega)).trans (upd_ne _ _ (by dsimp only; omega)), rfl, fun k hk => by omega⟩
  · rintro j st hj ⟨H', lc, rfl, hlc, hl, h11, hh⟩
    refine wb_comp0 (st₁ := { H := H', n := 12 + j, loc := [(("k" : Str), .int (j : Nat))] }) (by rcases hlc with rfl | ⟨u, rfl⟩ <;> rfl) ?_
    refine we_meth (by decide) (by decide) (we_name (rd_cell rfl ((hl 1 (by decide)).trans c1)) ⟨9, 193, [], 120, rfl, (hl 9 (by decide)).trans h9, rfl, rfl, ws_nil ?_⟩)
    refine (i120 (by decide) (by decide) ((hl 9 (by decide)).trans h9) (by dsimp only; omega)).mono ?_
    rintro r ⟨H2, n2, l2⟩ ⟨rfl, h1, h2, h3, h4⟩
    dsimp only at h1 h2 h3 h4
    subst h1 h2
    have h112 : H2 11 = _ := (h3 11 (by omega)).trans h11
    refine ⟨_, h112, by simp; omega, .inl ⟨rfl, _, _, rfl, .inr ⟨_, rfl⟩, fun a ha => (upd_ne _ _ (by dsimp only [St.add]; omega)).trans ((h3 a (by omega)).trans (hl a ha)), ?_, fun k hk => ?_⟩⟩
    · rw [List.range_succ, List.map_append]; exact upd_self _ _ _
    · refine (upd_ne _ _ (by dsimp only [St.add]; omega)).trans ?_
      by_cases h : k = j
      · subst h; exact h4
      · exact (h3 _ (by omega)).trans (hh k (by omega))
  · rintro st ⟨H', lc, rfl, hlc, hl, h11, hh⟩
    exact ⟨rfl, q' H' hl h11 hh⟩
theorem comp_nodes {Q : AV → St → Prop}
    (q' : ∀ H', (∀ a, a < 15 → H' a = H a) → H' 16 = some (.list [.obj 17, .obj 18, .obj 19, .obj 20, .obj 21, .obj 22]) → (∀ k, k < 6 → H' (17 + k) = some (.inst 238 (ndF (k + 1)))) → Q (.obj 16) { H := H', n := 23, loc := loc }) : We sc252 { H := H, n := 15, loc := loc } (nthE (tupOf (nth F252.1.body 3)) 1) Q := by
  refine we_comp rfl rfl (we_range rfl (ws_cons (we_int (ws_nil ⟨6, rfl, by decide, by decide, ?_⟩))))
  refine wl_range (z := 6) (i := 15) rfl (by decide) (fun j st => ∃ H' lc, st = { H := H', n := 17 + j, loc := lc } ∧ (lc = [] ∨ ∃ u, lc = [(("k" : Str), u)]) ∧ (∀ a, a < 15 → H' a = H a) ∧ H' 16 = some (.list ((List.range j).map fun k => .obj (17 + k))) ∧ ∀ k, k < j → H' (17 + k) = some (.inst 238 (ndF (k + 1)))) (fun _ => False) ?_ ?_ ?_ (fun _ h => h.elim)
  · exact ⟨_, [], rfl, .inl rfl, fun a ha => (upd_ne _ _ (by dsimp only [St.add]; omega)).trans (upd_ne _ _ (by dsimp only; omega)), rfl, fun k hk => by omega⟩
  · rintro j st hj ⟨H', lc, rfl, hlc, hl, h16, hh⟩
    refine wb_comp0 (st₁ := { H := H', n := 17 + j, loc := [(("k" : Str), .int (j : Nat))] }) (by rcases hlc with rfl | ⟨u, rfl⟩ <;> rfl) ?_
    refine we_route rfl (ws_cons (we_bin (we_name rfl (we_int ⟨_, _, rfl, ws_nil ⟨_, rfl, ?_⟩⟩))))
    refine (i212 (k := j + 1) (by decide) (by decide) (by omega) (upd_self _ _ _)).mono ?_
    rintro r ⟨H2, n2, l2⟩ ⟨rfl, h1, h2, h3, h4⟩
    dsimp only [St.add] at h1 h2 h3 h4
    subst h1 h2
    have h162 : H2 16 = _ := (h3 16 (by omega)).trans ((upd_ne _ _ (by omega)).trans h16)
    refine ⟨rfl, _, h162, by simp; omega, .inl ⟨rfl, _, _, rfl, .inr ⟨_, rfl⟩, fun a ha => (upd_ne _ _ (by dsimp only [St.add]; omega)).trans ((h3 a (by omega)).trans ((upd_ne _ _ (by omega)).trans (hl a ha))), ?_, fun k hk => ?_⟩⟩
    · rw [List.range_succ, List.map_append]; exact upd_self _ _ _
    · refine (upd_ne _ _ (by dsimp only [St.add]; omega)).trans ?_
      by_cases h : k = j
      · subst h; exact h4
      · exact (h3 _ (by omega)).trans ((upd_ne _ _ (by omega)).trans (hh k (by omega)))
  · rintro st ⟨H', lc, rfl, hlc, hl, h16, hh⟩
    exact ⟨rfl, q' H' hl h16 hh⟩
end Mine
end

section
open PySem PySem.W
set_option maxRecDepth 100000
namespace Mine
variable {i j w k q n d m nd nu o a : Nat} {H H' : Nat → Option AO} {t loc loc' : List (Str × AV)} {ns : List Int} {ds : List AV}

def link0 (i : Nat) : Option Nat := if 12 ≤ i ∧ i ≤ 14 then some i else none
theorem no_field {x : Str} (h : fieldName x = false) : x ≠ ("next_on_list" : Str) ∧ x ≠ ("prev_on_list" : Str) ∧ x ≠ ("list_type" : Str) ∧ x ≠ ("head" : Str) ∧ x ≠ ("sink" : Str) ∧ x ≠ ("_path" : Str) ∧ x ≠ ("_for_route_refresh" : Str) := by
  have := of_decide_eq_false h
  simpa only [not_or] using this
theorem ne_beq {x y : Str} (h : x ≠ y) : (x == y) = false := by simpa using h
theorem fl_hd (h : 12 ≤ i ∧ i ≤ 14) : Fl 101 i (hdF i) (some i) (some i) where
  nx := rfl
  pv := rfl
  room := by show 4 + 0 + 0 ≤ 10; decide
  no := fun x hx => by
    obtain ⟨h1, h2, h3, h4, _⟩ := no_field hx
    simp [hdF, List.lookup, ne_beq h1, ne_beq h2, ne_beq h3, ne_beq h4]
  kind := .inl ⟨h, rfl, rfl, rfl⟩
theorem fl_nd (h : 17 ≤ i ∧ i ≤ 22) : Fl 238 i (ndF (i - 16)) none none where
  nx := rfl
  pv := rfl
  room := by show 3 + 1 + 1 ≤ 10; decide
  no := fun x hx => by
    obtain ⟨_, _, _, _, h1, h2, h3⟩ := no_field hx
    simp [ndF, List.lookup, ne_beq h1, ne_beq h2, ne_beq h3]
  kind := .inr ⟨h, rfl, rfl⟩
theorem wld0 (h9 : H 9 = some (.inst 193 [])) (hh : ∀ k, k < 3 → H (12 + k) = some (.inst 101 (hdF (12 + k)))) (hn : ∀ k, k < 6 → H (17 + k) = some (.inst 238 (ndF (k + 1)))) : Wld { H := H, n := n, loc := loc } fun _ => [] := by
  have hU : ∀ i j, link0 i = some j → U j := by
    intro i j h
    unfold link0 at h
    split at h
    · cases h; exact .inl (by assumption)
    · cases h
  refine ⟨link0, link0, ⟨h9, ?_, hU, hU⟩, ?_, ?_, ?_, ?_, ?_⟩
  · rintro i (h | h)
    · refine ⟨101, hdF i, ?_, ?_⟩
      · have := hh (i - 12) (by omega)
        rwa [show 12 + (i - 12) = i by omega] at this
      · unfold link0; rw [if_pos h]; exact fl_hd h
    · refine ⟨238, ndF (i - 16), ?_, ?_⟩
      · have := hn (i - 17) (by omega)
        rwa [show 17 + (i - 17) = i by omega, show i - 17 + 1 = i - 16 by omega] at this
      · unfold link0; rw [if_neg (by omega)]; exact fl_nd h
  · intro k hk
    have : link0 (12 + k) = some (12 + k) := if_pos (by omega)
    exact ⟨this, this⟩
  · intro k a _ h; cases h
  · intro k _; exact List.nodup_nil
  · intro k m a _ _ h; cases h
  · intro a h1 h2 _
    have : link0 a = none := if_neg (by omega)
    exact .inl ⟨this, this⟩
theorem setup2 {Q : AFl → St → Prop} {Ds : List Nat} (c1 : H 1 = some (.cell (some (.obj 9)))) (c2 : H 2 = some (.cell none)) (c8 : H 8 = some (.list (nums Ds))) (h9 : H 9 = some (.inst 193 [])) (hl : Ds.length < 1000) (q' : ∀ st', Q (.ret (.bool true)) st') :
    Wx sc252 { H := H, n := 10, loc := [(("script" : Str), .obj 0), (("rest" : Str), .obj 3), (("cells" : Str), .obj 8)] } [nth F252.1.body 3, nth F252.1.body 4, nth F252.1.body 5] Q := by
  refine wx_one (w1_tup ["lists", "nodes", "rows"] (by kernel_rfl) (ws_cons (comp_heads c1 h9 fun H1 hl1 h11 hh => ?_)))
  refine ws_cons (comp_nodes fun H2 hl2 h16 hn => ?_)
  refine ws_cons (we_list (ws_cons (we_list (ws_nil ⟨by decide, ws_cons (we_list (ws_nil ⟨by decide, ws_cons (we_list (ws_nil ⟨by decide, ws_nil ⟨by simp, ws_nil ⟨_, rfl, ?_⟩⟩⟩))⟩))⟩))))
  have lo : ∀ a, a < 10 → H2 a = H a := fun a ha => (hl2 a (by omega)).trans (hl1 a ha)
  have h11' : H2 11 = _ := (hl2 11 (by decide)).trans h11
  have hh' : ∀ k, k < 3 → H2 (12 + k) = some (.inst 101 (hdF (12 + k))) := fun k hk => (hl2 _ (by omega)).trans (hh k hk)
  have hG : ∀ a, a < 23 → upd (upd (upd (upd H2 23 (.list [])) 24 (.list [])) 25 (.list [])) 26 (.list [.obj 23, .obj 24, .obj 25]) a = H2 a := fun a ha => (upd_ne _ _ (by omega)).trans ((upd_ne _ _ (by omega)).trans ((upd_ne _ _ (by omega)).trans (upd_ne _ _ (by omega))))
  refine main_loop (q := 26) (t := []) (n := 27) (r := fun k => 23 + k) (rows := fun _ => []) (num := none) (loc := []) ?_ ?_ hl q'
  · refine ⟨Nat.le_refl _, (hG 1 (by decide)).trans ((lo 1 (by decide)).trans c1), (hG 2 (by decide)).trans ((lo 2 (by decide)).trans c2), (hG 8 (by decide)).trans ((lo 8 (by decide)).trans c8), (hG 11 (by decide)).trans h11', (hG 16 (by decide)).trans h16, by decide, fun k hk => ⟨by omega, by omega, by omega⟩, rfl, fun k hk => ?_⟩
    have : k = 0 ∨ k = 1 ∨ k = 2 := by omega
    rcases this with rfl | rfl | rfl <;> rfl
  · exact wld0 ((hG 9 (by decide)).trans ((lo 9 (by decide)).trans h9)) (fun k hk => (hG _ (by omega)).trans (hh' k hk)) (fun k hk => (hG _ (by omega)).trans (hn k hk))
theorem setup1 {Q : AFl → St → Prop} {Ds : List Nat} (c1 : H 1 = some (.cell none)) (c2 : H 2 = some (.cell none)) (c8 : H 8 = some (.list (nums Ds))) (hl : Ds.length < 1000) (q' : ∀ st', Q (.ret (.bool true)) st') :
    Wx sc252 { H := H, n := 9, loc := [(("script" : Str), .obj 0), (("rest" : Str), .obj 3), (("cells" : Str), .obj 8)] } [nth F252.1.body 2, nth F252.1.body 3, nth F252.1.body 4, nth F252.1.body 5] Q := by
  refine wx_one (w1_set (we_kind rfl (we_str (we_str ((i113 (by decide) (by decide)).mono ?_)))))
  rintro _ _ ⟨rfl, rfl⟩
  have e1 : upd H 9 (.inst 193 []) 1 = some (.cell none) := c1
  refine ⟨rfl, _, wr_cell rfl e1, ?_⟩
  exact setup2 (H := upd (upd H 9 (.inst 193 [])) 1 (.cell (some (.obj 9)))) rfl c2 c8 rfl hl q'
theorem runs : Runs := by
  intro ns hns
  have : Wc 301 4 (st0 ns) 252 [.obj 0] fun r _ => r = .bool true := by
    refine wc_call F252.2 rfl (by decide) (by decide) (by decide) (by decide) rfl rfl ?_
    exact setup0 (H := upd (upd (st0 ns).H 1 (.cell none)) 2 (.cell none)) (ns := ns) rfl rfl rfl hns fun H' Ds c1 c2 c8 hl => setup1 c1 c2 c8 hl fun _ => rfl
  obtain ⟨r, st', ⟨N, h⟩, rfl⟩ := this
  exact ⟨N, st', h N (Nat.le_refl _)⟩
end Mine
end

theorem PySem.Challenge.cw_fd0044_01_holds : PySem.Challenge.rw_fd0044_01.Holds := by
  exact Mine.holds_of_runs Mine.runs
