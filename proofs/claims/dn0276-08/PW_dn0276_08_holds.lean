import PyProof.Rows.All
import Wide.All
import OpenK.AllK
import Wide.FinOn
import KE.KTypeName
import KE.KIsNot
import OpenK.KNot
import KE.KPar
import PyProof.EqKinds
import PyProof.FactsAll.dict
import PyProof.AttrMissHeap
import KE.KTypeOf
import PyProof.ReprNest
import PyProof.ReprDict
import PyProof.IsiHeapPairs
import PyProof.IsiPairs
import PyProof.IsiNone
import KE.KIsBytes
import PyProof.TupleOfSeq
import KE.KUnpack
import PyProof.ExcStrAll.TypeError
import PyProof.ExcStrCall
import PyProof.RulesAs
import PyProof.NsDelKeeps
import PySem.Challenge.RW_dn0276_08
open PySem PySem.W PyProof.Rows
set_option Elab.async false
set_option linter.unusedVariables false

namespace Mine

/-- a text by its signs -/
noncomputable abbrev S (l : List Nat) : Str := ⟨l.toArray⟩

theorem obj_eq {o : Obj} {cl : Value} {dt : Data} (h1 : o.cls = cl) (h2 : o.dict = none ∧ o.slots = #[]) (h3 : o.data = dt) : o = { cls := cl, data := dt } := by
  obtain ⟨a, b, d, e⟩ := o
  simp only at h1 h2 h3
  rw [h1, h2.1, h2.2, h3]

/-- a goal is hidden while things are taken apart -/
theorem hideG {G : Prop} (f : ∀ P : Prop, (G → P) → P) : G := f G id

/-- abstract data -/
inductive D where
  | none
  | bool (b : Bool)
  | int (i : Int)
  | str (x : Str)
  | bytes (b : List Nat)
  | val (v : Value)
  | range (a b st : Int)
  | list (xs : List D)
  | tuple (xs : List D)
  | dict (kvs : List (List Nat × D))
  | qn (x : List Nat)
  deriving Inhabited

/-- what stays the same through one law -/
structure Cx where
  prog : Program
  w : World
  base : Heap
  mg : Str → Option Value
  mb : Str → Option Value
  lsc : Scope → Prop
  hn : Prop
  qc : Addr
  gn : Prop

noncomputable abbrev Cx.M (c : Cx) : Model := model c.prog c.w

noncomputable def Keeps (h h' : Heap) : Prop := ∀ b o, h.get? b = some o → h'.get? b = some o
theorem Keeps.refl (h : Heap) : Keeps h h := fun _ _ e => e
theorem Keeps.trans {h h' h'' : Heap} (a : Keeps h h') (b : Keeps h' h'') : Keeps h h'' := fun x o e => b x o (a x o e)

structure Cx.Good (c : Cx) : Prop where
  g : c.base.Ns mainGlobals c.mg
  b : c.base.Ns builtinsNs c.mb
  lim : c.base.NoLimit

/-- an evaluation only adds -/
structure Gr (s s' : Shared) : Prop where
  keep : Keeps s.heap s'.heap
  tok : s.toks ≤ s'.toks
  gens : s'.gens = s.gens
  os : s'.os = s.os
theorem Gr.refl (s : Shared) : Gr s s := ⟨Keeps.refl _, Nat.le_refl _, rfl, rfl⟩
theorem Gr.trans {s s' s'' : Shared} (a : Gr s s') (b : Gr s' s'') : Gr s s'' :=
  ⟨a.keep.trans b.keep, Nat.le_trans a.tok b.tok, b.gens.trans a.gens, b.os.trans a.os⟩
theorem Gr.toks {s : Shared} {k : Nat} (h : s.toks ≤ k) : Gr s { s with toks := k } := ⟨Keeps.refl _, h, rfl, rfl⟩
theorem Gr.push {s : Shared} (o : Obj) : Gr s { s with heap := s.heap.push o } :=
  ⟨fun _ _ e => Heap.get?_push_of_some o e, Nat.le_refl _, rfl, rfl⟩

noncomputable abbrev Vol0 : Addr → Prop := fun _ => False

/-- a dict of names, of at most k of them -/
noncomputable def NsK (h : Heap) (a : Addr) (m : Str → Option Value) (k : Nat) : Prop :=
  ∃ es ep, h.get? a = some { cls := .type "dict", data := .dict es ep } ∧ StrKeys es ∧ (∀ name, nsFind es name = m name) ∧ es.size ≤ k

mutual
/-- the value stands for the data; no node of it lies in V -/
inductive Rep (c : Cx) (V : Addr → Prop) (s : Shared) : D → Value → Prop
  | none : Rep c V s .none .none
  | bool (b) : Rep c V s (.bool b) (.bool b)
  | int (i t) : Rep c V s (.int i) (.int i t)
  | str (x t) : Rep c V s (.str x) (.str x t)
  | bytes (b t) : Rep c V s (.bytes b) (.bytes (b.map UInt8.ofNat).toArray t)
  | val (v) : Rep c V s (.val v) v
  | range {r a b st t u v} : ¬ V r → IsRange s.heap r a b st t u v → Rep c V s (.range a b st) (.ref r)
  | list {a o vs n ds} : ¬ V a → s.heap.get? a = some o → o.cls = .type "list" → (o.dict = Option.none ∧ o.slots = #[]) → o.data = .seq vs n → RepL c V s ds vs.toList →
      Rep c V s (.list ds) (.ref a)
  | tuple {a o vs n ds} : ¬ V a → s.heap.get? a = some o → o.cls = .type "tuple" → (o.dict = Option.none ∧ o.slots = #[]) → o.data = .seq vs n → RepL c V s ds vs.toList →
      Rep c V s (.tuple ds) (.ref a)
  | dict {a o es n kvs} : ¬ V a → (a == sysModules) = false → s.heap.get? a = some o → o.ExactDict → o.data = .dict es n → RepD c V s kvs es.toList →
      Rep c V s (.dict kvs) (.ref a)
  | qn {a dx x t k m} : ¬ V a → ¬ V dx → s.heap.get? a = some { cls := .ref c.qc, dict := some dx, data := .plain } → NsK s.heap dx m k → m (Str.ofString "text") = some (.str (S x) t) → Rep c V s (.qn x) (.ref a)
inductive RepL (c : Cx) (V : Addr → Prop) (s : Shared) : List D → List Value → Prop
  | nil : RepL c V s [] []
  | cons {d v ds vs} : Rep c V s d v → RepL c V s ds vs → RepL c V s (d :: ds) (v :: vs)
inductive RepD (c : Cx) (V : Addr → Prop) (s : Shared) : List (List Nat × D) → List DictEntry → Prop
  | nil : RepD c V s [] []
  | cons {k d t e kvs es} : e.key = .str (S k) t → e.hash = hashStr c.w (S k) → Rep c V s d e.val →
      RepD c V s kvs es → RepD c V s ((k, d) :: kvs) (e :: es)
end

/-- what a thing of a kind looks like -/
inductive SeqR (c : Cx) (V : Addr → Prop) (s : Shared) (T : String) (ds : List D) (v : Value) : Prop
  | mk (a : Addr) (o : Obj) (vs : Array Value) (n : Nat) (e : v = .ref a) (na : ¬ V a) (ho : s.heap.get? a = some o) (hcl : o.cls = .type T) (hd : o.dict = Option.none ∧ o.slots = #[]) (hdt : o.data = .seq vs n) (r : RepL c V s ds vs.toList) : SeqR c V s T ds v
inductive DictR (c : Cx) (V : Addr → Prop) (s : Shared) (kvs : List (List Nat × D)) (v : Value) : Prop
  | mk (a : Addr) (o : Obj) (es : Array DictEntry) (n : Nat) (e : v = .ref a) (na : ¬ V a) (hsm : (a == sysModules) = false) (ho : s.heap.get? a = some o) (hx : o.ExactDict) (hdt : o.data = .dict es n) (r : RepD c V s kvs es.toList) : DictR c V s kvs v
inductive QnR (c : Cx) (V : Addr → Prop) (s : Shared) (x : List Nat) (v : Value) : Prop
  | mk (a dx : Addr) (t : Tok) (k : Nat) (m : Str → Option Value) (e : v = .ref a) (na : ¬ V a) (nd : ¬ V dx) (ho : s.heap.get? a = some { cls := .ref c.qc, dict := some dx, data := .plain }) (h : NsK s.heap dx m k) (hm : m (Str.ofString "text") = some (.str (S x) t)) : QnR c V s x v
inductive RangeR (V : Addr → Prop) (s : Shared) (a b st : Int) (v : Value) : Prop
  | mk (r : Addr) (t u w : Tok) (e : v = .ref r) (na : ¬ V r) (h : IsRange s.heap r a b st t u w) : RangeR V s a b st v
noncomputable def RepInv (c : Cx) (V : Addr → Prop) (s : Shared) : D → Value → Prop
  | .none, v => v = .none
  | .bool b, v => v = .bool b
  | .int i, v => ∃ t, v = .int i t
  | .str x, v => ∃ t, v = .str x t
  | .bytes b, v => ∃ t, v = .bytes (b.map UInt8.ofNat).toArray t
  | .val w, v => v = w
  | .range a b st, v => RangeR V s a b st v
  | .list ds, v => SeqR c V s "list" ds v
  | .tuple ds, v => SeqR c V s "tuple" ds v
  | .dict kvs, v => DictR c V s kvs v
  | .qn x, v => QnR c V s x v
theorem Rep.inv {c : Cx} {V : Addr → Prop} {s : Shared} {d : D} {v : Value} (r : Rep c V s d v) : RepInv c V s d v := by
  cases r with
  | none => rfl
  | bool => rfl
  | int i t => exact ⟨t, rfl⟩
  | str x t => exact ⟨t, rfl⟩
  | bytes b t => exact ⟨t, rfl⟩
  | val => rfl
  | range na h => exact ⟨_, _, _, _, rfl, na, h⟩
  | list na ho hcl hd hdt r => exact ⟨_, _, _, _, rfl, na, ho, hcl, hd, hdt, r⟩
  | tuple na ho hcl hd hdt r => exact ⟨_, _, _, _, rfl, na, ho, hcl, hd, hdt, r⟩
  | dict na hsm ho hx hdt r => exact ⟨_, _, _, _, rfl, na, hsm, ho, hx, hdt, r⟩
  | qn na nd ho h hm => exact ⟨_, _, _, _, _, rfl, na, nd, ho, h, hm⟩

/-- the things that values are made of -/
noncomputable abbrev Shp (o : Obj) : Prop := (∃ xs n, o.data = .seq xs n) ∨ (∃ es n, o.data = .dict es n) ∨ o.cls = .type "range" ∨ o.data = .plain
/-- what may change under a Rep -/
noncomputable def Calm (V : Addr → Prop) (s s' : Shared) : Prop := s.toks ≤ s'.toks ∧ ∀ b o, ¬ V b → s.heap.get? b = some o → Shp o → s'.heap.get? b = some o

theorem RepL.mapA {c c' : Cx} {V V' : Addr → Prop} {s s' : Shared} (hw : c.w = c'.w ∧ c.qc = c'.qc) (hn : ∀ a o, ¬ V a → s.heap.get? a = some o → Shp o → ¬ V' a ∧ s'.heap.get? a = some o) {ds : List D} {vs : List Value} (r : RepL c V s ds vs) : RepL c' V' s' ds vs := by
  refine RepL.rec (motive_1 := fun d v _ => Rep c' V' s' d v) (motive_2 := fun d v _ => RepL c' V' s' d v) (motive_3 := fun d v _ => RepD c' V' s' d v)
    .none .bool .int .str .bytes .val ?_ ?_ ?_ ?_ ?_ .nil (fun _ _ => .cons) .nil (fun hk hh _ _ => .cons hk (hw.1 ▸ hh)) r
  · exact fun na h => have q := hn _ _ na h (.inr (.inr (.inl rfl))); .range q.1 q.2
  · exact fun na ho hcl hd hdt _ r => have q := hn _ _ na ho (.inl ⟨_, _, hdt⟩); .list q.1 q.2 hcl hd hdt r
  · exact fun na ho hcl hd hdt _ r => have q := hn _ _ na ho (.inl ⟨_, _, hdt⟩); .tuple q.1 q.2 hcl hd hdt r
  · exact fun na hsm ho hx hdt _ r => have q := hn _ _ na ho (.inr (.inl ⟨_, _, hdt⟩)); .dict q.1 hsm q.2 hx hdt r
  · exact fun na nd ho ⟨es, ep, h1, h2⟩ hm => have q := hn _ _ na ho (.inr (.inr (.inr rfl))); have q' := hn _ _ nd h1 (.inr (.inl ⟨_, _, rfl⟩)); .qn q.1 q'.1 (hw.2 ▸ q.2) ⟨es, ep, q'.2, h2⟩ hm
theorem RepL.one {c V s d v} (r : RepL c V s [d] [v]) : Rep c V s d v := by cases r; assumption
theorem Rep.mapA {c c' : Cx} {V V' : Addr → Prop} {s s' : Shared} (hw : c.w = c'.w ∧ c.qc = c'.qc) (hn : ∀ a o, ¬ V a → s.heap.get? a = some o → Shp o → ¬ V' a ∧ s'.heap.get? a = some o) {d : D} {v : Value} (r : Rep c V s d v) : Rep c' V' s' d v := (RepL.mapA hw hn (.cons r .nil)).one
theorem Rep.calm {c : Cx} {V V' : Addr → Prop} {s s' : Shared} (hc : Calm V s s') (hv : ∀ a, V' a → V a) {d v} (r : Rep c V s d v) : Rep c V' s' d v := r.mapA ⟨rfl, rfl⟩ fun a o na e sh => ⟨fun q => na (hv a q), hc.2 a o na e sh⟩
theorem RepL.calm {c : Cx} {V V' : Addr → Prop} {s s' : Shared} (hc : Calm V s s') (hv : ∀ a, V' a → V a) {d v} (r : RepL c V s d v) : RepL c V' s' d v := r.mapA ⟨rfl, rfl⟩ fun a o na e sh => ⟨fun q => na (hv a q), hc.2 a o na e sh⟩

theorem Gr.calm {s s' : Shared} (g : Gr s s') (V : Addr → Prop) : Calm V s s' := ⟨g.tok, fun _ _ _ e _ => g.keep _ _ e⟩
theorem Rep.gr {c V s s' d v} (r : Rep c V s d v) (g : Gr s s') : Rep c V s' d v := r.calm (g.calm V) fun _ q => q
theorem RepL.gr {c V s s' d v} (r : RepL c V s d v) (g : Gr s s') : RepL c V s' d v := r.calm (g.calm V) fun _ q => q
theorem Rep.weak {c V V' s d v} (r : Rep c V s d v) (hv : ∀ a, V' a → V a) : Rep c V' s d v := r.calm (Gr.calm (.refl s) V) hv
theorem RepL.weak {c V V' s d v} (r : RepL c V s d v) (hv : ∀ a, V' a → V a) : RepL c V' s d v := r.calm (Gr.calm (.refl s) V) hv

theorem RepL.length {c V s} {ds : List D} : ∀ {vs}, RepL c V s ds vs → ds.length = vs.length := by
  induction ds with
  | nil => intro vs r; cases r; rfl
  | cons d ds ih => intro vs r; cases r with | cons _ r => exact congrArg (· + 1) (ih r)
theorem RepL.append {c V s} {ds' : List D} {vs' : List Value} {ds : List D} : ∀ {vs}, RepL c V s ds vs → RepL c V s ds' vs' → RepL c V s (ds ++ ds') (vs ++ vs') := by
  induction ds with
  | nil => intro vs r r'; cases r; exact r'
  | cons d ds ih => intro vs r r'; cases r with | cons a r => exact .cons a (ih r r')
theorem RepL.get {c V s} {d : D} {ds : List D} : ∀ {vs} {i : Nat}, RepL c V s ds vs → ds[i]? = some d → ∃ v, vs[i]? = some v ∧ Rep c V s d v := by
  induction ds with
  | nil => intro vs i _ e; cases e
  | cons d' ds ih =>
    intro vs i r e
    cases r with
    | cons a r =>
      cases i with
      | zero => cases e; exact ⟨_, rfl, a⟩
      | succ i => have q := ih (i := i) r e; exact q
theorem ofString_inj {x y : String} (h : Str.ofString x = Str.ofString y) : x = y := by
  rw [Str.ofString_eq_toList, Str.ofString_eq_toList] at h
  injection h with h
  have h2 : x.toList.map Char.toNat = y.toList.map Char.toNat := by
    have := congrArg Array.toList h
    simpa using this
  have inj : ∀ (a b : List Char), a.map Char.toNat = b.map Char.toNat → a = b := by
    intro a
    induction a with
    | nil => intro b hb; cases b with
      | nil => rfl
      | cons _ _ => simp at hb
    | cons p a ih => intro b hb; cases b with
      | nil => simp at hb
      | cons q b =>
        simp only [List.map_cons, List.cons.injEq] at hb
        rw [ih b hb.2, show p = q from by
          apply Char.ext
          apply UInt32.toNat_inj.mp
          exact hb.1]
  exact String.toList_inj.mp (inj _ _ h2)

/-- the state a call finds -/
structure St (c : Cx) (V : Addr → Prop) (s : Shared) : Prop where
  good : c.Good
  keep : Keeps c.base s.heap
  tok : s.toks ≠ 0
  live : ∀ a, V a → ∃ o, s.heap.get? a = some o
theorem St.gr {c V s s'} (h : St c V s) (g : Gr s s') : St c V s' :=
  ⟨h.good, h.keep.trans g.keep, fun e => h.tok (Nat.le_zero.mp (e ▸ g.tok)), fun a q => let ⟨o, e⟩ := h.live a q; ⟨o, g.keep _ _ e⟩⟩
theorem St.weak {c V V' s} (h : St c V s) (hv : ∀ a, V' a → V a) : St c V' s := ⟨h.good, h.keep, h.tok, fun a q => h.live a (hv a q)⟩

/-- room on the stack for n more frames; nothing is being handled; the guards are told -/
structure Room (c : Cx) (n : Nat) (A : Around) : Prop where
  handled : c.hn → A.handled = none
  depth : A.depth + n < 900
  units : A.units + 10 * n + 100 < cLine
  guards : ∃ g, A.guards = some g ∧ (c.gn → g = [])
theorem Room.mono {c n m A} (h : Room c n A) (hm : m ≤ n) : Room c m A := ⟨h.handled, by have := h.depth; omega, by have := h.units; omega, h.guards⟩
theorem Room.deeper {c n A} (h : Room c (n + 1) A) (env : Env) : Room c n (A.deeper env) :=
  ⟨h.handled, by have := h.depth; show A.depth + 1 + n < 900; omega, by have := h.units; show A.units + 3 + 10 * n + 100 < cLine; omega, h.guards⟩
theorem Room.lim {c n A} (h : Room c n A) : A.depth < recursionLimit := by have := h.depth; unfold recursionLimit; omega

/-- f called with ds gives d -/
structure FnR (c : Cx) (n : Nat) (f : Value) (ds : List D) (d : D) : Prop where
  run : ∀ A V s vs, Room c n A → St c V s → RepL c V s ds vs →
    wpAny c.M A (call f vs) (fun v s' => Gr s s' ∧ Rep c V s' d v) (fun _ _ => False) s

inductive Slot where
  | val (d : D)
  | ownO (q : Option Addr) (l : List Slot)
noncomputable abbrev Slot.own (l : List Slot) : Slot := .ownO .none l
instance : Inhabited Slot := ⟨.val .none⟩
noncomputable abbrev Sto := List (String × Slot)

mutual
inductive RepS (c : Cx) (V : Addr → Prop) (s : Shared) : Slot → Value → List Addr → Prop
  | val {d v} : Rep c V s d v → RepS c V s (.val d) v []
  | ownO {q a o vs n sl fp} : (∀ b, q = some b → b = a) → s.heap.get? a = some o → o.cls = .type "list" → (o.dict = Option.none ∧ o.slots = #[]) → o.data = .seq vs n → RepSL c V s sl vs.toList fp → RepS c V s (.ownO q sl) (.ref a) (a :: fp)
inductive RepSL (c : Cx) (V : Addr → Prop) (s : Shared) : List Slot → List Value → List Addr → Prop
  | nil : RepSL c V s [] [] []
  | cons {sl v fp sls vs fps} : RepS c V s sl v fp → RepSL c V s sls vs fps → RepSL c V s (sl :: sls) (v :: vs) (fp ++ fps)
end

theorem RepS.own {c : Cx} {V : Addr → Prop} {s : Shared} {a : Addr} {o : Obj} {vs : Array Value} {n : Nat} {sl : List Slot} {fp : List Addr} (ho : s.heap.get? a = some o) (hc : o.cls = .type "list") (hd : o.dict = Option.none ∧ o.slots = #[]) (hdt : o.data = .seq vs n) (r : RepSL c V s sl vs.toList fp) : RepS c V s (.own sl) (.ref a) (a :: fp) :=
  .ownO (fun _ q => nomatch q) ho hc hd hdt r

/-- what an own list looks like -/
inductive OwnR (c : Cx) (V : Addr → Prop) (s : Shared) (q : Option Addr) (sl : List Slot) (v : Value) (fp : List Addr) : Prop
  | mk (a : Addr) (o : Obj) (vs : Array Value) (n : Nat) (fpi : List Addr) (e : v = .ref a) (ef : fp = a :: fpi) (hq : ∀ b, q = some b → b = a) (ho : s.heap.get? a = some o) (hcl : o.cls = .type "list") (hd : o.dict = Option.none ∧ o.slots = #[]) (hdt : o.data = .seq vs n) (r : RepSL c V s sl vs.toList fpi) : OwnR c V s q sl v fp
noncomputable def RepSInv (c : Cx) (V : Addr → Prop) (s : Shared) (v : Value) (fp : List Addr) : Slot → Prop
  | .val d => fp = [] ∧ Rep c V s d v
  | .ownO q sl => OwnR c V s q sl v fp
theorem RepS.inv {c : Cx} {V : Addr → Prop} {s : Shared} {sl : Slot} {v : Value} {fp : List Addr} (r : RepS c V s sl v fp) : RepSInv c V s v fp sl := by
  cases r with
  | val r => exact ⟨rfl, r⟩
  | ownO hq ho hcl hd hdt r => exact ⟨_, _, _, _, _, rfl, rfl, hq, ho, hcl, hd, hdt, r⟩
inductive ConsR (c : Cx) (V : Addr → Prop) (s : Shared) (sl : Slot) (sls : List Slot) (vs : List Value) (fp : List Addr) : Prop
  | mk (v : Value) (vs' : List Value) (fp1 fp2 : List Addr) (e : vs = v :: vs') (ef : fp = fp1 ++ fp2) (r : RepS c V s sl v fp1) (rs : RepSL c V s sls vs' fp2) : ConsR c V s sl sls vs fp
noncomputable def RepSLInv (c : Cx) (V : Addr → Prop) (s : Shared) (vs : List Value) (fp : List Addr) : List Slot → Prop
  | [] => vs = [] ∧ fp = []
  | sl :: sls => ConsR c V s sl sls vs fp
theorem RepSL.inv {c : Cx} {V : Addr → Prop} {s : Shared} {sls : List Slot} {vs : List Value} {fp : List Addr} (r : RepSL c V s sls vs fp) : RepSLInv c V s vs fp sls := by
  cases r with
  | nil => exact ⟨rfl, rfl⟩
  | cons r rs => exact ⟨_, _, _, _, rfl, rfl, r, rs⟩

/-- the name's value -/
inductive Loc (env : Env) (s : Shared) (m : Str → Option Value) (x : String) (v : Value) : Prop
  | loc : env.kindOf (Str.ofString x) = some .local → m (Str.ofString x) = some v → Loc env s m x v
  | cell {a o} : (env.kindOf (Str.ofString x) = some .cell ∨ (env.kindOf (Str.ofString x) = some .free ∧ x ≠ "__classdict__")) → env.cells.lookup (Str.ofString x) = some a → s.heap.get? a = some o →
      o.data = .cell (some v) → Loc env s m x v

inductive StoR (c : Cx) (env : Env) (V : Addr → Prop) (s : Shared) (m : Str → Option Value) : Sto → List Addr → Prop
  | nil : StoR c env V s m [] []
  | cons {x sl v fp ρ fps} : Loc env s m x v → RepS c V s sl v fp → StoR c env V s m ρ fps → StoR c env V s m ((x, sl) :: ρ) (fp ++ fps)

noncomputable abbrev Vol (V0 : Addr → Prop) (X : List Addr) : Addr → Prop := fun a => V0 a ∨ a ∈ X

/-- the names' store and its places -/
inductive FSto (c : Cx) (env : Env) (V0 : Addr → Prop) (Cs : List (Str × Addr)) (X : List Addr) (ρ : Sto) (s : Shared) : Prop
  | mk (m : Str → Option Value) (fps : List Addr) (ns : s.heap.Ns env.locals m) (hX : X = env.locals :: (Cs.map (·.2) ++ fps)) (nd : X.Nodup) (lv : ∀ a ∈ X, ∃ o, s.heap.get? a = some o) (cl : ∀ p ∈ Cs, ∃ v, s.heap.IsCell p.2 v) (st : StoR c env (Vol V0 X) s m ρ fps) : FSto c env V0 Cs X ρ s

/-- the frame: env's names are as ρ says -/
structure Fm (c : Cx) (sc : Scope) (env : Env) (V0 : Addr → Prop) (h0 : Heap) (Cs : List (Str × Addr)) (X : List Addr) (ρ : Sto) (s : Shared) : Prop where
  good : c.Good
  scope : env.scope = sc
  kind : sc.kind = .function
  globals : env.globals = mainGlobals
  builtins : env.builtins = builtinsNs
  base : Keeps c.base h0
  keep : Keeps h0 s.heap
  tok : s.toks ≠ 0
  live0 : ∀ a, V0 a → (∃ o, s.heap.get? a = some o) ∧ a ∉ X
  ccells : ∀ x, (sc.names.lookup x = some .cell ∨ sc.names.lookup x = some .free) → ∃ a, env.cells.lookup x = some a
  new : ∀ a ∈ X, h0.get? a = none
  cells : ∀ x a, Cs.lookup x = some a → env.cells.lookup x = some a
  cinj : ∀ x y a, env.cells.lookup x = some a → env.cells.lookup y = some a → x = y
  sto : FSto c env V0 Cs X ρ s

/-- k = true: the value may be kept; k = false: it is looked at only -/
noncomputable abbrev VK (k : Bool) (V0 : Addr → Prop) (X : List Addr) : Addr → Prop := fun a => k = true ∧ Vol V0 X a

/-- e has the value d -/
structure Ev (c : Cx) (n : Nat) (sc : Scope) (k : Bool) (ρ : Sto) (e : Expr) (d : D) : Prop where
  run : ∀ A env V0 h0 Cs X s, Room c n A → Fm c sc env V0 h0 Cs X ρ s →
    wpAny c.M A (eval e env) (fun v s' => Gr s s' ∧ Rep c (VK k V0 X) s' d v) (fun _ _ => False) s

end Mine
namespace Mine

theorem St.pos {c V s} (h : St c V s) : 0 < s.toks := Nat.pos_of_ne_zero h.tok

/-- the end of a step: the counter only grows -/
theorem wp_end {α : Type} {c : Cx} {A : Around} {t : Sem α} {s : Shared} {P : α → Shared → Prop}
    (h : wpAny c.M A t (fun v s' => Keeps s.heap s'.heap ∧ s'.gens = s.gens ∧ s'.os = s.os ∧ (s.toks ≤ s'.toks → P v s')) (fun _ _ => False) s) :
    wpAny c.M A t (fun v s' => Gr s s' ∧ P v s') (fun _ _ => False) s :=
  wpAny_with_toks (Nat.le_refl _) (wpAny_mono h (fun _ _ q ht => ⟨⟨q.1, ht, q.2.1, q.2.2.1⟩, q.2.2.2 ht⟩) fun _ _ q => q.elim)

theorem wp_gr {α : Type} {c : Cx} {A : Around} {t : Sem α} {s s₀ : Shared} {P : α → Shared → Prop} (g : Gr s₀ s)
    (h : wpAny c.M A t (fun v s' => Gr s s' ∧ P v s') (fun _ _ => False) s) :
    wpAny c.M A t (fun v s' => Gr s₀ s' ∧ P v s') (fun _ _ => False) s :=
  wpAny_mono h (fun _ _ q => ⟨g.trans q.1, q.2⟩) fun _ _ q => q

theorem RepS.map {c c' : Cx} {V V' : Addr → Prop} {s s' : Shared} (hr : ∀ d v, Rep c V s d v → Rep c' V' s' d v) {sl v fp} (r : RepS c V s sl v fp) : (∀ a ∈ fp, ∀ o, s.heap.get? a = some o → s'.heap.get? a = some o) → RepS c' V' s' sl v fp :=
  RepS.rec (motive_1 := fun sl v fp _ => (∀ a ∈ fp, ∀ o, s.heap.get? a = some o → s'.heap.get? a = some o) → RepS c' V' s' sl v fp) (motive_2 := fun sl v fp _ => (∀ a ∈ fp, ∀ o, s.heap.get? a = some o → s'.heap.get? a = some o) → RepSL c' V' s' sl v fp)
    (fun r _ => .val (hr _ _ r)) (fun hq ho hcl hd hdt _ r hk => .ownO hq (hk _ (.head _) _ ho) hcl hd hdt (r fun a ha => hk a (.tail _ ha))) (fun _ => .nil)
    (fun _ _ r rs hk => .cons (r fun a ha => hk a (List.mem_append_left _ ha)) (rs fun a ha => hk a (List.mem_append_right _ ha))) r
theorem RepSL.map {c c' : Cx} {V V' : Addr → Prop} {s s' : Shared} (hr : ∀ d v, Rep c V s d v → Rep c' V' s' d v) {sl v fp} (r : RepSL c V s sl v fp) : (∀ a ∈ fp, ∀ o, s.heap.get? a = some o → s'.heap.get? a = some o) → RepSL c' V' s' sl v fp :=
  RepSL.rec (motive_1 := fun sl v fp _ => (∀ a ∈ fp, ∀ o, s.heap.get? a = some o → s'.heap.get? a = some o) → RepS c' V' s' sl v fp) (motive_2 := fun sl v fp _ => (∀ a ∈ fp, ∀ o, s.heap.get? a = some o → s'.heap.get? a = some o) → RepSL c' V' s' sl v fp)
    (fun r _ => .val (hr _ _ r)) (fun hq ho hcl hd hdt _ r hk => .ownO hq (hk _ (.head _) _ ho) hcl hd hdt (r fun a ha => hk a (.tail _ ha))) (fun _ => .nil)
    (fun _ _ r rs hk => .cons (r fun a ha => hk a (List.mem_append_left _ ha)) (rs fun a ha => hk a (List.mem_append_right _ ha))) r
theorem RepS.calm {c : Cx} {V V' : Addr → Prop} {s s' : Shared} (hc : Calm V s s') (hv : ∀ a, V' a → V a) {sl v fp} (r : RepS c V s sl v fp) : (∀ a ∈ fp, ∀ o, s.heap.get? a = some o → s'.heap.get? a = some o) → RepS c V' s' sl v fp := r.map fun _ _ => Rep.calm hc hv
theorem RepSL.calm {c : Cx} {V V' : Addr → Prop} {s s' : Shared} (hc : Calm V s s') (hv : ∀ a, V' a → V a) {sl v fp} (r : RepSL c V s sl v fp) : (∀ a ∈ fp, ∀ o, s.heap.get? a = some o → s'.heap.get? a = some o) → RepSL c V' s' sl v fp := r.map fun _ _ => Rep.calm hc hv

theorem Loc.calm {env : Env} {s s' : Shared} {m m' : Str → Option Value} {x : String} {v : Value} (h : Loc env s m x v)
    (hm : env.kindOf (Str.ofString x) = some .local → m' (Str.ofString x) = m (Str.ofString x)) (hc : ∀ a o w, env.cells.lookup (Str.ofString x) = some a → s.heap.get? a = some o → o.data = .cell w → s'.heap.get? a = some o) : Loc env s' m' x v := by
  cases h with
  | loc h1 h2 => exact .loc h1 ((hm h1).trans h2)
  | cell h1 h2 h3 h4 => exact .cell h1 h2 (hc _ _ _ h2 h3 h4) h4

theorem StoR.map {c c' : Cx} {env : Env} {V V' : Addr → Prop} {s s' : Shared} {m m' : Str → Option Value} {ρ fps} (h : StoR c env V s m ρ fps) : (∀ p ∈ ρ, ∀ v, Loc env s m p.1 v → Loc env s' m' p.1 v) →
    (∀ sl v fp, (∀ a ∈ fp, a ∈ fps) → RepS c V s sl v fp → RepS c' V' s' sl v fp) → StoR c' env V' s' m' ρ fps := by
  induction h with
  | nil => exact fun _ _ => .nil
  | cons l r _ ih => exact fun h1 h2 => .cons (h1 _ (.head _) _ l) (h2 _ _ _ (fun _ => List.mem_append_left _) r) (ih (fun p hp => h1 p (.tail _ hp)) fun sl v fp hf => h2 sl v fp fun a ha => List.mem_append_right _ (hf a ha))
theorem StoR.gr {c : Cx} {env : Env} {V : Addr → Prop} {s s' : Shared} {m : Str → Option Value} (g : Gr s s') {ρ fps} (h : StoR c env V s m ρ fps) : StoR c env V s' m ρ fps :=
  h.map (fun _ _ _ l => l.calm (fun _ => rfl) fun _ _ _ _ e _ => g.keep _ _ e) fun _ _ _ _ r => r.calm (g.calm V) (fun _ q => q) fun _ _ _ e => g.keep _ _ e

theorem Fm.gr {c sc env V0 h0 Cs X ρ s s'} (F : Fm c sc env V0 h0 Cs X ρ s) (g : Gr s s') : Fm c sc env V0 h0 Cs X ρ s' :=
  ⟨F.good, F.scope, F.kind, F.globals, F.builtins, F.base, F.keep.trans g.keep, fun e => F.tok (Nat.le_zero.mp (e ▸ g.tok)), fun a q => ⟨let ⟨o, e⟩ := (F.live0 a q).1; ⟨o, g.keep _ _ e⟩, (F.live0 a q).2⟩, F.ccells, F.new, F.cells, F.cinj,
   let ⟨m, fps, h1, h2, h3, h4, h6, h5⟩ := F.sto
   ⟨m, fps, h1.keeps g.keep, h2, h3, fun a ha => let ⟨o, e⟩ := h4 a ha; ⟨o, g.keep _ _ e⟩, fun p hp => let ⟨v, q⟩ := h6 p hp; ⟨v, q.keeps g.keep⟩, h5.gr g⟩⟩

theorem Fm.st {c sc env V0 h0 Cs X ρ s} (F : Fm c sc env V0 h0 Cs X ρ s) (k : Bool) : St c (VK k V0 X) s :=
  ⟨F.good, F.base.trans F.keep, F.tok, fun a q => by
    rcases q.2 with q | q
    · exact (F.live0 a q).1
    · obtain ⟨m, fps, _, _, _, h4, _, _⟩ := F.sto; exact h4 a q⟩

theorem StoR.get {c : Cx} {env : Env} {V : Addr → Prop} {s : Shared} {m : Str → Option Value} {x : String} {sl : Slot} : ∀ {ρ fps}, StoR c env V s m ρ fps → ρ.lookup x = some sl →
    ∃ v fp, Loc env s m x v ∧ RepS c V s sl v fp ∧ (∀ a ∈ fp, a ∈ fps)
  | _, _, .nil, e => by cases e
  | _, _, .cons (x := y) (v := v) (fp := fp) l r rs, e => by
    rw [List.lookup_cons] at e
    by_cases hy : x = y
    · subst hy
      simp only [beq_self_eq_true] at e
      cases e
      exact ⟨v, fp, l, r, fun a ha => List.mem_append_left _ ha⟩
    · have : (x == y) = false := by simpa using hy
      rw [this] at e
      obtain ⟨v', fp', h1, h2, h3⟩ := rs.get e
      exact ⟨v', fp', h1, h2, fun a ha => List.mem_append_right _ (h3 a ha)⟩

theorem ofString_ne {x y : String} (h : x ≠ y) : (Str.ofString x == Str.ofString y) = false := by
  rw [beq_eq_false_iff_ne]; exact fun e => h (ofString_inj e)

/-- reading a name -/
theorem Loc.load {M : Model} {A : Around} {E : Value → Shared → Prop} {env : Env} {s : Shared} {m : Str → Option Value} {x : String} {v : Value} {Q : Value → Shared → Prop}
    (hk : env.scope.kind = .function) (hn : s.heap.Ns env.locals m) (l : Loc env s m x v) (h : Q v s) : wpAny M A (loadName env (Str.ofString x)) Q E s := by
  cases l with
  | loc h1 h2 => exact wpAny_loadName_local hk h1 hn h2 h
  | cell h1 h2 h3 h4 =>
    rcases h1 with h1 | ⟨h1, h1'⟩
    · exact wpAny_loadName_cell hk h1 h2 ⟨_, h3, h4⟩ h
    · exact wpAny_loadName_free hk h1 h2 ⟨_, h3, h4⟩ h (ofString_ne h1')

mutual
noncomputable def Slot.d : Slot → D
  | .val d => d
  | .ownO _ l => .list (Slot.ds l)
noncomputable def Slot.ds : List Slot → List D
  | [] => []
  | sl :: r => sl.d :: Slot.ds r
end

theorem RepS.freeze {c : Cx} {V W : Addr → Prop} {s : Shared} {sl v fp} (r : RepS c V s sl v fp) (hw : ∀ a, W a → V a) : (∀ a ∈ fp, ¬ W a) → Rep c W s sl.d v :=
  RepS.rec (motive_1 := fun sl v fp _ => (∀ a ∈ fp, ¬ W a) → Rep c W s sl.d v) (motive_2 := fun sl v fp _ => (∀ a ∈ fp, ¬ W a) → RepL c W s (Slot.ds sl) v)
    (fun r _ => r.weak hw) (fun _ ho hcl hd hdt _ r hf => .list (hf _ (.head _)) ho hcl hd hdt (r fun a ha => hf a (.tail _ ha))) (fun _ => .nil)
    (fun _ _ r rs hf => .cons (r fun a ha => hf a (List.mem_append_left _ ha)) (rs fun a ha => hf a (List.mem_append_right _ ha))) r
theorem RepS.look {c V s} {sl v fp} (r : RepS c V s sl v fp) : Rep c Vol0 s sl.d v := r.freeze (fun _ q => q.elim) fun _ _ q => q

section
variable {c : Cx} {n : Nat} {sc : Scope} {k : Bool} {ρ : Sto}

theorem Ev.name {x : String} {pos : Pos} {d : D} (h : ρ.lookup x = some (.val d)) (hx : x ≠ "__debug__" := by decide) : Ev c n sc k ρ (.Name (Str.ofString x) pos) d := by
  constructor; intro A env V0 h0 Cs X s _ F
  obtain ⟨m, fps, hn, _, _, _, _, hs⟩ := F.sto
  obtain ⟨v, fp, l, r, _⟩ := hs.get h
  refine wpAny_Name (l.load (by rw [F.scope]; exact F.kind) hn ⟨.refl s, ?_⟩) (ofString_ne hx)
  exact r.inv.2.weak fun _ q => q.2

/-- an owned list is looked at -/
theorem Ev.look {x : String} {pos : Pos} {sl : Slot} {d : D} (h : ρ.lookup x = some sl) (hd : sl.d = d) (hx : x ≠ "__debug__" := by decide) : Ev c n sc false ρ (.Name (Str.ofString x) pos) d := by
  constructor; intro A env V0 h0 Cs X s _ F
  obtain ⟨m, fps, hn, _, _, _, _, hs⟩ := F.sto
  obtain ⟨v, fp, l, r, _⟩ := hs.get h
  refine wpAny_Name (l.load (by rw [F.scope]; exact F.kind) hn ⟨.refl s, ?_⟩) (ofString_ne hx)
  subst hd
  exact r.look.weak fun _ q => nomatch q.1

theorem Ev.weak {e : Expr} {d : D} (h : Ev c n sc true ρ e d) : Ev c n sc k ρ e d := .mk fun A env V0 h0 Cs X s hA F =>
  wpAny_mono (h.run A env V0 h0 Cs X s hA F) (fun _ _ q => ⟨q.1, q.2.weak fun _ q => ⟨rfl, q.2⟩⟩) fun _ _ q => q

noncomputable def D.flat : D → Bool
  | .none | .bool _ | .int _ | .str _ | .bytes _ | .val _ => true
  | _ => false
theorem Rep.flat {c V V' s d v} (r : Rep c V s d v) (h : d.flat = true) : Rep c V' s d v := by
  replace r := r.inv
  cases d with
  | none => cases r; exact .none
  | bool b => cases r; exact .bool b
  | int i => obtain ⟨_, rfl⟩ := r; exact .int i _
  | str x => obtain ⟨_, rfl⟩ := r; exact .str x _
  | bytes x => obtain ⟨_, rfl⟩ := r; exact .bytes x _
  | val w => cases r; exact .val _
  | _ => cases h

theorem Ev.lookAt {e : Expr} {d : D} (h : Ev c n sc false ρ e d) (hd : d.flat = true) : Ev c n sc k ρ e d := .mk fun A env V0 h0 Cs X s hA F =>
  wpAny_mono (h.run A env V0 h0 Cs X s hA F) (fun _ _ q => ⟨q.1, q.2.flat hd⟩) fun _ _ q => q

theorem Ev.int {i : Int} {kk : Nat} {pos : Pos} : Ev c n sc k ρ (.Constant (.int i) kk pos) (.int i) := .mk fun A env V0 h0 Cs X s _ _ =>
  wp_end (wpAny_Constant_int ⟨fun _ _ e => e, rfl, rfl, fun _ => .int _ _⟩)
theorem Ev.str {x : Str} {kk : Nat} {pos : Pos} : Ev c n sc k ρ (.Constant (.str x) kk pos) (.str x) := .mk fun A env V0 h0 Cs X s _ _ =>
  wp_end (wpAny_Constant_str ⟨fun _ _ e => e, rfl, rfl, fun _ => .str _ _⟩)
theorem Ev.bool {b : Bool} {kk : Nat} {pos : Pos} : Ev c n sc k ρ (.Constant (.bool b) kk pos) (.bool b) := .mk fun A env V0 h0 Cs X s _ _ =>
  wpAny_Constant_bool ⟨.refl s, .bool _⟩
theorem Ev.none {kk : Nat} {pos : Pos} : Ev c n sc k ρ (.Constant .none kk pos) .none := .mk fun A env V0 h0 Cs X s _ _ =>
  wpAny_Constant_none ⟨.refl s, .none⟩

/-- a name of the module's top -/
theorem Ev.glob {x : String} {pos : Pos} {v : Value} (h : c.mg (Str.ofString x) = some v) (hk : sc.names.lookup (Str.ofString x) = some .globalImplicit := by rfl) (hx : x ≠ "__debug__" := by decide) :
    Ev c n sc k ρ (.Name (Str.ofString x) pos) (.val v) := .mk fun A env V0 h0 Cs X s _ F =>
  Calls.Name_function_global (by rw [F.scope]; exact F.kind) (by show env.scope.names.lookup _ = _; rw [F.scope]; exact hk)
    (Calls.loadGlobal_global (by rw [F.globals]; exact (F.good.g.keeps F.base).keeps F.keep) h ⟨.refl s, .val _⟩) (ofString_ne hx)
/-- a name of the built-ins -/
theorem Ev.blt {x : String} {pos : Pos} {v : Value} (h0 : c.mg (Str.ofString x) = Option.none) (h : c.mb (Str.ofString x) = some v) (hk : sc.names.lookup (Str.ofString x) = some .globalImplicit := by rfl) (hx : x ≠ "__debug__" := by decide) :
    Ev c n sc k ρ (.Name (Str.ofString x) pos) (.val v) := .mk fun A env V0 h0' Cs X s _ F =>
  Calls.Name_function_global (by rw [F.scope]; exact F.kind) (by show env.scope.names.lookup _ = _; rw [F.scope]; exact hk)
    (Calls.loadGlobal_builtin (by rw [F.globals]; exact (F.good.g.keeps F.base).keeps F.keep) h0 (by rw [F.builtins]; exact (F.good.b.keeps F.base).keeps F.keep) h ⟨.refl s, .val _⟩) (ofString_ne hx)

noncomputable def BinR (c : Cx) (op : Operator) (d₁ d₂ d : D) : Prop :=
  ∀ A V s v₁ v₂, Room c 0 A → St c V s → Rep c V s d₁ v₁ → Rep c V s d₂ v₂ → wpAny c.M A (binaryOp op v₁ v₂) (fun v s' => Gr s s' ∧ Rep c V s' d v) (fun _ _ => False) s
noncomputable def CmpR (c : Cx) (op : CmpOp) (d₁ d₂ : D) (b : Bool) : Prop :=
  ∀ A V s v₁ v₂, Room c 0 A → St c V s → Rep c V s d₁ v₁ → Rep c V s d₂ v₂ → wpAny c.M A (compareOp op v₁ v₂) (fun v s' => Gr s s' ∧ v = .bool b) (fun _ _ => False) s
noncomputable def ItemR (c : Cx) (d₁ d₂ d : D) : Prop :=
  ∀ A V s v₁ v₂, Room c 0 A → St c V s → Rep c V s d₁ v₁ → Rep c V s d₂ v₂ → wpAny c.M A (getItem v₁ v₂) (fun v s' => Gr s s' ∧ Rep c V s' d v) (fun _ _ => False) s
noncomputable def TruR (c : Cx) (d : D) (b : Bool) : Prop :=
  ∀ A V s v, Room c 0 A → St c V s → Rep c V s d v → wpAny c.M A (truthy v) (fun r s' => Gr s s' ∧ r = b) (fun _ _ => False) s

theorem Room.zero {n A} (h : Room c n A) : Room c 0 A := h.mono (Nat.zero_le _)

theorem Ev.bin {l r : Expr} {op : Operator} {pos : Pos} {d₁ d₂ d : D} (h1 : Ev c n sc k ρ l d₁) (h2 : Ev c n sc k ρ r d₂) (h : BinR c op d₁ d₂ d) : Ev c n sc k ρ (.BinOp l op r pos) d :=
  .mk fun A env V0 h0 Cs X s hA F => wpAny_BinOp (wpAny_mono (h1.run A env V0 h0 Cs X s hA F) (fun v₁ s₁ q₁ => wpAny_mono (h2.run A env V0 h0 Cs X s₁ hA (F.gr q₁.1)) (fun v₂ s₂ q₂ =>
    wp_gr (q₁.1.trans q₂.1) (h A _ s₂ v₁ v₂ hA.zero ((F.st k).gr (q₁.1.trans q₂.1)) (q₁.2.gr q₂.1) q₂.2)) fun _ _ q => q) fun _ _ q => q)

theorem Ev.cmp {l r : Expr} {op : CmpOp} {pos : Pos} {d₁ d₂ : D} {b : Bool} (h1 : Ev c n sc false ρ l d₁) (h2 : Ev c n sc false ρ r d₂) (h : CmpR c op d₁ d₂ b)
    (hm : behindInMarks op r = false := by with_unfolding_all rfl) : Ev c n sc k ρ (.Compare l [op] [r] pos) (.bool b) :=
  .mk fun A env V0 h0 Cs X s hA F => wpAny_Compare1 (wpAny_mono (h1.run A env V0 h0 Cs X s hA F) (fun v₁ s₁ q₁ => wpAny_mono (h2.run A env V0 h0 Cs X s₁ hA (F.gr q₁.1)) (fun v₂ s₂ q₂ =>
    wp_gr (q₁.1.trans q₂.1) (wpAny_mono (h A _ s₂ v₁ v₂ hA.zero ((F.st false).gr (q₁.1.trans q₂.1)) (q₁.2.gr q₂.1) q₂.2) (fun v s' q => ⟨q.1, by rw [q.2]; exact .bool b⟩) fun _ _ q => q)) fun _ _ q => q) fun _ _ q => q) hm

/-- a test -/
structure Tst (c : Cx) (n : Nat) (sc : Scope) (ρ : Sto) (e : Expr) (b : Bool) : Prop where
  run : ∀ A env V0 h0 Cs X s, Room c n A → Fm c sc env V0 h0 Cs X ρ s →
    wpAny c.M A (isTrue e env (eval e env)) (fun r s' => Gr s s' ∧ r = b) (fun _ _ => False) s

theorem Tst.cmp {l r : Expr} {op : CmpOp} {pos : Pos} {d₁ d₂ : D} {b : Bool} (h1 : Ev c n sc false ρ l d₁) (h2 : Ev c n sc false ρ r d₂) (h : CmpR c op d₁ d₂ b)
    (hm : behindInMarks op r = false := by with_unfolding_all rfl) : Tst c n sc ρ (.Compare l [op] [r] pos) b :=
  .mk fun A env V0 h0 Cs X s hA F => wpAny_isTrue_Compare1 (wpAny_mono (h1.run A env V0 h0 Cs X s hA F) (fun v₁ s₁ q₁ => wpAny_mono (h2.run A env V0 h0 Cs X s₁ hA (F.gr q₁.1)) (fun v₂ s₂ q₂ =>
    (wpAny_mono (h A _ s₂ v₁ v₂ hA.zero ((F.st false).gr (q₁.1.trans q₂.1)) (q₁.2.gr q₂.1) q₂.2) (fun v s' q => by
      rw [q.2]; exact wpAny_truthy_bool ⟨(q₁.1.trans q₂.1).trans q.1, rfl⟩) fun _ _ q => q)) fun _ _ q => q) fun _ _ q => q) hm
theorem Tst.not {e : Expr} {pos : Pos} {b : Bool} (h : Tst c n sc ρ e b) : Tst c n sc ρ (.UnaryOp .Not e pos) (!b) :=
  .mk fun A env V0 h0 Cs X s hA F => wpAny_isTrue_Not (wpAny_mono (h.run A env V0 h0 Cs X s hA F) (fun r s' q => ⟨q.1, by rw [q.2]⟩) fun _ _ q => q)
theorem Tst.val {e : Expr} {d : D} {b : Bool} (h : Ev c n sc false ρ e d) (ht : TruR c d b)
    (hw : ∀ env : Env, isTrue e env (eval e env) = (do let v ← eval e env; standAt e.pos; holding [v] (truthy v)) := by intro _; rfl) : Tst c n sc ρ e b :=
  .mk fun A env V0 h0 Cs X s hA F => by
    rw [hw]
    exact wpAny_bind (wpAny_mono (h.run A env V0 h0 Cs X s hA F) (fun v s' q => wpAny_bind (wpAny_standAt (wpAny_holding (wp_gr q.1 (ht A _ s' v hA.zero ((F.st false).gr q.1) q.2))))) fun _ _ q => q)
theorem Tst.bin {e : Expr} {b : Bool} (h : Ev c n sc false ρ e (.bool b)) 
    (hw : ∀ env : Env, isTrue e env (eval e env) = (do let v ← eval e env; standAt e.pos; holding [v] (truthy v)) := by intro _; rfl) : Tst c n sc ρ e b :=
  Tst.val h (fun A V s v _ _ r => by cases r.inv; exact wpAny_truthy_bool ⟨.refl s, rfl⟩) hw

structure Tsts (c : Cx) (n : Nat) (sc : Scope) (ρ : Sto) (op : BoolOp) (es : List Expr) (b : Bool) : Prop where
  run : ∀ A env V0 h0 Cs X s, Room c n A → Fm c sc env V0 h0 Cs X ρ s →
    wpAny c.M A (allTrue op es env) (fun r s' => Gr s s' ∧ r = b) (fun _ _ => False) s
theorem Tst.boolop {op : BoolOp} {es : List Expr} {pos : Pos} {b : Bool} (h : Tsts c n sc ρ op es b) : Tst c n sc ρ (.BoolOp op es pos) b :=
  .mk fun A env V0 h0 Cs X s hA F => wpAny_isTrue_BoolOp (h.run A env V0 h0 Cs X s hA F)
theorem Tsts.nilOr : Tsts c n sc ρ .Or [] false := .mk fun A env V0 h0 Cs X s _ _ => wpAny_allTrue_Or_nil ⟨.refl s, rfl⟩
theorem Tsts.or {e : Expr} {es : List Expr} {a b : Bool} (h : Tst c n sc ρ e a) (hs : a = false → Tsts c n sc ρ .Or es b) : Tsts c n sc ρ .Or (e :: es) (a || b) :=
  .mk fun A env V0 h0 Cs X s hA F => wpAny_allTrue_Or_cons (wpAny_mono (h.run A env V0 h0 Cs X s hA F) (fun r s' q => by
    obtain ⟨g, rfl⟩ := q
    cases r with
    | true => exact ⟨g, rfl⟩
    | false => exact wp_gr g ((hs rfl).run A env V0 h0 Cs X s' hA (F.gr g))) fun _ _ q => q)

theorem Ev.ite {t a b : Expr} {pos : Pos} {x : Bool} {d : D} (h : Tst c n sc ρ t x) (ha : x = true → Ev c n sc k ρ a d) (hb : x = false → Ev c n sc k ρ b d) : Ev c n sc k ρ (.IfExp t a b pos) d :=
  .mk fun A env V0 h0 Cs X s hA F => wpAny_IfExp (wpAny_mono (h.run A env V0 h0 Cs X s hA F) (fun r s' q => by
    obtain ⟨g, rfl⟩ := q
    cases r with
    | true => exact wp_gr g ((ha rfl).run A env V0 h0 Cs X s' hA (F.gr g))
    | false => exact wp_gr g ((hb rfl).run A env V0 h0 Cs X s' hA (F.gr g))) fun _ _ q => q)

end
end Mine
namespace Mine

noncomputable def delS (x : String) : Sto → Sto
  | [] => []
  | (y, sl) :: r => if y = x then delS x r else (y, sl) :: delS x r
noncomputable def setS (ρ : Sto) (x : String) (sl : Slot) : Sto := (x, sl) :: delS x ρ

/-- what a piece of code may do to the state: X are the places that it may turn -/
structure Stp (X : List Addr) (s : Shared) (X' : List Addr) (s' : Shared) : Prop where
  keep : ∀ b o, b ∉ X → s.heap.get? b = some o → s'.heap.get? b = some o
  tok : s.toks ≤ s'.toks
  gens : s'.gens = s.gens
  os : s'.os = s.os
  new : ∀ b ∈ X', b ∈ X ∨ s.heap.get? b = none
  live : ∀ b ∈ X, ∀ o, s.heap.get? b = some o → ∃ o', s'.heap.get? b = some o'
theorem Stp.refl (X : List Addr) (s : Shared) : Stp X s X s := ⟨fun _ _ _ e => e, Nat.le_refl _, rfl, rfl, fun _ h => .inl h, fun _ _ o e => ⟨o, e⟩⟩
theorem Stp.of_gr {X : List Addr} {s s' : Shared} (g : Gr s s') : Stp X s X s' := ⟨fun _ _ _ e => g.keep _ _ e, g.tok, g.gens, g.os, fun _ h => .inl h, fun _ _ o e => ⟨o, g.keep _ _ e⟩⟩
theorem Stp.alive {X X' : List Addr} {s s' : Shared} (t : Stp X s X' s') {b : Addr} {o : Obj} (e : s.heap.get? b = some o) : ∃ o', s'.heap.get? b = some o' := by
  by_cases h1 : b ∈ X
  · exact t.live b h1 o e
  · exact ⟨o, t.keep b o h1 e⟩
theorem Stp.trans {X X' X'' : List Addr} {s s' s'' : Shared} (a : Stp X s X' s') (b : Stp X' s' X'' s'') : Stp X s X'' s'' :=
  ⟨fun x o hx e => b.keep x o (fun q => (a.new x q).elim hx fun q => (by rw [q] at e; cases e)) (a.keep x o hx e), Nat.le_trans a.tok b.tok, b.gens.trans a.gens, b.os.trans a.os,
   fun x hx => (by
    rcases b.new x hx with q | q
    · exact a.new x q
    · by_cases hX : x ∈ X
      · exact .inl hX
      · refine .inr ?_
        cases e : s.heap.get? x with
        | none => rfl
        | some o => rw [a.keep x o hX e] at q; cases q),
   fun x hx o e => by
    obtain ⟨o', e'⟩ := a.live x hx o e
    by_cases h' : x ∈ X'
    · exact b.live x h' o' e'
    · exact ⟨o', b.keep x o' h' e'⟩⟩
theorem Stp.sub {X Y X' : List Addr} {s s' : Shared} (a : Stp X s X' s') (h : ∀ b ∈ X, b ∈ Y) : Stp Y s X' s' :=
  ⟨fun b o hb e => a.keep b o (fun q => hb (h b q)) e, a.tok, a.gens, a.os, fun b hb => (a.new b hb).imp (h b) id, fun b hb o e => by
    by_cases hX : b ∈ X
    · exact a.live b hX o e
    · exact ⟨o, a.keep b o hX e⟩⟩
theorem Stp.sub' {X X' Y : List Addr} {s s' : Shared} (a : Stp X s X' s') (h : ∀ b ∈ Y, b ∈ X') : Stp X s Y s' :=
  ⟨a.keep, a.tok, a.gens, a.os, fun b hb => a.new b (h b hb), a.live⟩

theorem ext_na {V W : Addr → Prop} {s : Shared} (hw : ∀ a, W a → s.heap.get? a = none) (a : Addr) (o : Obj) (na : ¬ V a) (e : s.heap.get? a = some o) (_ : Shp o) : ¬ (V a ∨ W a) ∧ s.heap.get? a = some o := ⟨fun q => q.elim na fun q => (by rw [hw a q] at e; cases e), e⟩
theorem Rep.ext {c : Cx} {V W : Addr → Prop} {s : Shared} (hw : ∀ a, W a → s.heap.get? a = Option.none) {d v} (r : Rep c V s d v) : Rep c (fun a => V a ∨ W a) s d v := r.mapA ⟨rfl, rfl⟩ (ext_na hw)
theorem RepL.ext {c : Cx} {V W : Addr → Prop} {s : Shared} (hw : ∀ a, W a → s.heap.get? a = Option.none) {d v} (r : RepL c V s d v) : RepL c (fun a => V a ∨ W a) s d v := r.mapA ⟨rfl, rfl⟩ (ext_na hw)
theorem RepS.ext {c : Cx} {V W : Addr → Prop} {s : Shared} (hw : ∀ a, W a → s.heap.get? a = Option.none) {d v fp} (r : RepS c V s d v fp) : RepS c (fun a => V a ∨ W a) s d v fp := r.map (fun _ _ => Rep.ext hw) fun _ _ _ e => e
theorem RepSL.ext {c : Cx} {V W : Addr → Prop} {s : Shared} (hw : ∀ a, W a → s.heap.get? a = Option.none) {d v fp} (r : RepSL c V s d v fp) : RepSL c (fun a => V a ∨ W a) s d v fp := r.map (fun _ _ => Rep.ext hw) fun _ _ _ e => e
theorem RepS.weak {c : Cx} {V V' : Addr → Prop} {s : Shared} {sl v fp} (r : RepS c V s sl v fp) (hv : ∀ a, V' a → V a) : RepS c V' s sl v fp := r.calm (Gr.calm (.refl s) V) hv fun _ _ _ e => e
theorem RepS.gr {c : Cx} {V : Addr → Prop} {s s' : Shared} {sl v fp} (r : RepS c V s sl v fp) (g : Gr s s') : RepS c V s' sl v fp := r.calm (g.calm V) (fun _ q => q) fun _ _ _ e => g.keep _ _ e

theorem StoR.ext {c : Cx} {env : Env} {V W : Addr → Prop} {s : Shared} {m : Str → Option Value} (hw : ∀ a, W a → s.heap.get? a = none) {ρ fps} (h : StoR c env V s m ρ fps) : StoR c env (fun a => V a ∨ W a) s m ρ fps := h.map (fun _ _ _ l => l) fun _ _ _ _ r => r.ext hw
theorem StoR.weak {c : Cx} {env : Env} {V V' : Addr → Prop} {s : Shared} {m : Str → Option Value} (hv : ∀ a, V' a → V a) {ρ fps} (h : StoR c env V s m ρ fps) : StoR c env V' s m ρ fps := h.map (fun _ _ _ l => l) fun _ _ _ _ r => r.weak hv

theorem StoR.del {c : Cx} {env : Env} {V : Addr → Prop} {s : Shared} {m : Str → Option Value} (x : String) : ∀ {ρ fps}, StoR c env V s m ρ fps → ∃ fps' rest, StoR c env V s m (delS x ρ) fps' ∧ (rest ++ fps').Perm fps
  | _, _, .nil => ⟨[], [], .nil, .refl _⟩
  | _, _, .cons (x := y) (fp := fp) l r rs => by
    obtain ⟨fps', rest, h1, h2⟩ := rs.del x
    unfold delS
    by_cases hy : y = x
    · rw [if_pos hy]
      exact ⟨fps', fp ++ rest, h1, by rw [List.append_assoc]; exact h2.append_left fp⟩
    · rw [if_neg hy]
      exact ⟨fp ++ fps', rest, .cons l r h1, (by
        rw [← List.append_assoc]
        refine (List.Perm.append_right _ List.perm_append_comm).trans ?_
        rw [List.append_assoc]; exact h2.append_left fp)⟩

theorem delS_ne {x : String} : ∀ {ρ : Sto}, ∀ p ∈ delS x ρ, p.1 ≠ x
  | [], _, hp => by cases hp
  | (y, sl) :: r, p, hp => by
    unfold delS at hp
    split at hp
    · exact delS_ne p hp
    · rcases List.mem_cons.mp hp with rfl | hp
      · assumption
      · exact delS_ne p hp

/-- the store under a change at a place of X that no footprint holds -/
theorem StoR.change {c : Cx} {env : Env} {V : Addr → Prop} {s s' : Shared} {m m' : Str → Option Value} (hc : Calm V s s') {ρ fps} (h : StoR c env V s m ρ fps)
    (h1 : ∀ a ∈ fps, ∀ o, s.heap.get? a = some o → s'.heap.get? a = some o)
    (h2 : ∀ p ∈ ρ, env.kindOf (Str.ofString p.1) = some .local → m' (Str.ofString p.1) = m (Str.ofString p.1))
    (h3 : ∀ p ∈ ρ, ∀ a o w, env.cells.lookup (Str.ofString p.1) = some a → s.heap.get? a = some o → o.data = .cell w → s'.heap.get? a = some o) : StoR c env V s' m' ρ fps :=
  h.map (fun p hp _ l => l.calm (h2 p hp) (h3 p hp)) fun _ _ _ hf r => r.calm hc (fun _ q => q) fun a ha => h1 a (hf a ha)

theorem RepS.seq {c V s} {sl v fp} (r : RepS c V s sl v fp) : ∀ a ∈ fp, ∃ o vs n, s.heap.get? a = some o ∧ o.data = .seq vs n :=
  RepS.rec (motive_1 := fun _ _ fp _ => ∀ a ∈ fp, ∃ o vs n, s.heap.get? a = some o ∧ o.data = .seq vs n) (motive_2 := fun _ _ fp _ => ∀ a ∈ fp, ∃ o vs n, s.heap.get? a = some o ∧ o.data = .seq vs n)
    (fun _ _ h => nomatch h) (fun _ ho _ _ hdt _ r a ha => (List.mem_cons.mp ha).elim (fun e => ⟨_, _, _, e ▸ ho, hdt⟩) (r a)) (fun _ h => nomatch h) (fun _ _ r rs a ha => (List.mem_append.mp ha).elim (r a) (rs a)) r
theorem RepS.alive {c V s} {sl v fp} (r : RepS c V s sl v fp) (a : Addr) (ha : a ∈ fp) : ∃ o, s.heap.get? a = some o := let ⟨o, _, _, e, _⟩ := r.seq a ha; ⟨o, e⟩

theorem RepSL.seq {c V s} {sl v fp} (r : RepSL c V s sl v fp) : ∀ a ∈ fp, ∃ o vs n, s.heap.get? a = some o ∧ o.data = .seq vs n :=
  RepSL.rec (motive_1 := fun _ _ fp _ => ∀ a ∈ fp, ∃ o vs n, s.heap.get? a = some o ∧ o.data = .seq vs n) (motive_2 := fun _ _ fp _ => ∀ a ∈ fp, ∃ o vs n, s.heap.get? a = some o ∧ o.data = .seq vs n)
    (fun _ _ h => nomatch h) (fun _ ho _ _ hdt _ r a ha => (List.mem_cons.mp ha).elim (fun e => ⟨_, _, _, e ▸ ho, hdt⟩) (r a)) (fun _ h => nomatch h) (fun _ _ r rs a ha => (List.mem_append.mp ha).elim (r a) (rs a)) r
theorem RepSL.alive {c V s} {sl v fp} (r : RepSL c V s sl v fp) (a : Addr) (ha : a ∈ fp) : ∃ o, s.heap.get? a = some o := let ⟨o, _, _, e, _⟩ := r.seq a ha; ⟨o, e⟩

/-- a name that may be stored -/
noncomputable def CanStore (sc : Scope) (x : String) : Prop := sc.names.lookup (Str.ofString x) = some .local ∨ sc.names.lookup (Str.ofString x) = some .cell
/-- all cells of the scope are the frame's own; a frame of the kind lsc is the only one on the stack -/
structure OwnT (c : Cx) (A : Around) (env : Env) (sc : Scope) (Cs : List (Str × Addr)) : Prop where
  own : ∀ x, sc.names.lookup x = some .cell → ∃ a, Cs.lookup x = some a
  top : c.lsc sc → A.frames = some [env] ∧ env.frame = some env.locals
noncomputable def Own (sc : Scope) (Cs : List (Str × Addr)) : Prop := ∀ x, sc.names.lookup x = some .cell → ∃ a, Cs.lookup x = some a

theorem mem_lookup {α β : Type} [BEq α] [LawfulBEq α] : ∀ {l : List (α × β)} {x : α} {a : β}, l.lookup x = some a → (x, a) ∈ l
  | (y, b) :: r, x, a, h => by
    rw [List.lookup_cons] at h
    by_cases hy : x = y
    · subst hy; simp only [beq_self_eq_true] at h; cases h; exact .head _
    · have : (x == y) = false := by simpa using hy
      rw [this] at h; exact .tail _ (mem_lookup h)

section
variable {c : Cx} {n : Nat} {sc : Scope} {env : Env} {V0 : Addr → Prop} {h0 : Heap} {Cs : List (Str × Addr)} {X : List Addr} {ρ : Sto} {s s₁ : Shared} {A : Around}

theorem calm_at {a : Addr} {V : Addr → Prop} {s : Shared} {h' : Heap} {tk : Nat} (hs : Heap.SameBut a s.heap h') (hv : V a) (ht : s.toks ≤ tk) : Calm V s { s with heap := h', toks := tk } :=
  ⟨ht, fun b o nb e _ => (hs.2 b fun q => nb (q ▸ hv)).trans e⟩

/-- storing a value in a name -/
theorem Fm.store {x : String} {sl : Slot} {v : Value} {fp : List Addr} (F : Fm c sc env V0 h0 Cs X ρ s) (g : Gr s s₁) (hO : sc.names.lookup (Str.ofString x) = some .cell → ∃ a, Cs.lookup (Str.ofString x) = some a) (hk : CanStore sc x)
    (r : RepS c (Vol V0 (X ++ fp)) s₁ sl v fp) (hn : fp.Nodup) (hf : ∀ a ∈ fp, s.heap.get? a = none) :
    wpAny c.M A (storeName env (Str.ofString x) v) (fun _ s' => ∃ X', Stp X s X' s' ∧ Fm c sc env V0 h0 Cs X' (setS ρ x sl) s') (fun _ _ => False) s₁ := by
  obtain ⟨m, fps, hns, hX, hnd, hlv, hcl, hst⟩ := F.sto
  have hfX : ∀ a ∈ fp, a ∉ X := fun a ha hx => by obtain ⟨o, e⟩ := hlv a hx; rw [hf a ha] at e; cases e
  have hvk : sc.kind = .function := F.kind
  have hke : env.scope.kind = .function := by rw [F.scope]; exact hvk
  -- the store before, apart from the new places
  have hst1 : StoR c env (Vol V0 (X ++ fp)) s₁ m ρ fps := ((hst.ext (W := fun a => a ∈ fp) hf).gr g).weak fun a q => by
    rcases q with q | q
    · exact .inl (.inl q)
    · rcases List.mem_append.mp q with q | q
      · exact .inl (.inr q)
      · exact .inr q
  obtain ⟨fps', rest, hdel, hperm⟩ := hst1.del x
  have hsubX : ∀ a ∈ fps', a ∈ fps := fun a ha => hperm.subset (List.mem_append_right _ ha)
  -- the places behind the store
  have hX' : (env.locals :: (Cs.map (·.2) ++ (fp ++ fps'))).Nodup := by
    have hx1 : (env.locals :: (Cs.map (·.2) ++ fps)).Nodup := hX ▸ hnd
    have hp : (rest ++ (env.locals :: (Cs.map (·.2) ++ fps'))).Perm (env.locals :: (Cs.map (·.2) ++ fps)) := by
      refine List.perm_middle.trans (List.Perm.cons _ ?_)
      rw [← List.append_assoc]
      refine (List.Perm.append_right _ List.perm_append_comm).trans ?_
      rw [List.append_assoc]
      exact hperm.append_left _
    have hx2 := (List.nodup_append.mp (hp.nodup_iff.mpr hx1)).2.1
    have hp2 : (fp ++ (env.locals :: (Cs.map (·.2) ++ fps'))).Perm (env.locals :: (Cs.map (·.2) ++ (fp ++ fps'))) := by
      refine List.perm_middle.trans (List.Perm.cons _ ?_)
      rw [← List.append_assoc, ← List.append_assoc]
      exact List.Perm.append_right _ List.perm_append_comm
    refine hp2.nodup_iff.mp (List.nodup_append.mpr ⟨hn, hx2, fun a ha b hb e => ?_⟩)
    subst e
    refine hfX a ha (hX ▸ ?_)
    rcases List.mem_cons.mp hb with q | q
    · exact q ▸ .head _
    · refine .tail _ ?_
      rcases List.mem_append.mp q with q | q
      · exact List.mem_append_left _ q
      · exact List.mem_append_right _ (hsubX a q)
  have hsub : ∀ a ∈ env.locals :: (Cs.map (·.2) ++ (fp ++ fps')), a ∈ X ∨ a ∈ fp := fun a ha => by
    rcases List.mem_cons.mp ha with q | q
    · exact .inl (hX ▸ q ▸ .head _)
    · rcases List.mem_append.mp q with q | q
      · exact .inl (hX ▸ .tail _ (List.mem_append_left _ q))
      · rcases List.mem_append.mp q with q | q
        · exact .inr q
        · exact .inl (hX ▸ .tail _ (List.mem_append_right _ (hsubX a q)))
  have hvol : ∀ a, Vol V0 (env.locals :: (Cs.map (·.2) ++ (fp ++ fps'))) a → Vol V0 (X ++ fp) a := fun a q => q.imp id fun q => by
    rcases hsub a q with q | q
    · exact List.mem_append_left _ q
    · exact List.mem_append_right _ q
  have hLX : env.locals ∈ X := hX ▸ .head _
  have hnew : ∀ a ∈ env.locals :: (Cs.map (·.2) ++ (fp ++ fps')), h0.get? a = none := fun a ha => by
    rcases hsub a ha with q | q
    · exact F.new a q
    · cases e : h0.get? a with
      | none => rfl
      | some o => have := F.keep a o e; rw [hf a q] at this; cases this
  have hns1 := hns.keeps g.keep
  rcases hk with hk | hk
  · -- a local
    have hkl : env.kindOf (Str.ofString x) = some .local := by show env.scope.names.lookup _ = _; rw [F.scope]; exact hk
    refine wpAny_storeName_local hkl hns1 (fun h' hn' hs' => ?_) (by rw [hke]; rfl)
    have hL0 : ∀ b o, h0.get? b = some o → b ≠ env.locals := fun b o e q => by rw [q, F.new _ hLX] at e; cases e
    have hcm := calm_at (tk := s₁.toks + 1) (V := Vol V0 (X ++ fp)) hs' (.inr (List.mem_append_left _ hLX)) (Nat.le_succ _)
    have hnl : env.locals ∉ fp ++ fps' := fun q => (List.nodup_cons.mp hX').1 (List.mem_append_right _ q)
    refine ⟨_, ⟨fun b o hb e => (hs'.2 b fun q => hb (q ▸ hLX)).trans (g.keep b o e), Nat.le_trans g.tok (Nat.le_succ _), g.gens, g.os, fun b hb => (hsub b hb).imp id (hf b), ?_⟩,
      ⟨F.good, F.scope, F.kind, F.globals, F.builtins, F.base, fun b o e => (hs'.2 b (hL0 b o e)).trans (g.keep b o (F.keep b o e)), Nat.succ_ne_zero _, (fun a q => by
        obtain ⟨⟨o, e⟩, hx⟩ := F.live0 a q
        exact ⟨⟨o, (hs'.2 a fun q' => hx (q' ▸ hLX)).trans (g.keep _ _ e)⟩, fun q' => (hsub a q').elim hx fun q'' => by rw [hf a q''] at e; cases e⟩), F.ccells, hnew, F.cells, F.cinj,
        ⟨_, _, hn', rfl, hX', fun a ha => ?_, fun p hp => ?_, .cons (.loc hkl (if_pos rfl)) ?_ (StoR.weak hvol ?_)⟩⟩⟩
    · intro b hb o e
      by_cases q : b = env.locals
      · obtain ⟨oL, _, _, e', _⟩ := hn'; exact ⟨oL, q ▸ e'⟩
      · exact ⟨o, (hs'.2 b q).trans (g.keep b o e)⟩
    · by_cases q : a = env.locals
      · obtain ⟨oL, _, _, e', _⟩ := hn'; exact ⟨oL, q ▸ e'⟩
      · have : ∃ o, s₁.heap.get? a = some o := by
          rcases hsub a ha with q' | q'
          · obtain ⟨o, e⟩ := hlv a q'; exact ⟨o, g.keep _ _ e⟩
          · exact r.alive a q'
        obtain ⟨o, e⟩ := this
        exact ⟨o, (hs'.2 a q).trans e⟩
    · obtain ⟨v₀, q⟩ := hcl p hp
      exact ⟨v₀, (q.keeps g.keep).sameBut hs' fun q' => (List.nodup_cons.mp hX').1 (List.mem_append_left _ (q' ▸ List.mem_map_of_mem hp))⟩
    · exact r.calm hcm hvol fun a ha o e => (hs'.2 a fun q => hnl (q ▸ List.mem_append_left _ ha)).trans e
    · refine hdel.change hcm (fun a ha o e => (hs'.2 a fun q => hnl (q ▸ List.mem_append_right _ ha)).trans e) (fun p hp _ => if_neg fun q => delS_ne p hp (ofString_inj q)) fun p hp a o w hc e hw => ?_
      refine (hs'.2 a fun q => ?_).trans e
      obtain ⟨oL, es, ep, e', hd, _⟩ := hns1
      rw [q, e'] at e; cases e; rw [hw] at hd; cases hd
  · -- a cell
    have hkl : env.kindOf (Str.ofString x) = some .cell := by show env.scope.names.lookup _ = _; rw [F.scope]; exact hk
    obtain ⟨a₀, ha₀⟩ := hO hk
    have hp₀ := mem_lookup ha₀
    have haC : a₀ ∈ Cs.map (·.2) := List.mem_map_of_mem (f := (·.2)) hp₀
    have hlk := F.cells _ _ ha₀
    obtain ⟨v₀, hcell⟩ := hcl _ hp₀
    have haX : a₀ ∈ X := hX ▸ .tail _ (List.mem_append_left _ haC)
    have haL : env.locals ≠ a₀ := fun q => (List.nodup_cons.mp hX').1 (List.mem_append_left _ (q ▸ haC))
    have hna : a₀ ∉ fp ++ fps' := fun q => (List.nodup_append.mp (List.nodup_cons.mp hX').2).2.2 _ haC _ q rfl
    refine wpAny_storeName_cell hke hkl hlk (hcell.keeps g.keep) fun h' hn' hs' => ?_
    have hL0 : ∀ b o, h0.get? b = some o → b ≠ a₀ := fun b o e q => by rw [q, F.new _ haX] at e; cases e
    have hcm := calm_at (tk := s₁.toks) (V := Vol V0 (X ++ fp)) hs' (.inr (List.mem_append_left _ haX)) (Nat.le_refl _)
    refine ⟨_, ⟨fun b o hb e => (hs'.2 b fun q => hb (q ▸ haX)).trans (g.keep b o e), g.tok, g.gens, g.os, fun b hb => (hsub b hb).imp id (hf b), ?_⟩,
      ⟨F.good, F.scope, F.kind, F.globals, F.builtins, F.base, fun b o e => (hs'.2 b (hL0 b o e)).trans (g.keep b o (F.keep b o e)), (F.gr g).tok, (fun a q => by
        obtain ⟨⟨o, e⟩, hx⟩ := F.live0 a q
        exact ⟨⟨o, (hs'.2 a fun q' => hx (q' ▸ haX)).trans (g.keep _ _ e)⟩, fun q' => (hsub a q').elim hx fun q'' => by rw [hf a q''] at e; cases e⟩), F.ccells, hnew, F.cells, F.cinj,
        ⟨m, _, hns1.sameBut hs' haL, rfl, hX', fun a ha => ?_, fun p hp => ?_, ?_⟩⟩⟩
    · intro b hb o e
      by_cases q : b = a₀
      · obtain ⟨oL, e', _⟩ := hn'; exact ⟨oL, q ▸ e'⟩
      · exact ⟨o, (hs'.2 b q).trans (g.keep b o e)⟩
    · by_cases q : a = a₀
      · obtain ⟨oL, e', _⟩ := hn'; exact ⟨oL, q ▸ e'⟩
      · have : ∃ o, s₁.heap.get? a = some o := by
          rcases hsub a ha with q' | q'
          · obtain ⟨o, e⟩ := hlv a q'; exact ⟨o, g.keep _ _ e⟩
          · exact r.alive a q'
        obtain ⟨o, e⟩ := this
        exact ⟨o, (hs'.2 a q).trans e⟩
    · by_cases q : p.2 = a₀
      · exact ⟨_, q ▸ hn'⟩
      · obtain ⟨v₁, q'⟩ := hcl p hp
        exact ⟨v₁, (q'.keeps g.keep).sameBut hs' q⟩
    · obtain ⟨o', e', hd'⟩ := hn'
      refine .cons (.cell (.inl hkl) hlk e' hd') ?_ (StoR.weak hvol ?_)
      · exact r.calm hcm hvol fun a ha o e => (hs'.2 a fun q => hna (q ▸ List.mem_append_left _ ha)).trans e
      · refine hdel.change hcm (fun a ha o e => (hs'.2 a fun q => hna (q ▸ List.mem_append_right _ ha)).trans e) (fun p hp _ => rfl) fun p hp a o w hc e hw => ?_
        refine (hs'.2 a fun q => ?_).trans e
        exact delS_ne p hp (ofString_inj (F.cinj _ _ _ (q ▸ hc) hlk))

end
end Mine
namespace Mine

noncomputable def plainE : Expr → Bool
  | .Starred .. => false
  | _ => true
theorem starEach_cons {e : Expr} {rest : List Expr} {env : Env} (h : plainE e = true) : starEach (e :: rest) env = (false, eval e env) :: starEach rest env := by
  cases e <;> first | rfl | cases h
theorem assignEach_cons {e : Expr} {rest : List Expr} {env : Env} (h : plainE e = true) : assignEach (e :: rest) env = (false, assign e env) :: assignEach rest env := by
  cases e <;> first | rfl | cases h

/-- an iterator and what it will give -/
inductive ItAt (c : Cx) (V : Addr → Prop) (s : Shared) : Addr → List D → Prop
  | list {it l i o vs n ds} : s.heap.IsListIter it l i → ¬ V l → s.heap.get? l = some o → o.cls = .type "list" → o.data = .seq vs n → RepL c V s ds (vs.toList.drop i) → ItAt c V s it ds
  | tuple {it l i o vs n ds} : s.heap.IsTupleIter it l i → ¬ V l → s.heap.get? l = some o → o.cls = .type "tuple" → o.data = .seq vs n → RepL c V s ds (vs.toList.drop i) → ItAt c V s it ds
  | range {it x left st} : IsRangeIter s.heap it x left st → ItAt c V s it ((List.range left.toNat).map fun k : Nat => D.int (x + k * st))
  | ascii {it x t i} : s.heap.IsStrIter it "str_ascii_iterator" x t i → ItAt c V s it ((x.cps.toList.drop i).map fun k => D.str ⟨#[k]⟩)
  | wide {it x t i} : s.heap.IsStrIter it "str_iterator" x t i → ItAt c V s it ((x.cps.toList.drop i).map fun k => D.str ⟨#[k]⟩)

/-- one look at the iterator -/
structure ItStep (it : Addr) (s s' : Shared) : Prop where
  keep : Heap.ExtBut it s.heap s'.heap
  tok : s.toks ≤ s'.toks
  gens : s'.gens = s.gens
  os : s'.os = s.os

theorem ItAt.fields {c V s it ds} (h : ItAt c V s it ds) : ∃ o vs T, s.heap.get? it = some o ∧ o.data = .fields vs ∧ o.cls = .type T ∧ T ≠ "range" ∧
    ["enumerate", "zip", "dict_itemiterator", "dict_reverseitemiterator", "odict_iterator", "itertools.zip_longest", "itertools.pairwise"].contains T = false := by
  cases h with
  | list h => obtain ⟨o, h1, h2, h3⟩ := h; exact ⟨o, _, _, h1, h3, h2, by decide, by decide⟩
  | tuple h => obtain ⟨o, h1, h2, h3⟩ := h; exact ⟨o, _, _, h1, h3, h2, by decide, by decide⟩
  | range h => exact ⟨_, _, "range_iterator", h, rfl, rfl, by decide, by decide⟩
  | ascii h => obtain ⟨o, h1, h2, h3⟩ := h; exact ⟨o, _, _, h1, h3, h2, by decide, by decide⟩
  | wide h => obtain ⟨o, h1, h2, h3⟩ := h; exact ⟨o, _, _, h1, h3, h2, by decide, by decide⟩

theorem ItStep.calm {c V s it ds s'} (h : ItAt c V s it ds) (t : ItStep it s s') (W : Addr → Prop) : Calm W s s' :=
  ⟨t.tok, fun b o _ e hd => t.keep b o (fun q => by
    obtain ⟨o', vs, T, h1, h2, h3, h4, _⟩ := h.fields
    rw [q, h1] at e; cases e
    rcases hd with ⟨_, _, hd⟩ | ⟨_, _, hd⟩ | hd | hd
    · rw [h2] at hd; cases hd
    · rw [h2] at hd; cases hd
    · rw [h3] at hd; injection hd with hd; exact h4 hd
    · rw [h2] at hd; cases hd) e⟩

theorem ItAt.next {c : Cx} {V s it} {d : D} {ds : List D} {A : Around} (h : ItAt c V s it (d :: ds)) :
    wpAny c.M A (pyNext (.ref it)) (fun r s' => ∃ v, r = some v ∧ Rep c V s' d v ∧ ItAt c V s' it ds ∧ ItStep it s s') (fun _ _ => False) s := by
  have h' := h
  generalize hL : d :: ds = L at h
  cases h with
  | @list l i o vs n _ hi hv ho hcl hdt r =>
    subst hL
    cases hr : vs.toList.drop i with
    | nil => rw [hr] at r; cases r
    | cons v rest =>
      rw [hr] at r
      cases r with
      | cons r rs =>
        have hi0 : vs[i]? = some v := by
          have : (vs.toList.drop i)[0]? = some v := by rw [hr]; rfl
          simpa using this
        refine wpAny_pyNext_list_item hi ⟨o, ho, hcl, n, hdt⟩ hi0 fun h' hi' hs' => ?_
        have st : ItStep it s { s with heap := h' } := ⟨hs'.extBut, Nat.le_refl _, rfl, rfl⟩
        refine ⟨v, rfl, r.calm (st.calm ‹_› V) fun _ q => q, .list hi' hv ((st.calm ‹_› V).2 _ _ hv ho (.inl ⟨_, _, hdt⟩)) hcl hdt ?_, st⟩
        have : vs.toList.drop (i + 1) = rest := by
          have := congrArg List.tail hr
          simpa using this
        rw [this]
        exact rs.calm (st.calm ‹_› V) fun _ q => q
  | @tuple l i o vs n _ hi hv ho hcl hdt r =>
    subst hL
    cases hr : vs.toList.drop i with
    | nil => rw [hr] at r; cases r
    | cons v rest =>
      rw [hr] at r
      cases r with
      | cons r rs =>
        have hi0 : vs[i]? = some v := by
          have : (vs.toList.drop i)[0]? = some v := by rw [hr]; rfl
          simpa using this
        refine wpAny_pyNext_tuple_item hi ⟨o, ho, hcl, n, hdt⟩ hi0 fun h' hi' hs' => ?_
        have st : ItStep it s { s with heap := h' } := ⟨hs'.extBut, Nat.le_refl _, rfl, rfl⟩
        refine ⟨v, rfl, r.calm (st.calm ‹_› V) fun _ q => q, .tuple hi' hv ((st.calm ‹_› V).2 _ _ hv ho (.inl ⟨_, _, hdt⟩)) hcl hdt ?_, st⟩
        have : vs.toList.drop (i + 1) = rest := by
          have := congrArg List.tail hr
          simpa using this
        rw [this]
        exact rs.calm (st.calm ‹_› V) fun _ q => q
  | @range x left st hi =>
    obtain ⟨k, hk⟩ : ∃ k, left.toNat = k + 1 := by
      cases hk : left.toNat with
      | zero => rw [hk] at hL; simp at hL
      | succ k => exact ⟨k, rfl⟩
    rw [hk, List.range_succ_eq_map] at hL
    simp only [List.map_cons, List.map_map, List.cons.injEq] at hL
    obtain ⟨rfl, rfl⟩ := hL
    refine wpAny_pyNext_range_item hi (by omega) fun h' hi' hs' => ?_
    have stp : ItStep it s { s with heap := h', toks := s.toks + 1 } := ⟨hs'.extBut, Nat.le_succ _, rfl, rfl⟩
    refine ⟨_, rfl, ?_, ?_, stp⟩
    · have e0 : x + ((0 : Nat) : Int) * st = x := by simp
      rw [e0]; exact .int _ _
    · have e : (List.map ((fun k : Nat => D.int (x + ↑k * st)) ∘ Nat.succ) (List.range k)) = (List.range (left - 1).toNat).map fun k : Nat => D.int (x + st + k * st) := by
        rw [show (left - 1).toNat = k by omega]
        refine List.map_congr_left fun j _ => ?_
        simp only [Function.comp]
        congr 1
        rw [Int.natCast_succ, Int.add_mul]; omega
      rw [e]; exact .range hi'
  | @ascii x t i hi =>
    cases hr : x.cps.toList.drop i with
    | nil => rw [hr] at hL; cases hL
    | cons k rest =>
      rw [hr] at hL
      simp only [List.map_cons, List.cons.injEq] at hL
      obtain ⟨rfl, rfl⟩ := hL
      have hi0 : x.cps[i]? = some k := by
        have : (x.cps.toList.drop i)[0]? = some k := by rw [hr]; rfl
        simpa using this
      refine wpAny_pyNext_ascii_item hi hi0 fun h' hi' hs' => ?_
      have : x.cps.toList.drop (i + 1) = rest := by
        have := congrArg List.tail hr
        simpa using this
      exact ⟨_, rfl, .str _ _, this ▸ .ascii hi', ⟨hs'.extBut, Nat.le_succ _, rfl, rfl⟩⟩
  | @wide x t i hi =>
    cases hr : x.cps.toList.drop i with
    | nil => rw [hr] at hL; cases hL
    | cons k rest =>
      rw [hr] at hL
      simp only [List.map_cons, List.cons.injEq] at hL
      obtain ⟨rfl, rfl⟩ := hL
      have hi0 : x.cps[i]? = some k := by
        have : (x.cps.toList.drop i)[0]? = some k := by rw [hr]; rfl
        simpa using this
      refine wpAny_pyNext_wide_item hi hi0 fun h' hi' hs' => ?_
      have : x.cps.toList.drop (i + 1) = rest := by
        have := congrArg List.tail hr
        simpa using this
      exact ⟨_, rfl, .str _ _, this ▸ .wide hi', ⟨hs'.extBut, Nat.le_succ _, rfl, rfl⟩⟩

theorem ItAt.stop {c : Cx} {V s it} {A : Around} (hh : A.handled = none) (h : ItAt c V s it []) :
    wpAny c.M A (pyNext (.ref it)) (fun r s' => r = none ∧ ItStep it s s') (fun _ _ => False) s := by
  generalize hL : ([] : List D) = L at h
  cases h with
  | @list l i o vs n _ hi hv ho hcl hdt r =>
    subst hL
    cases hr : vs.toList.drop i with
    | cons v rest => rw [hr] at r; cases r
    | nil =>
      refine wpAny_pyNext_list_end hh hi ⟨o, ho, hcl, n, hdt⟩ ?_ fun h' hs' => ⟨rfl, hs', Nat.le_refl _, rfl, rfl⟩
      have : (vs.toList.drop i)[0]? = none := by rw [hr]; rfl
      simpa using this
  | @tuple l i o vs n _ hi hv ho hcl hdt r =>
    subst hL
    cases hr : vs.toList.drop i with
    | cons v rest => rw [hr] at r; cases r
    | nil =>
      refine wpAny_pyNext_tuple_end hh hi ⟨o, ho, hcl, n, hdt⟩ ?_ fun h' hs' => ⟨rfl, hs', Nat.le_refl _, rfl, rfl⟩
      have : (vs.toList.drop i)[0]? = none := by rw [hr]; rfl
      simpa using this
  | @range x left st hi =>
    have hz : left.toNat = 0 := by
      have := congrArg List.length hL
      simpa using this.symm
    exact wpAny_pyNext_range_end hh hi (by omega) fun h' hs' => ⟨rfl, hs', Nat.le_refl _, rfl, rfl⟩
  | @ascii x t i hi =>
    have hz : x.cps.toList.drop i = [] := by simpa using hL.symm
    refine wpAny_pyNext_ascii_end hh hi ?_ fun h' hs' => ⟨rfl, hs', Nat.le_refl _, rfl, rfl⟩
    have : (x.cps.toList.drop i)[0]? = none := by rw [hz]; rfl
    simpa using this
  | @wide x t i hi =>
    have hz : x.cps.toList.drop i = [] := by simpa using hL.symm
    refine wpAny_pyNext_wide_end hh hi ?_ fun h' hs' => ⟨rfl, hs', Nat.le_refl _, rfl, rfl⟩
    have : (x.cps.toList.drop i)[0]? = none := by rw [hz]; rfl
    simpa using this

/-- iterating over d gives ds -/
noncomputable def IterR (c : Cx) (d : D) (ds : List D) : Prop :=
  ∀ A V s v, Room c 0 A → St c V s → Rep c V s d v → wpAny c.M A (pyIter v) (fun it s' => Gr s s' ∧ ∃ a, it = .ref a ∧ s.heap.get? a = none ∧ ItAt c V s' a ds) (fun _ _ => False) s

theorem get_size (h : Heap) : h.get? h.objs.size = none := by
  cases e : h.get? h.objs.size with
  | none => rfl
  | some o => exact absurd (Heap.lt_size e) (Nat.lt_irrefl _)

theorem IterR.list {c : Cx} {ds : List D} : IterR c (.list ds) ds := fun A V s v _ _ r => by
  replace r := r.inv
  obtain ⟨_, _, _, _, rfl, na, ho, hcl, hd, hdt, r⟩ := r
  refine wpAny_pyIter_list ⟨_, ho, hcl, _, hdt⟩ ⟨.push _, _, rfl, get_size _, .list ⟨_, Heap.get?_push_size _ rfl, rfl, rfl⟩ na (Heap.get?_push_of_some _ ho) hcl hdt ?_⟩
  rw [List.drop_zero]; exact r.gr (.push _)
end Mine
namespace Mine

inductive AF where
  | next | brk | cont
  | ret (d : D)

inductive FlowR (c : Cx) (V : Addr → Prop) (s : Shared) : Flow → AF → Prop
  | next : FlowR c V s .next .next
  | brk : FlowR c V s .brk .brk
  | cont : FlowR c V s .cont .cont
  | ret {v d} : Rep c V s d v → FlowR c V s (.ret v) (.ret d)

inductive SPost (c : Cx) (sc : Scope) (env : Env) (V0 : Addr → Prop) (h0 : Heap) (Cs : List (Str × Addr)) (X : List Addr) (s : Shared) (P : AF → Sto → Prop) (f : Flow) (s' : Shared) : Prop
  | mk (X' : List Addr) (ρ' : Sto) (af : AF) (t : Stp X s X' s') (F : Fm c sc env V0 h0 Cs X' ρ' s') (r : FlowR c (Vol V0 X') s' f af) (p : P af ρ') : SPost c sc env V0 h0 Cs X s P f s'

structure Sx (c : Cx) (n : Nat) (sc : Scope) (ρ : Sto) (st : Stmt) (P : AF → Sto → Prop) : Prop where
  run : ∀ A env V0 h0 Cs X s, Room c n A → OwnT c A env sc Cs → Fm c sc env V0 h0 Cs X ρ s → wpAny c.M A (exec st env) (SPost c sc env V0 h0 Cs X s P) (fun _ _ => False) s
structure Tr (c : Cx) (n : Nat) (sc : Scope) (ρ : Sto) (ss : List Stmt) (P : AF → Sto → Prop) : Prop where
  run : ∀ A env V0 h0 Cs X s, Room c n A → OwnT c A env sc Cs → Fm c sc env V0 h0 Cs X ρ s → wpAny c.M A (execs ss env) (SPost c sc env V0 h0 Cs X s P) (fun _ _ => False) s

/-- the statement goes on, with the store ρ₂ -/
noncomputable abbrev Sn (c : Cx) (n : Nat) (sc : Scope) (ρ : Sto) (st : Stmt) (ρ₂ : Sto) : Prop := Sx c n sc ρ st fun af ρ' => af = .next ∧ ρ' = ρ₂

theorem SPost.mono {c sc env V0 h0 Cs X s P P' f s'} (h : SPost c sc env V0 h0 Cs X s P f s') (hp : ∀ af ρ', P af ρ' → P' af ρ') : SPost c sc env V0 h0 Cs X s P' f s' :=
  let ⟨X', ρ', af, a, b, d, e⟩ := h; ⟨X', ρ', af, a, b, d, hp _ _ e⟩
theorem SPost.stp {c sc env V0 h0 Cs X X₁ s s₁ P f s'} (h : SPost c sc env V0 h0 Cs X₁ s₁ P f s') (g : Stp X s X₁ s₁) : SPost c sc env V0 h0 Cs X s P f s' :=
  let ⟨X', ρ', af, a, b, d, e⟩ := h; ⟨X', ρ', af, g.trans a, b, d, e⟩

section
variable {c : Cx} {n : Nat} {sc : Scope} {ρ : Sto} {P P' : AF → Sto → Prop}

theorem Sx.mono {st : Stmt} (h : Sx c n sc ρ st P) (hp : ∀ af ρ', P af ρ' → P' af ρ') : Sx c n sc ρ st P' := .mk fun A env V0 h0 Cs X s hA hO F =>
  wpAny_mono (h.run A env V0 h0 Cs X s hA hO F) (fun _ _ q => q.mono hp) fun _ _ q => q
theorem Tr.mono {ss : List Stmt} (h : Tr c n sc ρ ss P) (hp : ∀ af ρ', P af ρ' → P' af ρ') : Tr c n sc ρ ss P' := .mk fun A env V0 h0 Cs X s hA hO F =>
  wpAny_mono (h.run A env V0 h0 Cs X s hA hO F) (fun _ _ q => q.mono hp) fun _ _ q => q

theorem Tr.nil (h : P .next ρ) : Tr c n sc ρ [] P := .mk fun A env V0 h0 Cs X s _ _ F =>
  wpAny_execs_nil ⟨X, ρ, .next, .refl X s, F, .next, h⟩
theorem Tr.cons {st : Stmt} {rest : List Stmt} {P₁ : AF → Sto → Prop} (h : Sx c n sc ρ st P₁) (hn : ∀ ρ', P₁ .next ρ' → Tr c n sc ρ' rest P) (ho : ∀ af ρ', af ≠ .next → P₁ af ρ' → P af ρ') :
    Tr c n sc ρ (st :: rest) P := .mk fun A env V0 h0 Cs X s hA hO F => wpAny_execs_cons (wpAny_mono (h.run A env V0 h0 Cs X s hA hO F) (fun f s' q => by
    obtain ⟨X', ρ', af, a, b, d, e⟩ := q
    cases d with
    | next => exact wpAny_mono ((hn _ e).run A env V0 h0 Cs X' s' hA hO b) (fun _ _ q => q.stp a) fun _ _ q => q
    | brk => exact ⟨X', ρ', _, a, b, .brk, ho _ _ (by intro q; cases q) e⟩
    | cont => exact ⟨X', ρ', _, a, b, .cont, ho _ _ (by intro q; cases q) e⟩
    | ret r => exact ⟨X', ρ', _, a, b, .ret r, ho _ _ (by intro q; cases q) e⟩) fun _ _ q => q)
theorem Tr.step {st : Stmt} {rest : List Stmt} {ρ₂ : Sto} (h : Sn c n sc ρ st ρ₂) (hr : Tr c n sc ρ₂ rest P) : Tr c n sc ρ (st :: rest) P :=
  Tr.cons h (fun _ q => q.2 ▸ hr) fun _ _ h q => absurd q.1 h
theorem Tr.last {st : Stmt} (h : Sx c n sc ρ st P) : Tr c n sc ρ [st] P := Tr.cons h (fun _ q => .nil q) fun _ _ _ q => q

/-- what a name may hold -/
theorem RepS.ofRep {V : Addr → Prop} {X : List Addr} {s : Shared} {d : D} {v : Value} (r : Rep c (VK true V X) s d v) : RepS c (Vol V (X ++ [])) s (.val d) v [] :=
  .val (r.weak fun a q => ⟨rfl, by simpa using q⟩)

theorem Sx.assign {x : String} {e : Expr} {p pos : Pos} {d : D} (h : Ev c n sc true ρ e d) (hk : CanStore sc x)
    (hs : ∀ env : Env, env.scope = sc → swapsWith e (some (.Name (Str.ofString x) p)) pos.line env = pure false := by intro _ _; rfl) : Sn c n sc ρ (.Assign [.Name (Str.ofString x) p] e pos) (setS ρ x (.val d)) :=
  .mk fun A env V0 h0 Cs X s hA hO F => wpAny_Assign_Name (wpAny_mono (h.run A env V0 h0 Cs X s hA F) (fun v s₁ q =>
    wpAny_mono (F.store q.1 (hO.own _) hk (RepS.ofRep q.2) .nil fun _ ha => nomatch ha) (fun _ s' q => let ⟨X', a, b⟩ := q; ⟨X', _, .next, a, b, .next, rfl, rfl⟩) fun _ _ q => q) fun _ _ q => q) (hs env F.scope)

/-- e has a fresh value that may be owned -/
structure EvS (c : Cx) (n : Nat) (sc : Scope) (ρ : Sto) (e : Expr) (sl : Slot) : Prop where
  run : ∀ A env V0 h0 Cs X s, Room c n A → Fm c sc env V0 h0 Cs X ρ s →
    wpAny c.M A (eval e env) (fun v s' => Gr s s' ∧ ∃ fp, RepS c (Vol V0 (X ++ fp)) s' sl v fp ∧ fp.Nodup ∧ ∀ a ∈ fp, s.heap.get? a = none) (fun _ _ => False) s
theorem EvS.val {e : Expr} {d : D} (h : Ev c n sc true ρ e d) : EvS c n sc ρ e (.val d) := .mk fun A env V0 h0 Cs X s hA F =>
  wpAny_mono (h.run A env V0 h0 Cs X s hA F) (fun _ _ q => ⟨q.1, [], RepS.ofRep q.2, .nil, fun _ ha => nomatch ha⟩) fun _ _ q => q
theorem Sx.assignS {x : String} {e : Expr} {p pos : Pos} {sl : Slot} (h : EvS c n sc ρ e sl) (hk : CanStore sc x)
    (hs : ∀ env : Env, env.scope = sc → swapsWith e (some (.Name (Str.ofString x) p)) pos.line env = pure false := by intro _ _; rfl) : Sn c n sc ρ (.Assign [.Name (Str.ofString x) p] e pos) (setS ρ x sl) :=
  .mk fun A env V0 h0 Cs X s hA hO F => wpAny_Assign_Name (wpAny_mono (h.run A env V0 h0 Cs X s hA F) (fun v s₁ q =>
    let ⟨g, fp, r, hn, hf⟩ := q
    wpAny_mono (F.store g (hO.own _) hk r hn hf) (fun _ s' q => let ⟨X', a, b⟩ := q; ⟨X', _, .next, a, b, .next, rfl, rfl⟩) fun _ _ q => q) fun _ _ q => q) (hs env F.scope)

theorem Sx.ite {t : Expr} {body orelse : List Stmt} {pos : Pos} {b : Bool} (h : Tst c n sc ρ t b) (ht : b = true → Tr c n sc ρ body P) (hf : b = false → Tr c n sc ρ orelse P) : Sx c n sc ρ (.If t body orelse pos) P :=
  .mk fun A env V0 h0 Cs X s hA hO F => wpAny_If (wpAny_mono (h.run A env V0 h0 Cs X s hA F) (fun r s' q => by
    obtain ⟨g, rfl⟩ := q
    cases r with
    | true => exact wpAny_mono ((ht rfl).run A env V0 h0 Cs X s' hA hO (F.gr g)) (fun _ _ q => q.stp (.of_gr g)) fun _ _ q => q
    | false => exact wpAny_mono ((hf rfl).run A env V0 h0 Cs X s' hA hO (F.gr g)) (fun _ _ q => q.stp (.of_gr g)) fun _ _ q => q) fun _ _ q => q)

theorem Sx.ret {e : Expr} {pos : Pos} {d : D} (h : Ev c n sc true ρ e d) (hp : P (.ret d) ρ) : Sx c n sc ρ (.Return (some e) pos) P := .mk fun A env V0 h0 Cs X s hA hO F =>
  wpAny_Return_some (wpAny_mono (h.run A env V0 h0 Cs X s hA F) (fun v s' q => ⟨X, ρ, .ret d, .of_gr q.1, F.gr q.1, .ret (q.2.weak fun _ q => ⟨rfl, q⟩), hp⟩) fun _ _ q => q)
theorem Sx.try {body : List Stmt} {hd : ExceptHandler} {hs : List ExceptHandler} {pos : Pos} (h : Tr c n sc ρ body P) : Sx c n sc ρ (.Try body (hd :: hs) [] [] pos) P := .mk fun A env V0 h0 Cs X s hA hO F => by
  refine wpAny_Try_except (wpAny_mono (h.run A env V0 h0 Cs X s hA hO F) (fun f s' q => ?_) fun _ _ q => q.elim)
  cases f with
  | next => exact wpAny_execs_nil q
  | brk => exact q
  | cont => exact q
  | ret v => exact q

/-- storing into a target -/
structure TgtG (w : Bool) (c : Cx) (sc : Scope) (tgt : Expr) (d : D) (ρ ρ' : Sto) : Prop where
  run : ∀ A env V0 h0 Cs X s v, Room c 0 A → (w = true → Own sc Cs) → Fm c sc env V0 h0 Cs X ρ s → Rep c (Vol V0 X) s d v →
    wpAny c.M A (assign tgt env v) (fun _ s' => ∃ X', Stp X s X' s' ∧ Fm c sc env V0 h0 Cs X' ρ' s') (fun _ _ => False) s
noncomputable abbrev TgtR (c : Cx) (sc : Scope) (tgt : Expr) (d : D) (ρ ρ' : Sto) : Prop := TgtG true c sc tgt d ρ ρ'
theorem TgtG.name {w : Bool} {x : String} {p : Pos} {d : D} (hk : sc.names.lookup (Str.ofString x) = some .local ∨ (w = true ∧ sc.names.lookup (Str.ofString x) = some .cell)) : TgtG w c sc (.Name (Str.ofString x) p) d ρ (setS ρ x (.val d)) := .mk fun A env V0 h0 Cs X s v hA hO F r =>
  wpAny_assign_Name (F.store (.refl s) (fun q => hk.elim (fun q' => by rw [q] at q'; cases q') fun q' => hO q'.1 _ q) (hk.imp id And.right) (RepS.ofRep (r.weak fun _ q => q.2)) .nil fun _ ha => nomatch ha)

theorem RepL.stp {V0 : Addr → Prop} {X X' : List Addr} {s s' : Shared} {d : List D} {v : List Value} (r : RepL c (Vol V0 X) s d v) (g : Stp X s X' s') : RepL c (Vol V0 X') s' d v := by
  have r2 : RepL c (fun a => Vol V0 X a ∨ (a ∈ X' ∧ s.heap.get? a = none)) s d v := r.ext fun a q => q.2
  refine r2.calm ⟨g.tok, fun b o nb e _ => g.keep b o (fun q => nb (.inl (.inr q))) e⟩ fun a q => ?_
  rcases q with q | q
  · exact .inl (.inl q)
  · rcases g.new a q with q' | q'
    · exact .inl (.inr q')
    · exact .inr ⟨q, q'⟩

end

inductive TgtsR (w : Bool) (c : Cx) (sc : Scope) : List Expr → List D → Sto → Sto → Prop
  | nil {ρ} : TgtsR w c sc [] [] ρ ρ
  | cons {t d ts ds ρ ρ₁ ρ₂} : plainE t = true → TgtG w c sc t d ρ ρ₁ → TgtsR w c sc ts ds ρ₁ ρ₂ → TgtsR w c sc (t :: ts) (d :: ds) ρ ρ₂

section
variable {c : Cx} {n : Nat} {sc : Scope} {ρ : Sto} {P P' : AF → Sto → Prop}

theorem TgtsR.length {w ts ds ρ ρ'} (h : TgtsR w c sc ts ds ρ ρ') (env : Env) : (assignEach ts env).length = ds.length ∧ (assignEach ts env).findIdx? (·.1) = none := by
  induction h with
  | nil => exact ⟨rfl, rfl⟩
  | cons hp _ _ ih =>
    rw [assignEach_cons hp]
    refine ⟨by simp [ih.1], ?_⟩
    rw [List.findIdx?_cons]
    simp [ih.2]

theorem TgtsR.wp {w ts ds ρ ρ'} (h : TgtsR w c sc ts ds ρ ρ') : ∀ {A env V0 h0 Cs X s vs}, Room c 0 A → (w = true → Own sc Cs) → Fm c sc env V0 h0 Cs X ρ s → RepL c (Vol V0 X) s ds vs →
    wpAny c.M A (assignInOrder ((assignEach ts env).map (·.2)) vs) (fun _ s' => ∃ X', Stp X s X' s' ∧ Fm c sc env V0 h0 Cs X' ρ' s') (fun _ _ => False) s := by
  induction h with
  | nil =>
    intro A env V0 h0 Cs X s vs hA hO F r
    exact wpAny_pure ⟨X, .refl X s, F⟩
  | cons hp ht _ ih =>
    intro A env V0 h0 Cs X s vs hA hO F r
    cases r with
    | cons r rs =>
      rw [assignEach_cons hp]
      refine wpAny_bind (wpAny_holding (wpAny_mono (ht.run A env V0 h0 Cs X s _ hA hO F r) (fun _ s' q => ?_) fun _ _ q => q))
      obtain ⟨X', g, F'⟩ := q
      exact wpAny_mono (ih hA hO F' (rs.stp g)) (fun _ s'' q => let ⟨X'', g', F''⟩ := q; ⟨X'', g.trans g', F''⟩) fun _ _ q => q

theorem Gr.ext {s : Shared} {h' : Heap} (h : Heap.ExtBut s.heap.objs.size s.heap h') : Gr s { s with heap := h' } :=
  ⟨fun b o e => h b o (Nat.ne_of_lt (Heap.lt_size e)) e, Nat.le_refl _, rfl, rfl⟩

theorem TgtG.tuple {w : Bool} {ts : List Expr} {k : Nat} {p : Pos} {ds : List D} {ρ' : Sto} (h : TgtsR w c sc ts ds ρ ρ') (hn : c.hn := by assumption) : TgtG w c sc (.Tuple ts k p) (.tuple ds) ρ ρ' := .mk fun A env V0 h0 Cs X s v hA hO F r => by
  replace r := r.inv
  obtain ⟨a, o, vs, nn, rfl, na, ho, hcl, hd, hdt, r⟩ := r
  have hl := h.length env
  refine wpAny_assign_Tuple (items := vs) (hA.handled hn) ⟨o, ho, hcl, _, hdt⟩ (by rw [hl.1, r.length]; simp) hl.2 fun h' he => ?_
  have g := Gr.ext he
  exact wpAny_mono (h.wp hA hO (F.gr g) (r.gr g)) (fun _ s'' q => let ⟨X'', g', F''⟩ := q; ⟨X'', (Stp.of_gr g).trans g', F''⟩) fun _ _ q => q

/-- the frame when an iterator is looked at -/
theorem Fm.it {env V0 h0 Cs X s it ds s' V} (F : Fm c sc env V0 h0 Cs X ρ s) (hi : ItAt c V s it ds) (hX : it ∉ X) (hn : h0.get? it = none) (hv : ¬ V0 it) (t : ItStep it s s') : Fm c sc env V0 h0 Cs X ρ s' := by
  have hcm := fun W => t.calm hi W
  obtain ⟨oi, fs, T, hi1, hi2, _, _, _⟩ := hi.fields
  have hne : ∀ b ∈ X, b ≠ it := fun b hb q => hX (q ▸ hb)
  obtain ⟨m, fps, h1, h2, h3, h4, h6, h5⟩ := F.sto
  have hLX : env.locals ∈ X := h2 ▸ .head _
  exact ⟨F.good, F.scope, F.kind, F.globals, F.builtins, F.base, fun b o e => t.keep b o (fun q => by rw [q, hn] at e; cases e) (F.keep b o e), fun e => F.tok (Nat.le_zero.mp (e ▸ t.tok)), (fun a q => ⟨let ⟨o, e⟩ := (F.live0 a q).1; ⟨o, t.keep a o (fun q' => hv (q' ▸ q)) e⟩, (F.live0 a q).2⟩), F.ccells, F.new, F.cells, F.cinj,
    m, fps, h1.extBut t.keep (hne _ hLX), h2, h3, fun a ha => let ⟨o, e⟩ := h4 a ha; ⟨o, t.keep a o (hne a ha) e⟩,
    fun p hp => let ⟨v, o, e, d⟩ := h6 p hp; ⟨v, o, t.keep _ o (fun q => by rw [q, hi1] at e; cases e; rw [d] at hi2; cases hi2) e, d⟩,
    h5.change (hcm _) (fun a ha o e => t.keep a o (hne a (h2 ▸ .tail _ (List.mem_append_right _ ha))) e) (fun _ _ _ => rfl)
      fun p _ a o w _ e hw => t.keep a o (fun q => by rw [q, hi1] at e; cases e; rw [hw] at hi2; cases hi2) e⟩

theorem ItAt.stp {V0 : Addr → Prop} {X X' : List Addr} {s s' : Shared} {it : Addr} {ds : List D} (h : ItAt c (Vol V0 X) s it ds) (hX : it ∉ X) (g : Stp X s X' s') : ItAt c (Vol V0 X') s' it ds := by
  have hk : ∀ o, s.heap.get? it = some o → s'.heap.get? it = some o := fun o e => g.keep it o hX e
  have hv : ∀ l o, ¬ Vol V0 X l → s.heap.get? l = some o → ¬ Vol V0 X' l := fun l o nl e q => by
    rcases q with q | q
    · exact nl (.inl q)
    · rcases g.new l q with q' | q'
      · exact nl (.inr q')
      · rw [q'] at e; cases e
  cases h with
  | list hi nl ho hc hd r => obtain ⟨o, h1, h2⟩ := hi; exact .list ⟨o, hk o h1, h2⟩ (hv _ _ nl ho) (g.keep _ _ (fun q => nl (.inr q)) ho) hc hd (r.stp g)
  | tuple hi nl ho hc hd r => obtain ⟨o, h1, h2⟩ := hi; exact .tuple ⟨o, hk o h1, h2⟩ (hv _ _ nl ho) (g.keep _ _ (fun q => nl (.inr q)) ho) hc hd (r.stp g)
  | range hi => exact .range (hk _ hi)
  | ascii hi => obtain ⟨o, h1, h2⟩ := hi; exact .ascii ⟨o, hk o h1, h2⟩
  | wide hi => obtain ⟨o, h1, h2⟩ := hi; exact .wide ⟨o, hk o h1, h2⟩

theorem lotg {A : Around} {E : Value → Shared → Prop} {V s it ds tgt v} (h : ItAt c V s it ds) {Q : Unit → Shared → Prop} (hq : Q () s) : wpAny c.M A (letOwnedTupleGo tgt (.ref it) v) Q E s := by
  obtain ⟨o, vs, T, h1, h2, h3, _, h5⟩ := h.fields
  have key : ∀ a : Addr, wpAny c.M A (do
      let o ← load it
      match o.cls, o.data with
      | .type n, .fields vs =>
        if ["enumerate", "zip", "dict_itemiterator", "dict_reverseitemiterator", "odict_iterator", "itertools.zip_longest", "itertools.pairwise"].contains n && vs[0]? == some (rawInt a) then
          rule "for.unpacks-the-owned-tuple"
          updateField it 0 .none
      | _, _ => pure ()) Q E s := fun a => by
    refine wpAny_bind (wpAny_load h1 ?_)
    rw [h3, h2]
    dsimp only
    rw [h5]
    exact wpAny_pure hq
  unfold letOwnedTupleGo
  split
  · cases v <;> first | exact key _ | exact wpAny_pure hq
  · cases v <;> first | exact key _ | exact wpAny_pure hq
  · exact wpAny_pure hq

end
end Mine
namespace Mine

noncomputable abbrev NoE : Value → Shared → Prop := fun _ _ => False

theorem code_for {c : Cx} {A : Around} {s : Shared} {R : Result → Shared → Prop} {target : Expr} {it : Value} {body orelse : List Stmt} {env : Env} (I : Nat → Shared → Prop)
    (turn : ∀ n s, I n s → wpAny c.M A (pyNext it) (fun r s₁ => match r with
      | none => wpAny c.M A (execs orelse env) (fun f s₃ => R (.ok f) s₃) NoE s₁
      | some v => wpAny c.M A (letOwnedTupleGo target it v) (fun _ s₁' => wpAny c.M A (assign target env v) (fun _ s₂ => wpAny c.M A (execs body env) (fun f s₃ => match f with
          | .next | .cont => ∃ m, m < n ∧ I m s₃
          | .brk => R (.ok .next) s₃
          | .ret v => R (.ok (.ret v)) s₃) NoE s₂) NoE s₁') NoE s₁) NoE s)
    (n : Nat) (h : I n s) : codeAny c.M A (.forLoop target it body orelse env) R s := by
  refine codeAny_loop' rfl I (fun n s hI => ?_) n h
  show wpAny _ _ ((forTurn target it body orelse env).onRaise (fun x => do noteFrame x env; theTreesLotGoes x)) _ _ s
  refine wpAny_noted ?_
  simp only [forTurn]
  refine wpAny_bind (wpAny_standAt (wpAny_bind (wpAny_onRaise (wpAny_mono (turn n s hI) (fun r s₁ h₁ => ?_) fun _ _ h' => h'.elim))))
  cases r with
  | none => exact wpAny_pure (.inr ⟨rfl, codeAny_block (wpAny_mono h₁ (fun _ _ q => q) fun _ _ q => q.elim)⟩)
  | some v =>
    refine wpAny_bind (wpAny_mono h₁ (fun _ s₁' h₁' => ?_) fun _ _ q => q.elim)
    refine wpAny_bind (wpAny_mono h₁' (fun _ s₂ h₂ => wpAny_bind (wpAny_mono h₂ (fun f s₃ h₃ => ?_) fun _ _ h' => h'.elim)) fun _ _ h' => h'.elim)
    cases f with
    | next => exact wpAny_pure (.inl ⟨rfl, h₃⟩)
    | cont => exact wpAny_pure (.inl ⟨rfl, h₃⟩)
    | brk => exact wpAny_pure h₃
    | ret v => exact wpAny_pure h₃

section
variable {c : Cx} {n : Nat} {sc : Scope} {ρ : Sto} {P P' : AF → Sto → Prop}

theorem Stp.it {X X' : List Addr} {s s' s₂ : Shared} {it : Addr} (a : Stp X s X' s') (hn : s.heap.get? it = none) (t : ItStep it s' s₂) : Stp X s X' s₂ :=
  have ne : ∀ b o, s.heap.get? b = some o → b ≠ it := fun b o e q => by rw [q, hn] at e; cases e
  ⟨fun b o hb e => t.keep b o (ne b o e) (a.keep b o hb e), Nat.le_trans a.tok t.tok, t.gens.trans a.gens, t.os.trans a.os, a.new,
   fun b hb o e => let ⟨o', e'⟩ := a.live b hb o e; ⟨o', t.keep b o' (ne b o e) e'⟩⟩

/-- what a turn must come to -/
noncomputable def Turn (I : Sto → Prop) (P : AF → Sto → Prop) : AF → Sto → Prop
  | .next, ρ => I ρ
  | .cont, ρ => I ρ
  | .brk, ρ => P .next ρ
  | .ret d, ρ => P (.ret d) ρ

/-- how far a for has come -/
inductive ForI (c : Cx) (sc : Scope) (env : Env) (V0 : Addr → Prop) (h0 : Heap) (Cs : List (Str × Addr)) (X : List Addr) (s : Shared) (it : Addr) (I : List D → Sto → Prop) (ds : List D) (k : Nat) (s' : Shared) : Prop
  | mk (done rest : List D) (X' : List Addr) (ρ' : Sto) (hds : ds = done ++ rest) (hk : k = rest.length) (hI : I done ρ') (hst : Stp X s X' s') (F : Fm c sc env V0 h0 Cs X' ρ' s') (hi : ItAt c (Vol V0 X') s' it rest) (hX : it ∉ X') : ForI c sc env V0 h0 Cs X s it I ds k s'
theorem Sx.for {tgt e : Expr} {body : List Stmt} {pos : Pos} {d₀ : D} {ds : List D} (I : List D → Sto → Prop) (he : Ev c n sc true ρ e d₀) (hit : IterR c d₀ ds) (hI : I [] ρ)
    (turn : ∀ done d rest ρ', ds = done ++ d :: rest → I done ρ' → ∃ ρ₁, TgtR c sc tgt d ρ' ρ₁ ∧ Tr c n sc ρ₁ body (Turn (I (done ++ [d])) P))
    (fin : ∀ ρ', I ds ρ' → P .next ρ') (hs : ∀ (env : Env) x, foldedSetIterable e env x = pure x := by intro _ _; rfl) (hn : c.hn := by assumption) : Sx c n sc ρ (.For tgt e body [] pos) P := .mk fun A env V0 h0 Cs X s hA hO F => by
  refine wpAny_For (wpAny_mono (he.run A env V0 h0 Cs X s hA F) (fun v₀ s₀ q₀ => ?_) fun _ _ q => q) (hs env)
  refine wpAny_mono (hit A _ s₀ v₀ hA.zero ((F.st true).gr q₀.1) q₀.2) (fun itv s₁ q₁ => ?_) fun _ _ q => q
  refine hideG fun G KG => ?_
  obtain ⟨g₁, it, rfl, hnew, hi⟩ := q₁
  have hnX : ∀ a ∈ X, a ≠ it := fun a ha q => by
    obtain ⟨_, _, _, _, _, h4, _, _⟩ := (F.gr q₀.1).sto
    obtain ⟨o, e⟩ := h4 a ha
    rw [q, hnew] at e; cases e
  have hn0 : h0.get? it = none := by
    cases e : h0.get? it with
    | none => rfl
    | some o => have := (F.gr q₀.1).keep _ _ e; rw [hnew] at this; cases this
  have hv0 : ¬ V0 it := fun q => by
    obtain ⟨⟨o, e⟩, _⟩ := (F.gr q₀.1).live0 it q
    rw [hnew] at e; cases e
  have hns : s.heap.get? it = none := by
    cases e : s.heap.get? it with
    | none => rfl
    | some o => have := q₀.1.keep _ _ e; rw [hnew] at this; cases this
  refine KG (codeAny_mono (R := fun r s' => match r with | .ok f => SPost c sc env V0 h0 Cs X s P f s' | .error _ => False) ?_ (fun r s' q => by cases r with | ok f => exact q | error e => exact q.elim))
  refine code_for (ForI c sc env V0 h0 Cs X s it I ds) ?_ ds.length ?_
  · intro k s' J
    refine hideG fun G KG => ?_
    obtain ⟨done, rest, X', ρ', hds, hk, hI', hst, F', hi', hX'⟩ := J
    cases rest with
    | nil =>
      refine KG (wpAny_mono (ItAt.stop (hA.handled hn) hi') (fun r s₂ q => ?_) fun _ _ q => q)
      rw [q.1]
      exact wpAny_execs_nil ⟨X', ρ', .next, hst.it hns q.2, F'.it hi' hX' hn0 hv0 q.2, .next, fin _ (by rw [hds, List.append_nil]; exact hI')⟩
    | cons d rest =>
      refine KG (wpAny_mono (ItAt.next hi') (fun r s₂ q => ?_) fun _ _ q => q)
      refine hideG fun G KG => ?_
      obtain ⟨v, rfl, rv, hi₂, t⟩ := q
      have F₂ := F'.it hi' hX' hn0 hv0 t
      obtain ⟨ρ₁, htg, hbody⟩ := turn done d rest ρ' hds hI'
      refine KG (lotg hi₂ (wpAny_mono (htg.run A env V0 h0 Cs X' s₂ v hA.zero (fun _ => hO.own) F₂ rv) (fun _ s₃ q => ?_) fun _ _ q => q))
      refine hideG fun G KG => ?_
      obtain ⟨X₃, g₃, F₃⟩ := q
      have alive : ∃ o, s₂.heap.get? it = some o := let ⟨o, _, _, e, _⟩ := hi₂.fields; ⟨o, e⟩
      have hX₃ : it ∉ X₃ := fun q => (g₃.new it q).elim hX' fun q => by obtain ⟨o, e⟩ := alive; rw [q] at e; cases e
      have hi₃ := hi₂.stp hX' g₃
      refine KG (wpAny_mono (hbody.run A env V0 h0 Cs X₃ s₃ hA hO F₃) (fun f s₄ q => ?_) fun _ _ q => q)
      refine hideG fun G KG => ?_
      obtain ⟨X₄, ρ₄, af, g₄, F₄, hf, hp⟩ := q
      have hX₄ : it ∉ X₄ := fun q => (g₄.new it q).elim hX₃ fun q => by obtain ⟨o, _, _, e, _⟩ := hi₃.fields; rw [q] at e; cases e
      have hall := ((hst.it hns t).trans g₃).trans g₄
      have nx : I (done ++ [d]) ρ₄ → ∃ m, m < k ∧ ForI c sc env V0 h0 Cs X s it I ds m s₄ := fun hp => ⟨_, hk ▸ Nat.lt_succ_self _, done ++ [d], rest, X₄, ρ₄, by rw [hds, List.append_assoc]; rfl, rfl, hp, hall, F₄, hi₃.stp hX₃ g₄, hX₄⟩
      cases hf with
      | next => exact KG (nx hp)
      | cont => exact KG (nx hp)
      | brk => exact KG ⟨X₄, ρ₄, .next, hall, F₄, .next, hp⟩
      | ret r => exact KG ⟨X₄, ρ₄, _, hall, F₄, .ret r, hp⟩
  · have gg := q₀.1.trans g₁
    refine ⟨[], ds, X, ρ, rfl, rfl, hI, .of_gr gg, F.gr gg, ?_, fun q => hnX _ q rfl⟩
    have : VK true V0 X = Vol V0 X := by funext a; simp [VK]
    rw [this] at hi; exact hi

/-- how far a while has come -/
inductive WhI (c : Cx) (sc : Scope) (env : Env) (V0 : Addr → Prop) (h0 : Heap) (Cs : List (Str × Addr)) (X : List Addr) (s : Shared) (I : Nat → Sto → Prop) (k : Nat) (s' : Shared) : Prop
  | mk (X' : List Addr) (ρ' : Sto) (hI : I k ρ') (hst : Stp X s X' s') (F : Fm c sc env V0 h0 Cs X' ρ' s') : WhI c sc env V0 h0 Cs X s I k s'
theorem Sx.while {t : Expr} {body : List Stmt} {pos : Pos} (I : Nat → Sto → Prop) (k : Nat) (hI : I k ρ)
    (turn : ∀ k ρ', I k ρ' → ∃ b, Tst c n sc ρ' t b ∧ (b = true → Tr c n sc ρ' body (Turn (fun ρ₂ => ∃ m, m < k ∧ I m ρ₂) P)) ∧ (b = false → P .next ρ')) : Sx c n sc ρ (.While t body [] pos) P := .mk fun A env V0 h0 Cs X s hA hO F => by
  refine wpAny_While ?_
  refine codeAny_mono (R := fun r s' => match r with | .ok f => SPost c sc env V0 h0 Cs X s P f s' | .error _ => False) ?_ (fun r s' q => by cases r with | ok f => exact q | error e => exact q.elim)
  refine codeAny_whileLoop (WhI c sc env V0 h0 Cs X s I) ?_ k ⟨X, ρ, hI, .refl X s, F⟩
  intro k s' J
  refine hideG fun G KG => ?_
  obtain ⟨X', ρ', hI', hst, F'⟩ := J
  obtain ⟨b, ht, h1, h2⟩ := turn k ρ' hI'
  refine KG (wpAny_mono (ht.run A env V0 h0 Cs X' s' hA F') (fun r s₂ q => ?_) fun _ _ q => q.elim)
  cases r with
  | false =>
    rw [if_neg Bool.false_ne_true]
    exact wpAny_execs_nil ⟨X', ρ', .next, hst.trans (.of_gr q.1), F'.gr q.1, .next, h2 q.2.symm⟩
  | true =>
    rw [if_pos rfl]
    refine wpAny_mono ((h1 q.2.symm).run A env V0 h0 Cs X' s₂ hA hO (F'.gr q.1)) (fun f s₃ q₃ => ?_) fun _ _ q => q.elim
    refine hideG fun G KG => ?_
    obtain ⟨X₃, ρ₃, af, g₃, F₃, hf, hp⟩ := q₃
    have hall := (hst.trans (.of_gr q.1)).trans g₃
    have nx : (∃ m, m < k ∧ I m ρ₃) → ∃ m, m < k ∧ WhI c sc env V0 h0 Cs X s I m s₃ := fun ⟨m, hm, hp⟩ => ⟨m, hm, X₃, ρ₃, hp, hall, F₃⟩
    cases hf with
    | next => exact KG (nx hp)
    | cont => exact KG (nx hp)
    | brk => exact KG ⟨X₃, ρ₃, .next, hall, F₃, .next, hp⟩
    | ret r => exact KG ⟨X₃, ρ₃, _, hall, F₃, .ret r, hp⟩

end
end Mine
namespace Mine

section
variable {c : Cx} {n : Nat} {sc : Scope} {ρ ρ' : Sto} {P P' : AF → Sto → Prop}

/-- one store may be taken for another -/
noncomputable def Ent (c : Cx) (sc : Scope) (ρ ρ' : Sto) : Prop := ∀ env V0 h0 Cs X s, Fm c sc env V0 h0 Cs X ρ s → ∃ X', (∀ a ∈ X', a ∈ X) ∧ Fm c sc env V0 h0 Cs X' ρ' s
theorem Ent.refl (ρ : Sto) : Ent c sc ρ ρ := fun _ _ _ _ X _ F => ⟨X, fun _ h => h, F⟩
theorem Tr.ent {ss : List Stmt} (e : Ent c sc ρ ρ') (h : Tr c n sc ρ' ss P) : Tr c n sc ρ ss P := .mk fun A env V0 h0 Cs X s hA hO F =>
  let ⟨X', h1, F'⟩ := e env V0 h0 Cs X s F
  wpAny_mono (h.run A env V0 h0 Cs X' s hA hO F') (fun f s' q => let ⟨X₂, ρ₂, af, a, b, d, p⟩ := q; ⟨X₂, ρ₂, af, a.sub h1, b, d, p⟩) fun _ _ q => q
/-- taking an entry out -/
theorem StoR.take {env : Env} {V : Addr → Prop} {s : Shared} {m : Str → Option Value} {x : String} {sl : Slot} : ∀ {ρ fps}, StoR c env V s m ρ fps → ρ.lookup x = some sl →
    ∃ v fp fps' rest, Loc env s m x v ∧ RepS c V s sl v fp ∧ StoR c env V s m (delS x ρ) fps' ∧ (rest ++ (fp ++ fps')).Perm fps
  | _, _, .nil, e => by cases e
  | _, _, .cons (x := y) (v := v) (fp := fp) l r rs, e => by
    rw [List.lookup_cons] at e
    unfold delS
    by_cases hy : x = y
    · subst hy
      simp only [beq_self_eq_true] at e
      cases e
      rw [if_pos rfl]
      obtain ⟨fps', rest, h1, h2⟩ := rs.del x
      refine ⟨v, fp, fps', rest, l, r, h1, ?_⟩
      rw [← List.append_assoc]
      refine (List.Perm.append_right _ List.perm_append_comm).trans ?_
      rw [List.append_assoc]; exact h2.append_left fp
    · have : (x == y) = false := by simpa using hy
      rw [this] at e
      rw [if_neg fun q => hy q.symm]
      obtain ⟨v', fp', fps', rest, h1, h2, h3, h4⟩ := rs.take e
      refine ⟨v', fp', fp ++ fps', rest, h1, h2, .cons l r h3, ?_⟩
      have e1 : (rest ++ (fp' ++ (fp ++ fps'))).Perm (fp ++ (rest ++ (fp' ++ fps'))) := by
        refine ((List.perm_append_comm_assoc fp' fp fps').append_left rest).trans ?_
        exact List.perm_append_comm_assoc rest fp (fp' ++ fps')
      exact e1.trans (h4.append_left fp)

theorem delS_lookup {x y : String} (h : y ≠ x) : ∀ (ρ : Sto), (delS x ρ).lookup y = ρ.lookup y
  | [] => rfl
  | (z, sl) :: r => by
    unfold delS
    by_cases hz : z = x
    · rw [if_pos hz, delS_lookup h r, List.lookup_cons]
      have : (y == z) = false := by simpa using fun q : y = z => h (q.trans hz)
      rw [this]
    · rw [if_neg hz, List.lookup_cons, List.lookup_cons, delS_lookup h r]

theorem Fm.mk' {env V0 h0 Cs X s} (F : Fm c sc env V0 h0 Cs X ρ s) {X' : List Addr} {m : Str → Option Value} {fps : List Addr} (hns : s.heap.Ns env.locals m) (hX : X' = env.locals :: (Cs.map (·.2) ++ fps)) (hn : X'.Nodup)
    (hs : ∀ a ∈ X', a ∈ X) (r : StoR c env (Vol V0 X') s m ρ' fps) : Fm c sc env V0 h0 Cs X' ρ' s :=
  ⟨F.good, F.scope, F.kind, F.globals, F.builtins, F.base, F.keep, F.tok, fun a q => ⟨(F.live0 a q).1, fun hx => (F.live0 a q).2 (hs a hx)⟩, F.ccells, fun a ha => F.new a (hs a ha), F.cells, F.cinj,
   let ⟨m₀, fps₀, h1, h2, h3, h4, h6, h5⟩ := F.sto
   ⟨m, fps, hns, hX, hn, fun a ha => h4 a (hs a ha), h6, r⟩⟩

inductive SubS : Sto → Sto → Prop
  | nil {ρ₁ : Sto} : SubS [] ρ₁
  | cons {x : String} {sl : Slot} {r ρ₁ : Sto} : ρ₁.lookup x = some sl → SubS r (delS x ρ₁) → SubS ((x, sl) :: r) ρ₁

theorem StoR.sub {env : Env} {V : Addr → Prop} {s : Shared} {m : Str → Option Value} {ρ' : Sto} {ρ : Sto} (h : SubS ρ' ρ) : ∀ {fps}, StoR c env V s m ρ fps →
    ∃ fps' rest, StoR c env V s m ρ' fps' ∧ (rest ++ fps').Perm fps := by
  induction h with
  | nil => intro fps _; exact ⟨[], fps, .nil, by simp⟩
  | cons hl _ ih =>
    intro fps r
    obtain ⟨v, fp, fps', rest, h1, h2, h3, h4⟩ := r.take hl
    obtain ⟨fps'', rest', h5, h6⟩ := ih h3
    refine ⟨fp ++ fps'', rest ++ rest', .cons h1 h2 h5, ?_⟩
    refine List.Perm.trans ?_ h4
    rw [List.append_assoc]
    refine List.Perm.append_left rest ?_
    exact (List.perm_append_comm_assoc rest' fp fps'').trans (h6.append_left fp)

theorem Ent.sub (h : SubS ρ' ρ) : Ent c sc ρ ρ' := fun env V0 h0 Cs X s F => by
  obtain ⟨m, fps, h1, h2, h3, h4, h6, h5⟩ := F.sto
  obtain ⟨fps', rest, r, hp⟩ := h5.sub h
  have hsub : ∀ a ∈ env.locals :: (Cs.map (·.2) ++ fps'), a ∈ X := fun a ha => by
    rw [h2]
    rcases List.mem_cons.mp ha with q | q
    · exact q ▸ .head _
    · refine .tail _ ?_
      rcases List.mem_append.mp q with q | q
      · exact List.mem_append_left _ q
      · exact List.mem_append_right _ (hp.subset (List.mem_append_right _ q))
  refine ⟨_, hsub, F.mk' h1 rfl ?_ hsub (r.weak fun a q => q.imp id (hsub a))⟩
  have hx1 : (env.locals :: (Cs.map (·.2) ++ fps)).Nodup := h2 ▸ h3
  have hpm : (rest ++ (env.locals :: (Cs.map (·.2) ++ fps'))).Perm (env.locals :: (Cs.map (·.2) ++ fps)) := by
    refine List.perm_middle.trans (List.Perm.cons _ ?_)
    exact (List.perm_append_comm_assoc rest _ fps').trans (hp.append_left _)
  exact (List.nodup_append.mp (hpm.nodup_iff.mpr hx1)).2.1

/-- an owned list is no longer turned -/
theorem Ent.freeze {x : String} {sl : Slot} (h : ρ.lookup x = some sl) : Ent c sc ρ (setS ρ x (.val sl.d)) := fun env V0 h0 Cs X s F => by
  obtain ⟨m, fps, h1, h2, h3, h4, h6, h5⟩ := F.sto
  obtain ⟨v, fp, fps', rest, l, rx, r, hp⟩ := h5.take h
  have hx1 : (env.locals :: (Cs.map (·.2) ++ fps)).Nodup := h2 ▸ h3
  have hpm : ((rest ++ fp) ++ (env.locals :: (Cs.map (·.2) ++ fps'))).Perm (env.locals :: (Cs.map (·.2) ++ fps)) := by
    refine List.perm_middle.trans (List.Perm.cons _ ?_)
    refine (List.perm_append_comm_assoc (rest ++ fp) _ fps').trans (List.Perm.append_left _ ?_)
    rw [List.append_assoc]; exact hp
  have hnd := List.nodup_append.mp (hpm.nodup_iff.mpr hx1)
  have hsub : ∀ a ∈ env.locals :: (Cs.map (·.2) ++ fps'), a ∈ X := fun a ha => h2 ▸ hpm.subset (List.mem_append_right _ ha)
  have hfX : ∀ a ∈ fp, a ∈ X := fun a ha => h2 ▸ .tail _ (List.mem_append_right _ (hp.subset (List.mem_append_right _ (List.mem_append_left _ ha))))
  refine ⟨_, hsub, F.mk' h1 (fps := [] ++ fps') rfl hnd.2.1 hsub (.cons l (.val (rx.freeze (fun a q => q.imp id (hsub a)) fun a ha q => ?_)) (r.weak fun a q => q.imp id (hsub a)))⟩
  rcases q with q | q
  · exact (F.live0 a q).2 (hfX a ha)
  · exact hnd.2.2 a (List.mem_append_right _ ha) a q rfl

end
end Mine
namespace Mine

theorem bindL_other {kindOf : Str → Option NameKind} {x : Str} : ∀ (binds : List (Str × Value)) (m : Str → Option Value), (∀ p ∈ binds, p.1 ≠ x) → bindL kindOf binds m x = m x
  | [], _, _ => rfl
  | (y, v) :: r, m, h => by
    unfold bindL
    rw [bindL_other r _ fun p hp => h p (.tail _ hp)]
    split
    · exact if_neg fun q => h _ (.head _) q.symm
    · rfl
theorem bindC_other {kindOf : Str → Option NameKind} {x : Str} : ∀ (binds : List (Str × Value)) (m : Str → Option Value), (∀ p ∈ binds, p.1 ≠ x) → bindC kindOf binds m x = m x
  | [], _, _ => rfl
  | (y, v) :: r, m, h => by
    unfold bindC
    rw [bindC_other r _ fun p hp => h p (.tail _ hp)]
    split
    · rfl
    · exact if_neg fun q => h _ (.head _) q.symm
theorem bindL_at {kindOf : Str → Option NameKind} {x : Str} {v : Value} (hk : kindOf x = some .local) : ∀ (binds : List (Str × Value)) (m : Str → Option Value), (binds.map (·.1)).Nodup → (x, v) ∈ binds → bindL kindOf binds m x = some v
  | (y, w) :: r, m, hn, h => by
    unfold bindL
    rcases List.mem_cons.mp h with q | q
    · cases q
      rw [bindL_other r _ fun p hp q => (List.nodup_cons.mp hn).1 (List.mem_map.mpr ⟨p, hp, q⟩), if_pos hk]
      exact if_pos rfl
    · exact bindL_at hk r _ (List.nodup_cons.mp hn).2 q
theorem bindC_at {kindOf : Str → Option NameKind} {x : Str} {v : Value} (hk : kindOf x ≠ some .local) : ∀ (binds : List (Str × Value)) (m : Str → Option Value), (binds.map (·.1)).Nodup → (x, v) ∈ binds → bindC kindOf binds m x = some v
  | (y, w) :: r, m, hn, h => by
    unfold bindC
    rcases List.mem_cons.mp h with q | q
    · cases q
      rw [bindC_other r _ fun p hp q => (List.nodup_cons.mp hn).1 (List.mem_map.mpr ⟨p, hp, q⟩), if_neg hk]
      exact if_pos rfl
    · exact bindC_at hk r _ (List.nodup_cons.mp hn).2 q

noncomputable def bindsOf (ps : List String) (vs : List Value) : List (Str × Value) := (ps.map Str.ofString).zip vs
noncomputable def stoOf : List String → List D → Sto
  | p :: ps, d :: ds => (p, .val d) :: stoOf ps ds
  | _, _ => []

/-- what a def's scope is like -/
structure DefOk (sc : Scope) (ps : List String) : Prop where
  kinds : ∀ p ∈ ps, CanStore sc p
  nodup : ps.Nodup
  cnd : ((cellsFrom 0 sc.names []).map (·.1)).Nodup
  co : sc.isCoroutine = false
  gen : sc.isGenerator = false
  kind : sc.kind = .function
  nofree : ∀ x, sc.names.lookup x ≠ some .free
/-- a def in the base -/
inductive DefX (c : Cx) (a : Addr) (sc : Scope) (body : List Stmt) (bd : FuncData → Prop) : Prop
  | mk (o : Obj) (fd : FuncData) (ho : c.base.get? a = some o) (hdat : o.data = .func fd) (hbody : fd.body = .stmts body) (hsc : fd.scope = sc) (hclo : fd.closure = []) (hgl : fd.globals = mainGlobals) (hbl : fd.builtins = builtinsNs) (hcd : c.base.CodeRec fd.code fd.qualname) (hbind : bd fd) : DefX c a sc body bd
theorem DefX.to {c c' : Cx} {a : Addr} {sc : Scope} {body : List Stmt} {bd : FuncData → Prop} (h : DefX c a sc body bd) (hb : c'.base = c.base) : DefX c' a sc body bd :=
  let ⟨o, fd, h1, h2, h3, h4, h5, h6, h7, h8, h9⟩ := h; ⟨o, fd, hb ▸ h1, h2, h3, h4, h5, h6, h7, hb ▸ h8, h9⟩
/-- what is known of a def at the top -/
structure IsDefL (c : Cx) (a : Addr) (sc : Scope) (ps : List String) (body : List Stmt) : Prop extends DefOk sc ps where
  ex : DefX c a sc body fun fd => ∀ vs : List Value, vs.length = ps.length → bindArgs fd ⟨vs, []⟩ = pure (bindsOf ps vs)
structure IsDef (c : Cx) (a : Addr) (sc : Scope) (ps : List String) (body : List Stmt) : Prop extends IsDefL c a sc ps body where
  nl : ¬ c.lsc sc
/-- a def that binds vs when it is called with args -/
structure IsDefB (c : Cx) (a : Addr) (sc : Scope) (ps : List String) (body : List Stmt) (args : Args) (vs : List Value) : Prop extends DefOk sc ps where
  ex : DefX c a sc body fun fd => ∀ s : Shared, Keeps c.base s.heap → BindsTo s fd args (bindsOf ps vs)
theorem IsDefL.toB {c : Cx} {a : Addr} {sc : Scope} {ps : List String} {body : List Stmt} {vs : List Value} (h : IsDefL c a sc ps body) (hl : vs.length = ps.length) : IsDefB c a sc ps body ⟨vs, []⟩ vs :=
  ⟨h.toDefOk, let ⟨o, fd, h1, h2, h3, h4, h5, h6, h7, h8, h9⟩ := h.ex; ⟨o, fd, h1, h2, h3, h4, h5, h6, h7, h8, fun s _ => .of_eq (h9 vs hl)⟩⟩

theorem cellsFrom_shift : ∀ (names : List (Str × NameKind)) (n m : Nat) (acc acc' : List (Str × Addr)), acc.map (·.1) = acc'.map (·.1) → (cellsFrom n names acc).map (·.1) = (cellsFrom m names acc').map (·.1)
  | [], _, _, _, _, h => h
  | (x, k) :: r, n, m, acc, acc', h => by
    unfold cellsFrom
    split
    · exact cellsFrom_shift r _ _ _ _ (by simp [h])
    · exact cellsFrom_shift r _ _ _ _ h
theorem cellsFrom_has {x : Str} : ∀ (names : List (Str × NameKind)) (n : Nat) (acc : List (Str × Addr)), names.lookup x = some .cell → ((cellsFrom n names acc).lookup x).isSome = true := fun names n acc h =>
  cellsFrom_some names n acc (.inl h)
theorem lookup_inj {cs : List (Str × Addr)} (hp : cs.Pairwise fun x y => x.2 ≠ y.2) {x y : Str} {a : Addr} (hx : cs.lookup x = some a) (hy : cs.lookup y = some a) : x = y :=
  name_of_addr hp (mem_of_lookup hx) (mem_of_lookup hy)

theorem RepSL.length {c : Cx} {V : Addr → Prop} {s : Shared} {sl : List Slot} : ∀ {vs fp}, RepSL c V s sl vs fp → sl.length = vs.length := by
  induction sl with
  | nil => intro vs fp r; exact congrArg List.length r.inv.1.symm
  | cons _ sl ih => intro vs fp r; obtain ⟨v, vs', _, _, rfl, _, _, rs⟩ := r.inv; exact congrArg (· + 1) (ih rs)
theorem repSL_zip {c V s} {env : Env} {m : Str → Option Value} {ps : List String} : ∀ {sls : List Slot} {vs : List Value} {fp : List Addr}, RepSL c V s sls vs fp → ps.length = sls.length →
    (∀ p v, (Str.ofString p, v) ∈ bindsOf ps vs → p ∈ ps → Loc env s m p v) → StoR c env V s m (ps.zip sls) fp := by
  induction ps with
  | nil =>
    intro sls vs fp r hl _
    cases sls with
    | nil => rw [r.inv.2]; exact .nil
    | cons => cases hl
  | cons p ps ih =>
    intro sls vs fp r0 hl h
    cases sls with
    | nil => cases hl
    | cons sl sls =>
      obtain ⟨v, vs', _, _, rfl, rfl, r, rs⟩ := r0.inv
      exact .cons (h p _ (.head _) (.head _)) r (ih rs (Nat.succ.inj hl) fun q w hq hm => h q w (.tail _ hq) (.tail _ hm))
/-- a def is entered with slots -/
theorem fn_enterSC {c : Cx} {fp : List Addr} {n : Nat} {a : Addr} {sc : Scope} {ps : List String} {body : List Stmt} {sls : List Slot} {args : Args} {vs : List Value} (hd : IsDefB c a sc ps body args vs) (hl : ps.length = sls.length) {A : Around} {V : Addr → Prop} {s : Shared}
    {Q E : Value → Shared → Prop} (hA : Room c (n + 1) A) (hS : St c V s) (hfV : ∀ a ∈ fp, ¬ V a) (hfn : fp.Nodup) (hfb : ∀ a ∈ fp, c.base.get? a = none) (r : RepSL c (fun a => V a ∨ a ∈ fp) s sls vs fp)
    (h : ∀ env X s₁, env.frame = some env.locals → s.heap.get? env.locals = none → Gr s s₁ → Fm c sc env V (hideAll s.heap fp) env.cells X (ps.zip sls) s₁ → Own sc env.cells → (∀ a ∈ X, s.heap.get? a = none ∨ a ∈ fp) → (∀ a ∈ fp, a ∈ X) →
      wpAny c.M (A.deeper env) (execs body env) (fun f s' => s.toks ≤ s'.toks → Q (match f with | .ret v => v | _ => .none) s') (fun e s' => wpAny c.M (A.deeper env) (leaving env e) (fun _ s'' => s.toks ≤ s''.toks → E e s'') (fun e' s'' => s.toks ≤ s''.toks → E e' s'') s') s₁) :
    codeAny c.M A (.call (.ref a) args) (fun r s' => match r with | .ok (.ret v) => s.toks ≤ s'.toks → Q v s' | .ok _ => False | .error e => s.toks ≤ s'.toks → E e s') s := by
  refine hideG fun G KG => ?_
  obtain ⟨o, fd, ho, hdat, hbody, hsc, hclo, hgl, hbl, hcd, hbind⟩ := hd.ex
  subst hsc
  have hvl : vs.length = ps.length := by rw [← r.length, hl]
  have hkinds : ∀ x ∈ bindsOf ps vs, fd.scope.names.lookup x.1 = some .local ∨ (fd.scope.names.lookup x.1 = some .cell ∧ ((cellsFrom (s.heap.objs.size + 1) fd.scope.names []).lookup x.1).isSome = true) := fun x hx => by
    obtain ⟨x1, x2⟩ := x
    have := List.of_mem_zip hx
    obtain ⟨p, hp, e⟩ := List.mem_map.mp this.1
    subst e
    rcases hd.kinds p hp with q | q
    · exact .inl q
    · exact .inr ⟨q, cellsFrom_has _ _ _ q⟩
  have hnames : ((bindsOf ps vs).map (·.1)).Nodup := by
    unfold bindsOf
    rw [List.map_fst_zip (by simp [hvl])]
    have : ∀ l : List String, l.Nodup → (l.map Str.ofString).Nodup := by
      intro l hl
      induction l with
      | nil => exact .nil
      | cons x l ih =>
        rw [List.map_cons, List.nodup_cons]
        refine ⟨fun q => ?_, ih (List.nodup_cons.mp hl).2⟩
        obtain ⟨y, hy, e⟩ := List.mem_map.mp q
        exact (List.nodup_cons.mp hl).1 (ofString_inj e ▸ hy)
    exact this ps hd.nodup
  refine KG ?_
  refine codeAny_call_function hA.lim (hS.keep _ _ ho) hdat hd.co hd.gen hbody (hcd.keeps hS.keep) ?_
  rw [hclo]
  refine hbind s hS.keep _ _ _ _ (wpAny_with_toks (Nat.le_refl _) (wpAny_newFunctionEnv_cells hd.kind hkinds fun env he s₁ x htok => ?_))
  subst he
  refine ⟨(hS.good.lim.keeps hS.keep).keeps x.toInCall.keep, codeAny_func ?_⟩
  -- the body
  have hk₁ : Keeps s.heap s₁.heap := x.toInCall.keep
  have hca := x.apart
  refine hideG fun G KG => ?_
  obtain ⟨h₁, tk, rfl⟩ := x.toInCall.same
  have hcellAt : ∀ y b, (y, b) ∈ (callEnvC fd s.heap.objs.size a).cells → (callEnvC fd s.heap.objs.size a).cells.lookup y = some b := fun y b hm => by
    have hnd : ((cellsFrom (s.heap.objs.size + 1) fd.scope.names []).map (·.1)).Nodup := cellsFrom_shift fd.scope.names 0 (s.heap.objs.size + 1) [] [] rfl ▸ hd.cnd
    exact lookup_of_mem_nodup hnd hm
  have htk : 0 < tk := Nat.lt_of_lt_of_le hS.pos htok
  have gr₁ : Gr s { s with heap := h₁, toks := tk } := ⟨hk₁, htok, rfl, rfl⟩
  have hnew : ∀ b ∈ s.heap.objs.size :: (callEnvC fd s.heap.objs.size a).cells.map (·.2), s.heap.get? b = none := fun b hb => by
    have : s.heap.objs.size ≤ b := by
      rcases List.mem_cons.mp hb with q | q
      · exact Nat.le_of_eq q.symm
      · obtain ⟨p, hp, rfl⟩ := List.mem_map.mp q
        exact Nat.le_of_lt (x.above p.1 p.2 hp)
    cases e : s.heap.get? b with
    | none => rfl
    | some o' => exact absurd (Heap.lt_size e) (Nat.not_lt.mpr this)
  have hfl := r.alive
  have hXc : ∀ b ∈ s.heap.objs.size :: ((callEnvC fd s.heap.objs.size a).cells.map (·.2) ++ fp), s.heap.get? b = none ∨ b ∈ fp := fun b hb => by
    rcases List.mem_cons.mp hb with q | q
    · exact .inl (hnew b (q ▸ .head _))
    · rcases List.mem_append.mp q with q | q
      · exact .inl (hnew b (.tail _ q))
      · exact .inr (by simpa using q)
  have hnewH : ∀ b ∈ s.heap.objs.size :: ((callEnvC fd s.heap.objs.size a).cells.map (·.2) ++ fp), (hideAll s.heap fp).get? b = none := fun b hb => by
    rcases hXc b hb with q | q
    · cases e : (hideAll s.heap fp).get? b with
      | none => rfl
      | some o' => have := of_hideAll _ e; rw [q] at this; cases this
    · exact hideAll_none _ q
  have F : Fm c fd.scope (callEnvC fd s.heap.objs.size a) V (hideAll s.heap fp) (callEnvC fd s.heap.objs.size a).cells (s.heap.objs.size :: ((callEnvC fd s.heap.objs.size a).cells.map (·.2) ++ fp)) (ps.zip sls) { s with heap := h₁, toks := tk } := by
    refine ⟨hS.good, rfl, hd.kind, hgl, hbl, fun b o e => hideAll_get _ (hS.keep b o e) (fun q => by rw [hfb b q] at e; cases e), fun b o e => hk₁ b o (of_hideAll _ e), Nat.ne_of_gt htk, (fun b q => by
      obtain ⟨o', e⟩ := hS.live b q
      exact ⟨⟨o', hk₁ _ _ e⟩, fun hb => (hXc b hb).elim (fun q' => by rw [q'] at e; cases e) fun q' => hfV b q' q⟩), (fun y hy => by
      rcases hy with hy | hy
      · exact Option.isSome_iff_exists.mp (cellsFrom_has fd.scope.names (s.heap.objs.size + 1) [] hy)
      · exact absurd hy (hd.nofree y)), hnewH, fun _ _ q => q, fun y z b hy hz => lookup_inj hca hy hz,
      ⟨_, fp, x.toInCall.ns, rfl, ?_, fun b hb => ?_, fun p hp => ⟨_, x.cell p.1 p.2 (hcellAt _ _ hp)⟩, ?_⟩⟩
    · have hold : ∀ b ∈ fp, ∀ b' ∈ s.heap.objs.size :: (callEnvC fd s.heap.objs.size a).cells.map (·.2), b' ≠ b := fun b hb b' hb' q => by
        obtain ⟨o', e⟩ := hfl b hb
        rw [← q, hnew b' hb'] at e; cases e
      refine List.nodup_cons.mpr ⟨fun q => ?_, List.nodup_append.mpr ⟨List.pairwise_map.mpr hca, hfn, fun b hb b' hb' q => hold b' hb' b (.tail _ hb) q⟩⟩
      rcases List.mem_append.mp q with q | q
      · obtain ⟨p, hp, e⟩ := List.mem_map.mp q
        have := x.above p.1 p.2 hp
        exact Nat.lt_irrefl _ (e ▸ this)
      · exact hold _ q _ (.head _) rfl
    · rcases List.mem_cons.mp hb with q | q
      · obtain ⟨oL, _, _, e, _⟩ := x.toInCall.ns
        exact ⟨oL, q ▸ e⟩
      · rcases List.mem_append.mp q with q | q
        · obtain ⟨p, hp, rfl⟩ := List.mem_map.mp q
          obtain ⟨oc, e, _⟩ := x.cell p.1 p.2 (hcellAt _ _ hp)
          exact ⟨oc, e⟩
        · obtain ⟨o', e⟩ := hfl b (by simpa using q)
          exact ⟨o', hk₁ _ _ e⟩
    · have hloc : ∀ p v, (Str.ofString p, v) ∈ bindsOf ps vs → p ∈ ps → Loc (callEnvC fd s.heap.objs.size a) { s with heap := h₁, toks := tk } (bindL (callEnvC fd s.heap.objs.size a).kindOf (bindsOf ps vs) fun _ => none) p v := fun p v hm hp => by
        rcases hd.kinds p hp with q | q
        · exact .loc q (bindL_at q _ _ hnames hm)
        · obtain ⟨b, hb⟩ := Option.isSome_iff_exists.mp (cellsFrom_has fd.scope.names (s.heap.objs.size + 1) [] q)
          obtain ⟨oc, e, hdc⟩ := x.cell _ _ hb
          refine .cell (.inl q) hb e (hdc.trans ?_)
          have : bindC (callEnvC fd s.heap.objs.size a).kindOf (bindsOf ps vs) (fun _ => none) (Str.ofString p) = some v := bindC_at (by
            show fd.scope.names.lookup _ ≠ _
            rw [q]; decide) _ _ hnames hm
          exact congrArg _ this
      have r2 : RepSL c (Vol V (s.heap.objs.size :: ((callEnvC fd s.heap.objs.size a).cells.map (·.2) ++ fp))) { s with heap := h₁, toks := tk } sls vs fp :=
        ((r.ext (W := fun b => b ∈ s.heap.objs.size :: (callEnvC fd s.heap.objs.size a).cells.map (·.2)) hnew).calm (gr₁.calm _) (fun b q => by
          rcases q with q | q
          · exact .inl (.inl q)
          · rcases List.mem_cons.mp q with q | q
            · exact .inr (q ▸ .head _)
            · rcases List.mem_append.mp q with q | q
              · exact .inr (.tail _ q)
              · exact .inl (.inr q)) fun b _ o e => hk₁ b o e)
      exact repSL_zip r2 hl hloc
  refine KG ?_
  exact wpAny_mono (h _ _ _ rfl (hnew _ (.head _)) gr₁ F (fun y hy => Option.isSome_iff_exists.mp (cellsFrom_has fd.scope.names (s.heap.objs.size + 1) [] hy)) hXc (fun b hb => .tail _ (List.mem_append_right _ (by simpa using hb)))) (fun f s' q => q) fun _ _ q => q
theorem RepL.slots {c : Cx} {V : Addr → Prop} {s : Shared} {ds : List D} : ∀ {vs}, RepL c V s ds vs → RepSL c V s (ds.map .val) vs [] := by
  induction ds with
  | nil => intro vs r; cases r; exact .nil
  | cons d ds ih => intro vs r; cases r with | cons r rs => exact .cons (fp := []) (fps := []) (.val r) (ih rs)
theorem stoOf_zip : ∀ (ps : List String) (ds : List D), ps.zip (ds.map Slot.val) = stoOf ps ds
  | [], _ => rfl
  | _ :: _, [] => rfl
  | p :: ps, d :: ds => congrArg ((p, Slot.val d) :: ·) (stoOf_zip ps ds)
/-- a def is entered with values -/
theorem fn_enterB {c : Cx} {n : Nat} {a : Addr} {sc : Scope} {ps : List String} {body : List Stmt} {ds : List D} {args : Args} {vs : List Value} (hd : IsDefB c a sc ps body args vs) (hl : ps.length = ds.length) {A : Around} {V : Addr → Prop} {s : Shared}
    {Q E : Value → Shared → Prop} (hA : Room c (n + 1) A) (hS : St c V s) (r : RepL c V s ds vs)
    (h : ∀ env X s₁, env.frame = some env.locals → s.heap.get? env.locals = none → Gr s s₁ → Fm c sc env V s.heap env.cells X (stoOf ps ds) s₁ → Own sc env.cells → (∀ a ∈ X, s.heap.get? a = none) →
      wpAny c.M (A.deeper env) (execs body env) (fun f s' => s.toks ≤ s'.toks → Q (match f with | .ret v => v | _ => .none) s') (fun e s' => wpAny c.M (A.deeper env) (leaving env e) (fun _ s'' => s.toks ≤ s''.toks → E e s'') (fun e' s'' => s.toks ≤ s''.toks → E e' s'') s') s₁) :
    codeAny c.M A (.call (.ref a) args) (fun r s' => match r with | .ok (.ret v) => s.toks ≤ s'.toks → Q v s' | .ok _ => False | .error e => s.toks ≤ s'.toks → E e s') s :=
  fn_enterSC (fp := []) (sls := ds.map .val) hd (by rw [List.length_map]; exact hl) hA hS (fun _ q => nomatch q) .nil (fun _ q => nomatch q) ((r.weak fun a q => q.elim id fun q => nomatch q).slots) fun env X s₁ hf hn g F hO hX _ =>
    h env X s₁ hf hn g (stoOf_zip ps ds ▸ F) hO fun a ha => (hX a ha).resolve_right fun q => nomatch q
theorem fn_enter {c : Cx} {n : Nat} {a : Addr} {sc : Scope} {ps : List String} {body : List Stmt} {ds : List D} (hd : IsDefL c a sc ps body) (hl : ps.length = ds.length) {A : Around} {V : Addr → Prop} {s : Shared} {vs : List Value}
    {Q E : Value → Shared → Prop} (hA : Room c (n + 1) A) (hS : St c V s) (r : RepL c V s ds vs)
    (h : ∀ env X s₁, env.frame = some env.locals → s.heap.get? env.locals = none → Gr s s₁ → Fm c sc env V s.heap env.cells X (stoOf ps ds) s₁ → Own sc env.cells → (∀ a ∈ X, s.heap.get? a = none) →
      wpAny c.M (A.deeper env) (execs body env) (fun f s' => s.toks ≤ s'.toks → Q (match f with | .ret v => v | _ => .none) s') (fun e s' => wpAny c.M (A.deeper env) (leaving env e) (fun _ s'' => s.toks ≤ s''.toks → E e s'') (fun e' s'' => s.toks ≤ s''.toks → E e' s'') s') s₁) :
    wpAny c.M A (call (.ref a) vs) Q E s :=
  wpAny_with_toks (Nat.le_refl _) (wpAny_call (codeAny_mono (fn_enterB (hd.toB (by rw [← r.length, hl])) hl hA hS r h) fun r s' q => by
    cases r with
    | error e => exact q
    | ok f =>
      cases f with
      | ret v => exact q
      | _ => exact q.elim))
/-- what a frame gives -/
theorem SPost.out {c : Cx} {sc : Scope} {env : Env} {V : Addr → Prop} {Cs : List (Str × Addr)} {X : List Addr} {s s₁ s' : Shared} {P : AF → Sto → Prop} {f : Flow} {d : D} (q : SPost c sc env V s.heap Cs X s₁ P f s') (g : Gr s s₁) (ht : s.toks ≤ s'.toks) (hp : ∀ af ρ, P af ρ → af = .ret d ∨ (af ≠ .ret d ∧ d = .none ∧ ∀ d', af ≠ .ret d')) :
    Gr s s' ∧ Rep c V s' d (match (generalizing := false) f with | .ret v => v | _ => .none) := by
  obtain ⟨X', ρ', af, t, F', hfl, p⟩ := q
  refine ⟨⟨F'.keep, ht, t.gens.trans g.gens, t.os.trans g.os⟩, ?_⟩
  rcases hp _ _ p with rfl | ⟨_, rfl, hn⟩
  · cases hfl with
    | ret r' => exact r'.weak fun _ q => .inl q
  · cases hfl with
    | ret r' => exact absurd rfl (hn _)
    | _ => exact .none

theorem FnR.def {c : Cx} {n : Nat} {a : Addr} {sc : Scope} {ps : List String} {body : List Stmt} {ds : List D} {d : D} (hd : IsDef c a sc ps body) (hl : ps.length = ds.length)
    (h : Tr c n sc (stoOf ps ds) body fun af _ => af = .ret d ∨ (af ≠ .ret d ∧ d = .none ∧ ∀ d', af ≠ .ret d')) : FnR c (n + 1) (.ref a) ds d := .mk fun A V s vs hA hS r =>
  fn_enter (Q := fun v s' => Gr s s' ∧ Rep c V s' d v) (E := fun _ _ => False) hd.toIsDefL hl hA hS r fun env X s₁ _ _ g F hO _ =>
    wpAny_mono (h.run (A.deeper env) env V _ env.cells X s₁ (hA.deeper env) ⟨hO, fun q => absurd q hd.nl⟩ F) (fun f s' q ht => q.out g ht fun _ _ p => p) fun _ _ q => q.elim

/-- a def that is called with nothing else on the stack -/
structure FnT (c : Cx) (n : Nat) (f : Value) (ds : List D) (d : D) : Prop where
  run : ∀ A V s vs, Room c n A → A.frames = some [] → St c V s → RepL c V s ds vs →
    wpAny c.M A (call f vs) (fun v s' => Gr s s' ∧ Rep c V s' d v) (fun _ _ => False) s
theorem FnT.of {c : Cx} {n : Nat} {a : Addr} {sc : Scope} {ps : List String} {body : List Stmt} {ds : List D} {d : D} (hd : IsDefL c a sc ps body) (hl : ps.length = ds.length)
    (h : Tr c n sc (stoOf ps ds) body fun af _ => af = .ret d) : FnT c (n + 1) (.ref a) ds d := .mk fun A V s vs hA hF hS r =>
  fn_enter (Q := fun v s' => Gr s s' ∧ Rep c V s' d v) (E := fun _ _ => False) hd hl hA hS r fun env X s₁ hf _ g F hO _ =>
    wpAny_mono (h.run (A.deeper env) env V _ env.cells X s₁ (hA.deeper env) ⟨hO, fun _ => ⟨Around.frames_deeper hF, hf⟩⟩ F) (fun f s' q ht => q.out g ht fun _ _ p => .inl p) fun _ _ q => q.elim

/-- the plain case: every way ends in a return of d -/
theorem FnR.of {c : Cx} {n : Nat} {a : Addr} {sc : Scope} {ps : List String} {body : List Stmt} {ds : List D} {d : D} (hd : IsDef c a sc ps body) (hl : ps.length = ds.length)
    (h : Tr c n sc (stoOf ps ds) body fun af _ => af = .ret d) : FnR c (n + 1) (.ref a) ds d := FnR.def hd hl (h.mono fun _ _ q => .inl q)

end Mine
namespace Mine

section
variable {c : Cx} {n : Nat} {sc : Scope} {k : Bool} {ρ : Sto}

/-- the arguments, the items of a display -/
structure EvL (c : Cx) (n : Nat) (sc : Scope) (k : Bool) (ρ : Sto) (es : List Expr) (ds : List D) : Prop where
  run : ∀ A env V0 h0 Cs X s pos, Room c n A → Fm c sc env V0 h0 Cs X ρ s →
    wpAny c.M A (spliced (backTo pos (starEach es env))) (fun vs s' => Gr s s' ∧ RepL c (VK k V0 X) s' ds vs) NoE s
theorem EvL.nil : EvL c n sc k ρ [] [] := .mk fun A env V0 h0 Cs X s pos _ _ => wpAny_items_nil ⟨.refl s, .nil⟩
theorem EvL.cons {e : Expr} {es : List Expr} {d : D} {ds : List D} (h : Ev c n sc k ρ e d) (hs : EvL c n sc k ρ es ds) (hp : plainE e = true := by rfl) : EvL c n sc k ρ (e :: es) (d :: ds) :=
  .mk fun A env V0 h0 Cs X s pos hA F => wpAny_items_cons (wpAny_mono (h.run A env V0 h0 Cs X s hA F) (fun v s₁ q₁ => wpAny_mono (hs.run A env V0 h0 Cs X s₁ pos hA (F.gr q₁.1)) (fun vs s₂ q₂ =>
    ⟨q₁.1.trans q₂.1, .cons (q₁.2.gr q₂.1) q₂.2⟩) fun _ _ q => q) fun _ _ q => q) (starEach_cons hp)

/-- what may stand in front of a call's brackets -/
inductive Callee (c : Cx) : Value → Prop
  | builtin (id : String) : Callee c (.builtin id)
  | type (T : String) : Callee c (.type T)
  | func {a o fd} : c.base.get? a = some o → o.data = .func fd → Callee c (.ref a)

theorem noStar_all {es : List Expr} {env : Env} {pos : Pos} (h : es.all plainE = true) : (backTo pos (starEach es env)).any (·.1) = false := by
  induction es with
  | nil => rfl
  | cons e es ih =>
    simp only [List.all_cons, Bool.and_eq_true] at h
    rw [starEach_cons h.1]
    exact ih h.2
theorem evalArgs_of {M : Model} {A : Around} {E : Value → Shared → Prop} {s : Shared} {env : Env} {f : Value} {es : List Expr} {pos : Pos} {Q : Args → Shared → Prop} (hp : es.all plainE = true)
    (h : wpAny M A (spliced (backTo pos (starEach es env))) (fun vs s' => Q ⟨vs, []⟩ s') E s) : wpAny M A (evalArgs f true (backTo pos (starEach es env)) []) Q E s := by
  cases es with
  | nil =>
    unfold evalArgs
    show wpAny M A (spliced [] >>= _) Q E s
    refine wpAny_bind (wpAny_mono h (fun vs s' h' => ?_) fun _ _ x => x)
    refine wpAny_holding ?_
    exact wpAny_bind (wpAny_pure (wpAny_bind (wpAny_pure (wpAny_pure h'))))
  | cons e es =>
    simp only [List.all_cons, Bool.and_eq_true] at hp
    rw [starEach_cons hp.1] at h ⊢
    exact Calls.evalArgs_plain h

theorem Callee.wp {M : Model} {A : Around} {E : Value → Shared → Prop} {s : Shared} {env : Env} {f : Value} {es : List Expr} {pos : Pos} {first : List Value} {Q : Value → Shared → Prop} (hf : Callee c f) (hp : es.all plainE = true)
    (h : wpAny M A (spliced (backTo pos (starEach es env))) (fun vs s' => Keeps c.base s'.heap ∧ wpAny M A (call f (first ++ vs)) Q E s') E s) :
    wpAny M A (callWith pos f first (backTo pos (starEach es env)) []) Q E s := by
  cases hf with
  | builtin id => exact Calls.callWith_builtin (noStar_all hp) (evalArgs_of hp (wpAny_mono h (fun _ _ q => q.2) fun _ _ q => q))
  | type T => exact PySem.callWith_type (noStar_all hp) (evalArgs_of hp (wpAny_mono h (fun _ _ q => q.2) fun _ _ q => q))
  | func ho hd => exact Calls.callWith_function (evalArgs_of hp (wpAny_mono h (fun _ _ q => ⟨⟨q.1 _ _ ho, hd⟩, q.2⟩) fun _ _ q => q))

theorem Ev.call {f : Expr} {es : List Expr} {pos : Pos} {fv : Value} {ds : List D} {d : D} (hf : Ev c n sc true ρ f (.val fv)) (hc : Callee c fv) (ha : EvL c n sc k ρ es ds) (h : FnR c n fv ds d)
    (hp : es.all plainE = true := by rfl)
    (he : ∀ env : Env, eval (.Call f es [] pos) env = (do callWith pos (← eval f env) [] (backTo pos (starEach es env)) (backToKw pos (keywordEach [] env))) := by intro _; rfl) : Ev c n sc k ρ (.Call f es [] pos) d :=
  .mk fun A env V0 h0 Cs X s hA F => by
    rw [he]
    refine wpAny_bind (wpAny_mono (hf.run A env V0 h0 Cs X s hA F) (fun v s₁ q₁ => ?_) fun _ _ q => q)
    obtain ⟨g₁, r₁⟩ := q₁
    cases r₁.inv
    refine hc.wp hp (wpAny_mono (ha.run A env V0 h0 Cs X s₁ pos hA (F.gr g₁)) (fun vs s₂ q₂ => ⟨((F.gr g₁).gr q₂.1).base.trans ((F.gr g₁).gr q₂.1).keep, ?_⟩) fun _ _ q => q)
    exact wp_gr (g₁.trans q₂.1) (h.run A _ s₂ vs hA ((F.st k).gr (g₁.trans q₂.1)) q₂.2)

/-- arguments that are looked at only -/
theorem Ev.callF {f : Expr} {es : List Expr} {pos : Pos} {fv : Value} {ds : List D} {d : D} (hf : Ev c n sc true ρ f (.val fv)) (hc : Callee c fv) (ha : EvL c n sc false ρ es ds) (h : FnR c n fv ds d) (hd : d.flat = true)
    (hp : es.all plainE = true := by rfl)
    (he : ∀ env : Env, eval (.Call f es [] pos) env = (do callWith pos (← eval f env) [] (backTo pos (starEach es env)) (backToKw pos (keywordEach [] env))) := by intro _; rfl) : Ev c n sc k ρ (.Call f es [] pos) d :=
  (Ev.call hf hc ha h hp he).lookAt hd

noncomputable def D.ty : D → Option String
  | .str _ => some "str"
  | .list _ => some "list"
  | .tuple _ => some "tuple"
  | .dict _ => some "dict"
  | .int _ => some "int"
  | .bool _ => some "bool"
  | _ => Option.none
theorem Rep.typeIs {V s d v T} (r : Rep c V s d v) (h : d.ty = some T) : s.TypeIs v T ∧ (∀ a, v = .ref a → ∃ ob, s.heap.get? a = some ob ∧ ob.dict = Option.none) := by
  replace r := r.inv
  cases d with
  | bool b => cases h; rw [show v = _ from r]; exact ⟨rfl, fun _ e => nomatch e⟩
  | int i => cases h; obtain ⟨_, rfl⟩ := r; exact ⟨rfl, fun _ e => nomatch e⟩
  | str x => cases h; obtain ⟨_, rfl⟩ := r; exact ⟨typeIs_str _ _ _, fun _ e => nomatch e⟩
  | list ds => cases h; obtain ⟨_, _, _, _, rfl, _, ho, hcl, hd, _⟩ := r; exact ⟨⟨_, ho, hcl⟩, fun _ e => by cases e; exact ⟨_, ho, hd.1⟩⟩
  | tuple ds => cases h; obtain ⟨_, _, _, _, rfl, _, ho, hcl, hd, _⟩ := r; exact ⟨⟨_, ho, hcl⟩, fun _ e => by cases e; exact ⟨_, ho, hd.1⟩⟩
  | dict kvs => cases h; obtain ⟨_, _, _, _, rfl, _, _, ho, hx, _⟩ := r; exact ⟨⟨_, ho, hx.1⟩, fun _ e => by cases e; exact ⟨_, ho, hx.2.1⟩⟩
  | _ => cases h

theorem Ev.meth {o : Expr} {name : Str} {apos pos : Pos} {es : List Expr} {T id : String} {d₀ : D} {ds : List D} {d : D} (ho : Ev c n sc k ρ o d₀) (hT : d₀.ty = some T) (pa : PlainAttrs T) (slot : PySem.Slot T name id)
    (hty : typeOf (.builtin id) = pure (.type "method_descriptor")) (ha : EvL c n sc k ρ es ds) (h : FnR c n (.builtin id) (d₀ :: ds) d)
    (hline : (apos.endLine == pos.line) = true := by rfl) (hp : es.all plainE = true := by rfl) (hlen : decide (es.length < 30) = true := by rfl)
    (hbase : ∀ env : Env, attributeBase o name env (eval o env) = eval o env := by intro _; rfl) : Ev c n sc k ρ (.Call (.Attribute o name apos) es [] pos) d :=
  .mk fun A env V0 h0 Cs X s hA F => by
    refine wpAny_Call_method (hbase env) ?_ hline pa slot hty (wpAny_mono (ho.run A env V0 h0 Cs X s hA F) (fun v s₁ q₁ => ?_) fun _ _ q => q)
    · have : (backTo pos (starEach es env)).all (fun x => !x.1) = true := by
        have h2 := noStar_all (env := env) (pos := pos) hp
        rw [List.all_eq_not_any_not]
        simpa using h2
      rw [this]
      have hl : decide (es.length < 30) = true := hlen
      exact hl
    · have ht := q₁.2.typeIs hT
      refine ⟨ht.1, ht.2, (Callee.builtin (c := c) id).wp hp (wpAny_mono (ha.run A env V0 h0 Cs X s₁ pos hA (F.gr q₁.1)) (fun vs s₂ q₂ => ⟨((F.gr q₁.1).gr q₂.1).base.trans ((F.gr q₁.1).gr q₂.1).keep, ?_⟩) fun _ _ q => q)⟩
      exact wp_gr (q₁.1.trans q₂.1) (h.run A _ s₂ (v :: vs) hA ((F.st k).gr (q₁.1.trans q₂.1)) (.cons (q₁.2.gr q₂.1) q₂.2))

theorem Ev.list {es : List Expr} {pos : Pos} {ds : List D} (h : EvL c n sc k ρ es ds) (hsz : ds.length ≤ sizeLine) : Ev c n sc k ρ (.List es pos) (.list ds) := .mk fun A env V0 h0 Cs X s hA F =>
  wpAny_List (wpAny_mono (h.run A env V0 h0 Cs X s pos hA F) (fun vs s₁ q => ⟨q.2.length ▸ hsz, q.1.trans (.push _), .list (fun q' => by
    obtain ⟨o, e⟩ := ((F.st k).gr q.1).live _ q'
    exact absurd (Heap.lt_size e) (Nat.lt_irrefl _)) (Heap.get?_push_size _ rfl) rfl ⟨rfl, rfl⟩ rfl (by simpa using q.2.gr (.push _))⟩) fun _ _ q => q)
theorem Ev.tuple {es : List Expr} {kk : Nat} {pos : Pos} {ds : List D} (h : EvL c n sc k ρ es ds) (hsz : ds.length ≤ sizeLine) : Ev c n sc k ρ (.Tuple es kk pos) (.tuple ds) := .mk fun A env V0 h0 Cs X s hA F =>
  wpAny_Tuple (wpAny_mono (h.run A env V0 h0 Cs X s pos hA F) (fun vs s₁ q => ⟨q.2.length ▸ hsz, q.1.trans (.push _), .tuple (fun q' => by
    obtain ⟨o, e⟩ := ((F.st k).gr q.1).live _ q'
    exact absurd (Heap.lt_size e) (Nat.lt_irrefl _)) (Heap.get?_push_size _ rfl) rfl ⟨rfl, rfl⟩ rfl (by simpa using q.2.gr (.push _))⟩) fun _ _ q => q)

theorem Ev.sub {value slice : Expr} {pos : Pos} {d₁ d₂ d : D} {T id : String} (h1 : Ev c n sc k ρ value d₁) (h2 : Ev c n sc k ρ slice d₂) (hT : d₁.ty = some T) (hl : typeLookup (.type T) "__getitem__" = pure (some (.builtin id))) (h : ItemR c d₁ d₂ d)
    (hs : ∀ o i, subscripted slice false o i = operate [o, i] (getItem o i) := by intro _ _; rfl) : Ev c n sc k ρ (.Subscript value slice pos) d := .mk fun A env V0 h0 Cs X s hA F =>
  Subscript_ (wpAny_mono (h1.run A env V0 h0 Cs X s hA F) (fun o s₁ q₁ => wpAny_mono (h2.run A env V0 h0 Cs X s₁ hA (F.gr q₁.1)) (fun i s₂ q₂ =>
    tail_any ((q₁.2.gr q₂.1).typeIs hT).1 hl (wp_gr (q₁.1.trans q₂.1) (h A _ s₂ o i hA.zero ((F.st k).gr (q₁.1.trans q₂.1)) (q₁.2.gr q₂.1) q₂.2)) (hs o i)) fun _ _ q => q) fun _ _ q => q)

end
end Mine
namespace Mine

/-- the signs of a written text -/
noncomputable def cs (x : String) : List Nat := x.toList.map Char.toNat
theorem ofString_S (x : String) : Str.ofString x = S (cs x) := Str.ofString_eq_toList x
theorem S_append (a b : List Nat) : S a ++ S b = S (a ++ b) := by
  show (⟨a.toArray ++ b.toArray⟩ : Str) = _
  simp
theorem S_length (a : List Nat) : (S a).length = a.length := by simp [Str.length]
theorem S_inj {a b : List Nat} (h : S a = S b) : a = b := by
  injection h with h; simpa using congrArg Array.toList h
theorem S_of (x : Str) : x = S x.cps.toList := by cases x; simp
noncomputable abbrev sd (l : List Nat) : D := .str (S l)

section
variable {c : Cx} {n : Nat} {sc : Scope} {k : Bool} {ρ : Sto}

theorem Ev.lit {x : String} {kk : Nat} {pos : Pos} : Ev c n sc k ρ (.Constant (.str (Str.ofString x)) kk pos) (sd (cs x)) := by
  have := Ev.str (c := c) (n := n) (sc := sc) (k := k) (ρ := ρ) (x := Str.ofString x) (kk := kk) (pos := pos)
  rw [ofString_S] at this ⊢; exact this
/- ints -/
theorem BinR.add {a b : Int} : BinR c .Add (.int a) (.int b) (.int (a + b)) := fun A V s v₁ v₂ _ _ r₁ r₂ => by
  obtain ⟨_, rfl⟩ := r₁.inv; obtain ⟨_, rfl⟩ := r₂.inv; exact wp_end (P.add_int ⟨fun _ _ e => e, rfl, rfl, fun _ => .int _ _⟩)
theorem BinR.sub {a b : Int} : BinR c .Sub (.int a) (.int b) (.int (a - b)) := fun A V s v₁ v₂ _ _ r₁ r₂ => by
  obtain ⟨_, rfl⟩ := r₁.inv; obtain ⟨_, rfl⟩ := r₂.inv; exact wp_end (P.sub_int ⟨fun _ _ e => e, rfl, rfl, fun _ => .int _ _⟩)
theorem BinR.fdiv {a b : Int} (hb : b ≠ 0) (hs : b.natAbs < 1073741824) : BinR c .FloorDiv (.int a) (.int b) (.int (a.fdiv b)) := fun A V s v₁ v₂ _ _ r₁ r₂ => by
  obtain ⟨_, rfl⟩ := r₁.inv; obtain ⟨_, rfl⟩ := r₂.inv; exact wp_end (floordiv_int hb ⟨fun _ _ e => e, rfl, rfl, fun _ => .int _ _⟩ (.inl (PyProof.noPylong_small hs)))
theorem BinR.fmod {a b : Int} (hb : b ≠ 0) (hn : c.hn := by assumption) : BinR c .Mod (.int a) (.int b) (.int (a.fmod b)) := fun A V s v₁ v₂ hA _ r₁ r₂ => by
  obtain ⟨_, rfl⟩ := r₁.inv; obtain ⟨_, rfl⟩ := r₂.inv; exact wp_end (mod_int_or (hA.handled hn) (fun h => absurd h hb) fun _ => ⟨fun _ _ e => e, rfl, rfl, fun _ => .int _ _⟩)
theorem CmpR.eqI {a b : Int} : CmpR c .Eq (.int a) (.int b) (decide (a = b)) := fun A V s v₁ v₂ _ _ r₁ r₂ => by
  obtain ⟨_, rfl⟩ := r₁.inv; obtain ⟨_, rfl⟩ := r₂.inv; exact P.eq_int ⟨.refl s, by by_cases h : a = b <;> simp [h]⟩
theorem CmpR.ltI {a b : Int} : CmpR c .Lt (.int a) (.int b) (decide (a < b)) := fun A V s v₁ v₂ _ _ r₁ r₂ => by
  obtain ⟨_, rfl⟩ := r₁.inv; obtain ⟨_, rfl⟩ := r₂.inv; exact P.lt_int ⟨.refl s, rfl⟩
theorem CmpR.gtI {a b : Int} : CmpR c .Gt (.int a) (.int b) (decide (a > b)) := fun A V s v₁ v₂ _ _ r₁ r₂ => by
  obtain ⟨_, rfl⟩ := r₁.inv; obtain ⟨_, rfl⟩ := r₂.inv; exact P.gt_int ⟨.refl s, rfl⟩
theorem TruR.bool {b : Bool} : TruR c (.bool b) b := fun A V s v _ _ r => by
  cases r.inv; exact wpAny_truthy_bool ⟨.refl s, rfl⟩

/- texts -/
theorem BinR.cat {a b : List Nat} (hz : a.length + b.length ≤ 16777216) : BinR c .Add (sd a) (sd b) (sd (a ++ b)) := fun A V s v₁ v₂ _ _ r₁ r₂ => by
  obtain ⟨t, rfl⟩ := r₁.inv
  obtain ⟨u, rfl⟩ := r₂.inv
  refine wp_end (P.add_str ?_)
  have e : S a ++ S b = S (a ++ b) := S_append a b
  by_cases h1 : ((S a).length == 0) = true
  · rw [if_pos h1]
    have : S b = S (a ++ b) := by rw [← e, Str.append_left_empty h1]
    exact ⟨fun _ _ e => e, rfl, rfl, fun _ => this ▸ .str _ _⟩
  · rw [if_neg h1]
    by_cases h2 : ((S b).length == 0) = true
    · rw [if_pos h2]
      have : S a = S (a ++ b) := by rw [← e, Str.append_right_empty h2]
      exact ⟨fun _ _ e => e, rfl, rfl, fun _ => this ▸ .str _ _⟩
    · rw [if_neg h2, e]
      exact ⟨by rw [S_length, List.length_append, sizeLine_eq]; exact hz, fun _ _ e => e, rfl, rfl, fun _ => .str _ _⟩
theorem CmpR.eqS {a b : List Nat} : CmpR c .Eq (sd a) (sd b) (decide (a = b)) := fun A V s v₁ v₂ _ _ r₁ r₂ => by
  obtain ⟨_, rfl⟩ := r₁.inv; obtain ⟨_, rfl⟩ := r₂.inv; exact P.eq_str ⟨.refl s, by by_cases h : a = b <;> simp [h]⟩
theorem CmpR.neS {a b : List Nat} : CmpR c .NotEq (sd a) (sd b) (decide (a ≠ b)) := fun A V s v₁ v₂ _ _ r₁ r₂ => by
  obtain ⟨_, rfl⟩ := r₁.inv; obtain ⟨_, rfl⟩ := r₂.inv; exact P.ne_str ⟨.refl s, by by_cases h : a = b <;> simp [h]⟩
/- items -/
theorem ItemR.list {ds : List D} {i : Int} {d : D} (h0 : 0 ≤ i) (hd : ds[i.toNat]? = some d) (hi : i < 2 ^ 63 := by omega) : ItemR c (.list ds) (.int i) d := fun A V s v₁ v₂ _ _ r₁ r₂ => by
  obtain ⟨_, rfl⟩ := r₂.inv
  replace r₁ := r₁.inv
  obtain ⟨_, _, _, _, rfl, na, ho, hcl, hdc, hdt, r⟩ := r₁
  obtain ⟨v, hv, rv⟩ := r.get hd
  exact wpAny_getItem_list ⟨_, ho, hcl, _, hdt⟩ h0 hi (by simpa using hv) ⟨.refl s, rv⟩
theorem ItemR.tuple {ds : List D} {i : Int} {j : Nat} {d : D} (hj : seqIndex? i ds.length = some j) (hd : ds[j]? = some d) (hlo : -(2 ^ 63) ≤ i := by omega) (hi : i < 2 ^ 63 := by omega) : ItemR c (.tuple ds) (.int i) d := fun A V s v₁ v₂ _ _ r₁ r₂ => by
  obtain ⟨_, rfl⟩ := r₂.inv
  replace r₁ := r₁.inv
  obtain ⟨_, _, _, _, rfl, na, ho, hcl, hdc, hdt, r⟩ := r₁
  obtain ⟨v, hv, rv⟩ := r.get hd
  have hl := r.length
  exact getItem_tuple ⟨_, ho, hcl, _, hdt⟩ hlo hi (by rw [← hj, hl]; simp) (by simpa using hv) ⟨.refl s, rv⟩
theorem Ev.subL {value slice : Expr} {pos : Pos} {ds : List D} {i : Int} {d : D} (h1 : Ev c n sc k ρ value (.list ds)) (h2 : Ev c n sc k ρ slice (.int i)) (h : ItemR c (.list ds) (.int i) d)
    (hs : ∀ o i, subscripted slice false o i = operate [o, i] (getItem o i) := by intro _ _; rfl) : Ev c n sc k ρ (.Subscript value slice pos) d := Ev.sub h1 h2 rfl slot_list_getitem.lookup h hs
theorem Ev.subT {value slice : Expr} {pos : Pos} {ds : List D} {i : Int} {d : D} (h1 : Ev c n sc k ρ value (.tuple ds)) (h2 : Ev c n sc k ρ slice (.int i)) (h : ItemR c (.tuple ds) (.int i) d)
    (hs : ∀ o i, subscripted slice false o i = operate [o, i] (getItem o i) := by intro _ _; rfl) : Ev c n sc k ρ (.Subscript value slice pos) d := Ev.sub h1 h2 rfl slot_tuple_getitem.lookup h hs
end
end Mine
namespace Mine

section
variable {c : Cx} {n : Nat} {sc : Scope} {k : Bool} {ρ : Sto}

theorem isStrOf_iff (c : Cx) {x : Str} {v : Value} : Value.isStrOf x v = true ↔ ∃ t, v = .str x t := by
  constructor
  · exact Value.isStrOf_shape
  · rintro ⟨t, rfl⟩; exact strKind_is c.prog c.w x t

theorem Fm.addV {env V0 h0 Cs X s s'} {a : Addr} (F : Fm c sc env V0 h0 Cs X ρ s) (hn : s.heap.get? a = none) (g : Gr s s') (hl : ∃ o, s'.heap.get? a = some o) : Fm c sc env (fun b => V0 b ∨ b = a) h0 Cs X ρ s' := by
  have F' := F.gr g
  refine ⟨F'.good, F'.scope, F'.kind, F'.globals, F'.builtins, F'.base, F'.keep, F'.tok, fun b q => ?_, F'.ccells, F'.new, F'.cells, F'.cinj, ?_⟩
  · rcases q with q | rfl
    · exact F'.live0 b q
    · refine ⟨hl, fun q => ?_⟩
      obtain ⟨_, _, _, _, _, h4, _, _⟩ := F.sto
      obtain ⟨o, e⟩ := h4 _ q
      rw [hn] at e; cases e
  · obtain ⟨m, fps, h1, h2, h3, h4, h6, h5⟩ := F.sto
    obtain ⟨_, _, _, _, _, h4', h6', _⟩ := F'.sto
    exact ⟨m, fps, h1.keeps g.keep, h2, h3, h4', h6', ((h5.ext (W := fun b => b = a) fun b q => q ▸ hn).gr g).weak fun b q => by
      rcases q with (q | q) | q
      · exact .inl (.inl q)
      · exact .inr q
      · exact .inl (.inr q)⟩

theorem RepD.find {V s} (x : List Nat) : ∀ {kvs : List (List Nat × D)} {es : List DictEntry}, RepD c V s kvs es →
    match kvs.lookup x with
    | some d => ∃ v, (es.find? fun e => Value.isStrOf (S x) e.key).map (·.val) = some v ∧ Rep c V s d v
    | none => (es.find? fun e => Value.isStrOf (S x) e.key).map (·.val) = none
  | _, _, .nil => rfl
  | _, _, .cons (k := y) (d := d) (t := t) (e := e) (kvs := kvs) (es := es) hk hh r rs => by
    have ih := rs.find x
    rw [List.lookup_cons]
    by_cases hy : x = y
    · subst hy
      simp only [beq_self_eq_true]
      refine ⟨e.val, ?_, r⟩
      have : Value.isStrOf (S x) e.key = true := (isStrOf_iff c).mpr ⟨t, hk⟩
      rw [List.find?_cons_of_pos (by simpa using this)]; rfl
    · have hb : (x == y) = false := by simpa using hy
      rw [hb]
      have : ¬ Value.isStrOf (S x) e.key = true := fun q => by
        obtain ⟨t', e'⟩ := (isStrOf_iff c).mp q
        rw [hk] at e'; injection e' with e'
        exact hy (S_inj e').symm
      rw [List.find?_cons_of_neg (by simpa using this)]
      exact ih
theorem RepD.keys {V s} : ∀ {kvs : List (List Nat × D)} {es : List DictEntry}, RepD c V s kvs es → ∀ e ∈ es, ∃ k, (strKind c.prog c.w).is k e.key = true ∧ e.hash = (strKind c.prog c.w).hash k
  | _, _, .nil, e, he => by cases he
  | _, _, .cons (k := y) (t := t) hk hh r rs, e, he => by
    rcases List.mem_cons.mp he with rfl | he
    · exact ⟨S y, by rw [hk]; exact strKind_is c.prog c.w _ _, hh⟩
    · exact rs.keys e he

theorem Rep.map {V s kvs a} (r : Rep c V s (.dict kvs) (.ref a)) : ∃ f, s.heap.MapOf (strKind c.prog c.w) a f ∧ (a == sysModules) = false ∧
    ∀ x : List Nat, match kvs.lookup x with | Option.some d => ∃ v, f (S x) = some v ∧ Rep c V s d v | Option.none => f (S x) = Option.none := by
  replace r := r.inv
  obtain ⟨_, o, es, nn, e0, na, hsm, ho, hx, hdt, r⟩ := r
  cases e0
  refine ⟨_, ⟨o, es, nn, ho, hx, hdt, fun e he => r.keys e (Array.mem_toList_iff.mpr he), fun _ => rfl⟩, hsm, fun x => ?_⟩
  have h := r.find x
  have e : findBy (strKind c.prog c.w).is es (S x) = (es.toList.find? fun e => Value.isStrOf (S x) e.key).map (·.val) := by
    obtain ⟨l⟩ := es
    unfold findBy
    rw [List.find?_toArray]; rfl
  rw [e]; exact h

theorem CmpR.inD {kvs : List (List Nat × D)} {x : List Nat} : CmpR c .In (sd x) (.dict kvs) (kvs.lookup x).isSome := fun A V s v₁ v₂ _ _ r₁ r₂ => by
  obtain ⟨t, rfl⟩ := r₁.inv
  obtain ⟨a, _, _, _, rfl, _⟩ := r₂.inv
  obtain ⟨f, hm, hsm, hf⟩ := r₂.map
  have hx := hf x
  have hb : (f (S x)).isSome = (kvs.lookup x).isSome := by
    cases h : kvs.lookup x with
    | some d => rw [h] at hx; obtain ⟨v, hv, _⟩ := hx; rw [hv]; rfl
    | none => rw [h] at hx; rw [hx]; rfl
  exact wp_end (wpAny_in_of (strKind_is c.prog c.w _ t) hsm hm ⟨fun _ _ e => e, rfl, rfl, fun _ => by rw [hb]⟩)
/- a display of a table with written keys -/
inductive EvP (c : Cx) (n : Nat) (sc : Scope) (k : Bool) (ρ : Sto) : List (Option Expr) → List Expr → List (List Nat × D) → Prop
  | nil : EvP c n sc k ρ [] [] []
  | cons {ke ve x d ks vs kvs} : Ev c n sc k ρ ke (sd x) → Ev c n sc k ρ ve d → EvP c n sc k ρ ks vs kvs → EvP c n sc k ρ (some ke :: ks) (ve :: vs) ((x, d) :: kvs)

end

section
variable {c : Cx} {n : Nat} {sc : Scope} {k : Bool} {ρ : Sto}

/-- the trees of the pairs -/
noncomputable def pairTrees (pos : Pos) (env : Env) : List (Option Expr) → List Expr → List (Sem Value × Sem Value)
  | some ke :: ks, ve :: vs => (eval ke env, do let x ← eval ve env; standAt pos; pure x) :: pairTrees pos env ks vs
  | _, _ => []

theorem EvP.shape {ks vs kvs} (h : EvP c n sc k ρ ks vs kvs) (pos : Pos) (env : Env) :
    (evalEachOpt ks env).zip ((evalEach vs env).map fun v => do let x ← v; standAt pos; pure x) = (pairTrees pos env ks vs).map (fun p => (some p.1, p.2)) ∧ (pairTrees pos env ks vs).length = kvs.length := by
  induction h with
  | nil => exact ⟨rfl, rfl⟩
  | cons _ _ _ ih =>
    refine ⟨?_, by simp [pairTrees, ih.2]⟩
    simp only [pairTrees, List.map_cons]
    rw [← ih.1]
    rfl

theorem EvP.wp {ks vs kvs} (h : EvP c n sc k ρ ks vs kvs) : ∀ {A env V0 h0 Cs X s} (pos : Pos), Room c n A → Fm c sc env V0 h0 Cs X ρ s →
    wpAny c.M A (evalPairs (pairTrees pos env ks vs)) (fun ps s' => Gr s s' ∧ ∃ kvv : List (Str × Value), Carries (strKind c.prog c.w) ps kvv ∧ kvv.map (·.1) = kvs.map (fun p => S p.1) ∧ RepL c (VK k V0 X) s' (kvs.map (·.2)) (kvv.map (·.2))) NoE s := by
  induction h with
  | nil => intro A env V0 h0 Cs X s pos _ _; exact evalPairs_nil ⟨.refl s, [], trivial, rfl, .nil⟩
  | cons h1 h2 _ ih =>
    intro A env V0 h0 Cs X s pos hA F
    refine evalPairs_cons (wpAny_mono (h1.run A env V0 h0 Cs X s hA F) (fun kv s₁ q₁ => ?_) fun _ _ q => q)
    refine wpAny_bind (wpAny_mono (h2.run A env V0 h0 Cs X s₁ hA (F.gr q₁.1)) (fun vv s₂ q₂ => wpAny_bind (wpAny_standAt (wpAny_pure ?_))) fun _ _ q => q)
    refine wpAny_mono (ih pos hA ((F.gr q₁.1).gr q₂.1)) (fun ps s₃ q₃ => ?_) fun _ _ q => q
    obtain ⟨g₃, kvv, hc, hk, hr⟩ := q₃
    obtain ⟨g₁, r₁⟩ := q₁
    obtain ⟨t, rfl⟩ := r₁.inv
    exact ⟨(g₁.trans q₂.1).trans g₃, (S _, vv) :: kvv, ⟨strKind_is c.prog c.w _ t, rfl, hc⟩, by simp [hk], .cons (q₂.2.gr g₃) hr⟩

theorem merged_nodup {kvs : List (Str × Value)} : ∀ (acc : List (Str × Value)), ((acc ++ kvs).map (·.1)).Nodup → merged acc kvs = acc ++ kvs := by
  induction kvs with
  | nil => intro acc _; simp [merged]
  | cons p r ih =>
    intro acc h
    have hst : stored acc p.1 p.2 = acc ++ [p] := by
      unfold stored
      rw [if_neg]
      intro q
      obtain ⟨x, hx, e⟩ := List.any_eq_true.mp q
      have e' : x.1 = p.1 := by simpa using e
      rw [List.map_append, List.nodup_append] at h
      exact h.2.2 x.1 (List.mem_map_of_mem hx) p.1 (by simp) e'
    have := ih (acc ++ [p]) (by simpa using h)
    unfold merged at this ⊢
    rw [List.foldl_cons, hst, this]; simp

theorem repD_of {V s} : ∀ {es : List DictEntry} {kvv : List (Str × Value)} {kvs : List (List Nat × D)}, Pairs (strKind c.prog c.w) es kvv → (∀ e ∈ es, ∃ k, (strKind c.prog c.w).is k e.key = true ∧ e.hash = (strKind c.prog c.w).hash k) →
    kvv.map (·.1) = kvs.map (fun p => S p.1) → RepL c V s (kvs.map (·.2)) (kvv.map (·.2)) → RepD c V s kvs es
  | _, _, [], .nil, _, _, _ => .nil
  | _, _, (x, d) :: kvs, .cons (e := e) hk hv hp, hh, hn, hr => by
    simp only [List.map_cons, List.cons.injEq] at hn
    cases hr with
    | cons r rs =>
      obtain ⟨t, et⟩ := (isStrOf_iff c).mp hk
      obtain ⟨k', hk', hhash⟩ := hh e (.head _)
      obtain ⟨t', et'⟩ := (isStrOf_iff c).mp hk'
      rw [hn.1] at et
      rw [et] at et'
      injection et' with et'
      refine .cons et (by rw [hhash, ← et']; rfl) (hv ▸ r) (repD_of hp (fun e he => hh e (.tail _ he)) hn.2 rs)
  | _, _, [], .cons .., _, hn, _ => nomatch hn
  | _, _, _ :: _, .nil, _, hn, _ => nomatch hn

theorem Ev.dict {ks : List (Option Expr)} {vs : List Expr} {pos : Pos} {kvs : List (List Nat × D)} (h : EvP c n sc true ρ ks vs kvs) (hne : kvs ≠ []) (hlen : kvs.length ≤ 15) (hnd : (kvs.map (·.1)).Nodup) : Ev c n sc k ρ (.Dict ks vs pos) (.dict kvs) :=
  Ev.weak <| .mk fun A env V0 h0 Cs X s hA F => by
    have hsh := h.shape pos env
    refine wpAny_with_toks (Nat.le_refl _) (wpAny_Dict_pairs (knd := strKind c.prog c.w) hsh.1 (fun q => hne (List.length_eq_zero_iff.mp (by rw [← hsh.2, q]; rfl))) (by rw [hsh.2]; exact hlen) ?_)
    have g0 := Gr.push (s := s) { cls := .type "dict", data := .dict #[] }
    have hnone := get_size s.heap
    have hd0 : (s.heap.push { cls := .type "dict", data := .dict #[] }).get? s.heap.objs.size = some { cls := .type "dict", data := .dict #[] } := Heap.get?_push_size _ rfl
    refine wpAny_mono (h.wp pos hA (F.addV hnone g0 ⟨_, hd0⟩)) (fun ps s₁ q => ?_) fun _ _ q => fun _ => q
    obtain ⟨g, kvv, hc, hk, hr⟩ := q
    refine ⟨kvv, hc, ⟨_, #[], 0, g.keep _ _ hd0, ⟨rfl, rfl, rfl⟩, rfl, fun e he => by simp at he, .nil, .nil⟩, fun h' hdo hs' => fun ht => ?_⟩
    have hkeep : Keeps s.heap h' := fun b o e => (hs'.2 b fun q => by rw [q, hnone] at e; cases e).trans (g.keep _ _ (g0.keep _ _ e))
    have hndv : (kvv.map (·.1)).Nodup := by
      rw [hk]
      have : ∀ l : List (List Nat × D), (l.map (·.1)).Nodup → (l.map fun p => S p.1).Nodup := by
        intro l hl
        induction l with
        | nil => exact .nil
        | cons x l ih =>
          rw [List.map_cons, List.nodup_cons] at hl ⊢
          refine ⟨fun q => ?_, ih hl.2⟩
          obtain ⟨y, hy, e⟩ := List.mem_map.mp q
          exact hl.1 (List.mem_map.mpr ⟨y, hy, S_inj e⟩)
      exact this kvs hnd
    rw [merged_nodup [] (by simpa using hndv), List.nil_append] at hdo
    obtain ⟨o, es, ep, ho, hx, hdt, hkeys, hpairs, _⟩ := hdo
    have hlive := ((F.st true).live)
    have hvn : ¬ VK true V0 X s.heap.objs.size := fun q => by obtain ⟨o', e⟩ := hlive _ q; rw [hnone] at e; cases e
    have hsys : (s.heap.objs.size == sysModules) = false := by
      obtain ⟨_, _, _, e, _⟩ := (F.good.g.keeps F.base).keeps F.keep
      have := Heap.lt_size e
      have h3 : (3 : Nat) < s.heap.objs.size := this
      have : s.heap.objs.size ≠ (1 : Nat) := by omega
      simpa [sysModules] using this
    refine ⟨⟨hkeep, ht, g.gens, g.os⟩, .dict hvn hsys ho hx hdt (repD_of hpairs (fun e he => hkeys e (Array.mem_toList_iff.mp he)) hk ?_)⟩
    refine hr.calm ⟨Nat.le_add_right _ _, fun b o nb e _ => (hs'.2 b fun q => nb ⟨rfl, .inl (.inr q)⟩).trans e⟩ fun a q => ⟨rfl, q.2.imp .inl id⟩

/- text.partition -/
end
end Mine
namespace Mine

theorem code_comp {c : Cx} {A : Around} {s : Shared} {R : Result → Shared → Prop} {elt target iter : Expr} {ifs : List Expr} {scope : Scope} {pos : Pos} {it acc : Value} {env : Env} (I : Nat → Shared → Prop)
    (turn : ∀ n s, I n s → wpAny c.M A (pyNext it) (fun r s₁ => match r with
      | none => R (.ok .next) s₁
      | some v => wpAny c.M A (letOwnedTupleGo target it v) (fun _ s₁' => wpAny c.M A (assign target env v) (fun _ s₂ =>
          wpAny c.M A (forIn ifs true fun c r => if r = true then do let ok ← isTrue c env (eval c env); pure (ForInStep.yield ok) else pure (ForInStep.yield r)) (fun ok s₃ =>
            if ok = true then wpAny c.M A (eval elt env) (fun x s₄ => wpAny c.M A (call (.builtin "list.append") [acc, x]) (fun _ s₅ => ∃ m, m < n ∧ I m s₅) NoE s₄) NoE s₃
            else ∃ m, m < n ∧ I m s₃) NoE s₂) NoE s₁') NoE s₁) NoE s)
    (n : Nat) (h : I n s) : codeAny c.M A (.compLoop (.ListComp elt [⟨target, iter, ifs, 0⟩] scope pos) 0 it acc env) R s := by
  refine codeAny_loop rfl I (fun n s hI => ?_) n h
  show wpAny _ A ((compTurn (.ListComp elt [⟨target, iter, ifs, 0⟩] scope pos) 0 it acc env).onRaise (fun x => do noteFrame x env; theTreesLotGoes x)) _ _ s
  refine wpAny_noted ?_
  rw [compTurn_list]
  refine wpAny_bind (wpAny_standAt (wpAny_bind (wpAny_mono (turn n s hI) (fun r s₁ h₁ => ?_) fun _ _ h' => h'.elim)))
  cases r with
  | none => exact wpAny_pure h₁
  | some v =>
    refine wpAny_bind (wpAny_mono h₁ (fun _ s₁' h₁' => ?_) fun _ _ h' => h'.elim)
    refine wpAny_bind (wpAny_mono h₁' (fun _ s₂ h₂ => wpAny_bind (wpAny_mono h₂ (fun ok s₃ h₃ => ?_) fun _ _ h' => h'.elim)) fun _ _ h' => h'.elim)
    cases ok with
    | true =>
      rw [if_pos rfl] at h₃ ⊢
      refine wpAny_bind (wpAny_bind (wpAny_mono h₃ (fun x s₄ h₄ => wpAny_bind (wpAny_mono h₄ (fun _ s₅ h₅ => wpAny_pure (wpAny_pure ⟨rfl, h₅⟩)) fun _ _ h' => h'.elim)) fun _ _ h' => h'.elim))
    | false =>
      rw [if_neg Bool.false_ne_true] at h₃ ⊢
      exact wpAny_pure ⟨rfl, h₃⟩

theorem ItAt.self {c : Cx} {V s it ds} {A : Around} {E : Value → Shared → Prop} {Q : Value → Shared → Prop} (h : ItAt c V s it ds) (hq : Q (.ref it) s) : wpAny c.M A (pyIter (.ref it)) Q E s := by
  cases h with
  | list h => exact wpAny_pyIter_listiter h hq
  | tuple h => exact wpAny_pyIter_tupleiter h hq
  | range h => exact wpAny_pyIter_rangeiter h hq
  | ascii h => exact wpAny_pyIter_striter_ascii h hq
  | wide h => exact wpAny_pyIter_striter_wide h hq

theorem Obj.dict_mapSeq (o : Obj) (f) : (o.mapSeq f).dict = o.dict ∧ (o.mapSeq f).slots = o.slots := by
  obtain ⟨c, d, dt, sl⟩ := o; cases dt <;> exact ⟨rfl, rfl⟩

/-- a list with one more -/
theorem append_wp {prog : Program} {w : World} {A : Around} {E : Value → Shared → Prop} {s : Shared} {l : Addr} {o : Obj} {items : Array Value} {nn : Nat} {x : Value} {Q : Value → Shared → Prop} (ho : s.heap.get? l = some o) (hc : o.cls = .type "list") (hdc : o.dict = none ∧ o.slots = #[]) (hd : o.data = .seq items nn)
    (hQ : ∀ h' o' n', h'.get? l = some o' → o'.cls = .type "list" → (o'.dict = none ∧ o'.slots = #[]) → o'.data = .seq (items.push x) n' → Heap.SameBut l s.heap h' → Q .none { s with heap := h' }) (hsz : items.size ≤ 16777216) :
    wpAny (model prog w) A (call (.builtin "list.append") [.ref l, x]) Q E s := by
  have hT : s.TypeIs (.ref l) "list" := ⟨o, ho, hc⟩
  obtain ⟨n', hd'⟩ := Obj.data_mapSeq hd (·.push x)
  refine wpAny_call_entry slot_list_append hT entry_list_append ?_ (args_list_append _ _)
  show wpAny _ _ (updateSeq l (·.push x) >>= fun _ => ret .none) _ _ s
  refine wpAny_bind ?_
  refine wpAny_updateSeq ho hd (wpAny_pure ⟨.none, rfl, hQ _ _ n' (Heap.get?_update_self _ ho (Obj.isFreed_of_seq hd')) ((Obj.cls_mapSeq ..).trans hc) ⟨(Obj.dict_mapSeq ..).1.trans hdc.1, (Obj.dict_mapSeq ..).2.trans hdc.2⟩ hd' (Heap.SameBut.update ..)⟩) (by rw [sizeLine_eq]; exact hsz)

/-- the cells that a comprehension takes along -/
theorem closure_of {scope : Scope} {env : Env} (h : ∀ p ∈ scope.names, p.2 = .free → ∃ a, env.cells.lookup p.1 = some a) :
    ∃ cl, closureFor scope env = pure cl ∧ (∀ p ∈ scope.names, p.2 = .free → cl.lookup p.1 = env.cells.lookup p.1) ∧ (∀ x a, cl.lookup x = some a → env.cells.lookup x = some a) := by
  unfold closureFor
  have key : ∀ (names : List (Str × NameKind)) (acc : List (Str × Addr)), (∀ p ∈ names, p.2 = .free → ∃ a, env.cells.lookup p.1 = some a) → (∀ x a, acc.lookup x = some a → env.cells.lookup x = some a) →
      ∃ cl, (forIn names acc fun (x : Str × NameKind) (cs : List (Str × Addr)) => match x with
        | (name, kind) => if (kind == NameKind.free) = true then do let a ← cellOf env name; pure (ForInStep.yield ((name, a) :: cs)) else pure (ForInStep.yield cs) : Sem (List (Str × Addr))) = pure cl ∧
        (∀ p ∈ names, p.2 = .free → cl.lookup p.1 = env.cells.lookup p.1) ∧ (∀ x a, acc.lookup x = some a → cl.lookup x = some a) ∧ (∀ x a, cl.lookup x = some a → env.cells.lookup x = some a) := by
    intro names
    induction names with
    | nil => intro acc _ ha; exact ⟨acc, rfl, (fun p hp => nomatch hp), fun _ _ q => q, ha⟩
    | cons p r ih =>
      intro acc hn ha
      obtain ⟨name, kind⟩ := p
      rw [List.forIn_cons]
      by_cases hk : kind = .free
      · subst hk
        obtain ⟨a, he⟩ := hn _ (.head _) rfl
        have hc : cellOf env name = pure a := by unfold cellOf; rw [he]
        have hacc : ∀ x b, ((name, a) :: acc).lookup x = some b → env.cells.lookup x = some b := fun x b q => by
          rw [List.lookup_cons] at q
          by_cases hx : x = name
          · subst hx; simp only [beq_self_eq_true] at q; cases q; exact he
          · have : (x == name) = false := by simpa using hx
            rw [this] at q; exact ha x b q
        obtain ⟨cl, e, h1, h2, h3⟩ := ih ((name, a) :: acc) (fun p hp => hn p (.tail _ hp)) hacc
        refine ⟨cl, ?_, fun p hp hf => ?_, fun x b q => ?_, h3⟩
        · simp only [beq_self_eq_true, if_true, hc]
          exact e
        · rcases List.mem_cons.mp hp with rfl | hp
          · rw [he]; exact h2 name a (by simp [List.lookup_cons])
          · exact h1 p hp hf
        · by_cases hx : x = name
          · subst hx
            have hb := ha x b q
            rw [he] at hb; cases hb
            exact h2 x a (by simp [List.lookup_cons])
          · refine h2 x b ?_
            have : (x == name) = false := by simpa using hx
            rw [List.lookup_cons, this]; exact q
      · have hb : (kind == NameKind.free) = false := by simpa using hk
        obtain ⟨cl, e, h1, h2, h3⟩ := ih acc (fun p hp => hn p (.tail _ hp)) ha
        refine ⟨cl, ?_, fun p hp hf => ?_, h2, h3⟩
        · simp only [hb, Bool.false_eq_true, if_false]
          exact e
        · rcases List.mem_cons.mp hp with rfl | hp
          · exact absurd hf hk
          · exact h1 p hp hf
  obtain ⟨cl, e, h1, _, h3⟩ := key scope.names [] h fun _ _ q => by cases q
  refine ⟨cl, ?_, h1, h3⟩
  have := e
  simp only [bind_pure] 
  exact this

/-- a change at a place that nothing of the frame holds -/
theorem Fm.change {c sc env V0 h0 Cs X ρ s} {a : Addr} {h' : Heap} (F : Fm c sc env V0 h0 Cs X ρ s) (ha : V0 a) (hn : h0.get? a = none) (hs : Heap.SameBut a s.heap h') (hl : ∃ o, h'.get? a = some o)
    (hc : ∀ o v, s.heap.get? a = some o → o.data ≠ .cell v) : Fm c sc env V0 h0 Cs X ρ { s with heap := h' } := by
  have hx := (F.live0 a ha).2
  obtain ⟨m, fps, h1, h2, h3, h4, h6, h5⟩ := F.sto
  have hLX : env.locals ∈ X := h2 ▸ .head _
  have ne : ∀ b ∈ X, b ≠ a := fun b hb q => hx (q ▸ hb)
  refine ⟨F.good, F.scope, F.kind, F.globals, F.builtins, F.base, fun b o e => (hs.2 b fun q => by rw [q, hn] at e; cases e).trans (F.keep b o e), F.tok, fun b q => ⟨?_, (F.live0 b q).2⟩, F.ccells, F.new, F.cells, F.cinj,
    m, fps, h1.sameBut hs (ne _ hLX), h2, h3, fun b hb => let ⟨o, e⟩ := h4 b hb; ⟨o, (hs.2 b (ne b hb)).trans e⟩, fun p hp => ?_, ?_⟩
  · by_cases hb : b = a
    · subst hb; exact hl
    · obtain ⟨o, e⟩ := (F.live0 b q).1; exact ⟨o, (hs.2 b hb).trans e⟩
  · obtain ⟨v, o, e, hd⟩ := h6 p hp
    exact ⟨v, o, (hs.2 _ fun q => hc o v (q ▸ e) hd).trans e, hd⟩
  · refine h5.change (s := s) (s' := { s with heap := h' }) ⟨Nat.le_refl _, fun b o nb e _ => (hs.2 b fun q => nb (.inl (q ▸ ha))).trans e⟩ (fun b hb o e => (hs.2 b (ne b (h2 ▸ .tail _ (List.mem_append_right _ hb)))).trans e) (fun _ _ _ => rfl)
      fun p _ b o w _ e hw => (hs.2 b fun q => hc o w (q ▸ e) hw).trans e

noncomputable def relab (sc scope : Scope) : Scope := { scope with names := scope.names.map fun (n, k) => if (k == .free && sc.kind == .function && sc.names.lookup n == some .cell) then (n, .cell) else (n, k) }

theorem relab_go {f : Str × NameKind → Str × NameKind} (h1 : ∀ p, (f p).1 = p.1 ∧ (p.2 = .free → (f p).2 = .cell ∨ (f p).2 = .free)) {x : Str} {names : List (Str × NameKind)} : names.lookup x = some .free →
    (names.map f).lookup x = some .cell ∨ (names.map f).lookup x = some .free := by
  induction names with
  | nil => intro h; cases h
  | cons p r ih =>
    intro h
    obtain ⟨y, k⟩ := p
    rw [List.map_cons]
    have hp := h1 (y, k)
    revert hp
    generalize f (y, k) = q
    intro hp
    obtain ⟨y', k'⟩ := q
    cases (show y' = y from hp.1)
    rw [List.lookup_cons] at h ⊢
    cases hb : x == y with
    | true => rw [hb] at h; exact (hp.2 (Option.some.inj h)).imp (congrArg some) (congrArg some)
    | false => rw [hb] at h; exact ih h
theorem relab_free {sc scope : Scope} {x : Str} {names : List (Str × NameKind)} (h : names.lookup x = some .free) :
    (names.map fun (n, k) => if (k == NameKind.free && sc.kind == .function && sc.names.lookup n == some .cell) then (n, NameKind.cell) else (n, k)).lookup x = some .cell ∨
    (names.map fun (n, k) => if (k == NameKind.free && sc.kind == .function && sc.names.lookup n == some .cell) then (n, NameKind.cell) else (n, k)).lookup x = some .free :=
  relab_go (fun p => by
    dsimp only
    split
    · exact ⟨rfl, fun _ => .inl rfl⟩
    · exact ⟨rfl, fun h => .inr h⟩) h

theorem relab_mem {sc scope : Scope} {x : Str} {k : NameKind} (hk : k = .cell ∨ k = .free) (hnc : ∀ p ∈ scope.names, p.2 ≠ .cell) (h : (relab sc scope).names.lookup x = some k) : (x, NameKind.free) ∈ scope.names := by
  have hm := mem_lookup h
  obtain ⟨p, hp, e⟩ := List.mem_map.mp hm
  obtain ⟨y, ky⟩ := p
  simp only at e
  split at e
  · rename_i hc
    simp only [Bool.and_eq_true, beq_iff_eq] at hc
    injection e with e1 e2
    subst e1
    rw [← hc.1.1]; exact hp
  · injection e with e1 e2
    subst e1 e2
    rcases hk with rfl | rfl
    · exact absurd rfl (hnc _ hp)
    · exact hp

/-- tests of a comprehension -/
structure TstI (c : Cx) (n : Nat) (sc : Scope) (ρ : Sto) (ifs : List Expr) (b : Bool) : Prop where
  run : ∀ A env V0 h0 Cs X s, Room c n A → Fm c sc env V0 h0 Cs X ρ s →
    wpAny c.M A (forIn ifs true fun c r => if r = true then do let ok ← isTrue c env (eval c env); pure (ForInStep.yield ok) else pure (ForInStep.yield r)) (fun r s' => Gr s s' ∧ r = b) NoE s
theorem TstI.one {c n sc ρ e b} (h : Tst c n sc ρ e b) : TstI c n sc ρ [e] b := .mk fun A env V0 h0 Cs X s hA F => wpAny_tests_one (h.run A env V0 h0 Cs X s hA F)

/-- one turn of a comprehension -/
noncomputable def CItem (c : Cx) (n : Nat) (sc : Scope) (ρ : Sto) (tgt : Expr) (ifs : List Expr) (elt : Expr) (d : D) (r : Option D) : Prop :=
  ∃ ρ₁, TgtG false c sc tgt d ρ ρ₁ ∧ SubS ρ ρ₁ ∧ match r with
    | some x => TstI c n sc ρ₁ ifs true ∧ Ev c n sc true ρ₁ elt x
    | none => TstI c n sc ρ₁ ifs false

/-- what a comprehension sees of the names around -/
structure Capt (sc scope : Scope) (ρ ρi : Sto) : Prop where
  kind : scope.kind = .function
  nocell : ∀ p ∈ scope.names, p.2 ≠ .cell
  names : ∀ x ∈ scope.names, x.2 = .local → scope.names.lookup x.1 = some .local
  free : ∀ p ∈ scope.names, p.2 = .free → sc.names.lookup p.1 = some .cell ∨ sc.names.lookup p.1 = some .free
  sto : ∀ p ∈ ρi, ∃ d, p.2 = .val d ∧ ρ.lookup p.1 = some (.val d) ∧ scope.names.lookup (Str.ofString p.1) = some .free ∧ p.1 ≠ "__classdict__"

section
variable {c : Cx} {n : Nat} {sc : Scope} {k : Bool} {ρ : Sto}

theorem StoR.vals {env : Env} {V : Addr → Prop} {s : Shared} {m : Str → Option Value} {ρ fps} (h : StoR c env V s m ρ fps) : (∀ p ∈ ρ, ∃ d, p.2 = .val d) → fps = [] := by
  induction h with
  | nil => exact fun _ => rfl
  | cons _ r _ ih =>
    intro h
    obtain ⟨d, e⟩ := h _ (.head _)
    simp only at e
    subst e
    rw [r.inv.1, ih fun p hp => h p (.tail _ hp)]; rfl

/-- a list that is being filled -/
inductive LstAt (c : Cx) (V : Addr → Prop) (s : Shared) (a : Addr) (ds : List D) : Prop
  | mk (o : Obj) (vs : Array Value) (nn : Nat) (ho : s.heap.get? a = some o) (hc : o.cls = .type "list") (hd : o.dict = none ∧ o.slots = #[]) (hdt : o.data = .seq vs nn) (r : RepL c V s ds vs.toList) : LstAt c V s a ds

theorem ItAt.carry {V V' : Addr → Prop} {s s' : Shared} {it : Addr} {ds : List D} (h : ItAt c V s it ds) (hk : ∀ o, s.heap.get? it = some o → s'.heap.get? it = some o)
    (hl : ∀ l o, ¬ V l → s.heap.get? l = some o → ¬ V' l ∧ s'.heap.get? l = some o) (hr : ∀ {dd vv}, RepL c V s dd vv → RepL c V' s' dd vv) : ItAt c V' s' it ds := by
  cases h with
  | list i1 nl ho hc hd r => obtain ⟨oi, e1, e2⟩ := i1; exact .list ⟨oi, hk _ e1, e2⟩ (hl _ _ nl ho).1 (hl _ _ nl ho).2 hc hd (hr r)
  | tuple i1 nl ho hc hd r => obtain ⟨oi, e1, e2⟩ := i1; exact .tuple ⟨oi, hk _ e1, e2⟩ (hl _ _ nl ho).1 (hl _ _ nl ho).2 hc hd (hr r)
  | range i1 => exact .range (hk _ i1)
  | ascii i1 => obtain ⟨oi, e1, e2⟩ := i1; exact .ascii ⟨oi, hk _ e1, e2⟩
  | wide i1 => obtain ⟨oi, e1, e2⟩ := i1; exact .wide ⟨oi, hk _ e1, e2⟩

/-- where a comprehension has come to -/
structure CJ (c : Cx) (sc : Scope) (E : Env) (Vi : Addr → Prop) (C Dd : Addr) (ρi : Sto) (s : Shared) (xs : List D) (s' : Shared) : Prop where
  gr : Gr s s'
  fm : Fm c sc E Vi s.heap [] [C] ρi s'
  lst : LstAt c (Vol Vi [C]) s' Dd xs

section
variable {sci : Scope} {E : Env} {Vi : Addr → Prop} {C Dd it : Addr} {ρi ρ₁ : Sto} {s s' s₃ s₄ s₅ : Shared} {xs rest : List D} {A : Around} {X₄ : List Addr}

theorem CJ.step (J : CJ c sci E Vi C Dd ρi s xs s') (hi : ItAt c (Vol Vi [C]) s' it rest) (t : ItStep it s' s₃) (hits : s.heap.get? it = none) (hC : it ∉ [C]) (hD : it ≠ Dd) (hV : ¬ Vi it) : CJ c sci E Vi C Dd ρi s xs s₃ :=
  ⟨⟨fun b o e => t.keep b o (fun q => by rw [q, hits] at e; cases e) (J.gr.keep b o e), Nat.le_trans J.gr.tok t.tok, t.gens.trans J.gr.gens, t.os.trans J.gr.os⟩, J.fm.it hi hC hits hV t,
   let ⟨o, vs, nn, h1, h2, h3, h4, h5⟩ := J.lst; ⟨o, vs, nn, t.keep _ _ (Ne.symm hD) h1, h2, h3, h4, h5.calm (t.calm hi _) fun _ q => q⟩⟩

theorem CJ.back (J : CJ c sci E Vi C Dd ρi s xs s₃) (hρ : ∀ p ∈ ρi, ∃ d, p.2 = .val d) (hCs : s.heap.get? C = none) (hDC : Dd ≠ C) (g₄ : Stp [C] s₃ X₄ s₄) (F₄ : Fm c sci E Vi s.heap [] X₄ ρ₁ s₄) (hsub : SubS ρi ρ₁) (g₅ : Gr s₄ s₅) : CJ c sci E Vi C Dd ρi s xs s₅ ∧ Stp [C] s₃ [C] s₅ := by
  obtain ⟨X₅, hX₅, F₅⟩ := Ent.sub (c := c) (sc := sci) hsub E Vi s.heap [] X₄ s₅ (F₄.gr g₅)
  have hfps : X₅ = [E.locals] := by
    obtain ⟨_, fps, _, h2, _, _, _, h5⟩ := F₅.sto
    rw [h2, h5.vals hρ]; rfl
  have hE : [C] = [E.locals] := by
    obtain ⟨_, fps, _, h2, _, _, _, h5⟩ := J.fm.sto
    rw [h2, h5.vals hρ]; rfl
  rw [hfps, ← hE] at F₅ hX₅
  have g45 : Stp [C] s₃ [C] s₅ := (g₄.trans (Stp.of_gr g₅)).sub' hX₅
  refine ⟨⟨⟨fun b o e => g45.keep b o (fun q => by rw [List.mem_singleton.mp q, hCs] at e; cases e) (J.gr.keep b o e), Nat.le_trans J.gr.tok g45.tok, g45.gens.trans J.gr.gens, g45.os.trans J.gr.os⟩, F₅, ?_⟩, g45⟩
  obtain ⟨o, vs, nn, h1, h2, h3, h4, h5⟩ := J.lst
  exact ⟨o, vs, nn, g45.keep _ _ (fun q => hDC (List.mem_singleton.mp q)) h1, h2, h3, h4, h5.stp g45⟩

/-- one more in the list -/
theorem CJ.push {x : Value} {r : D} {P : Shared → Prop} (J : CJ c sci E Vi C Dd ρi s xs s') (hi : ItAt c (Vol Vi [C]) s' it rest) (hD : it ≠ Dd) (hDV : Vi Dd) (hDs : s.heap.get? Dd = none) (hz : xs.length ≤ 16777216) (rx : Rep c (Vol Vi [C]) s' r x)
    (hP : ∀ s₅, CJ c sci E Vi C Dd ρi s (xs ++ [r]) s₅ → ItAt c (Vol Vi [C]) s₅ it rest → P s₅) : wpAny c.M A (call (.builtin "list.append") [.ref Dd, x]) (fun _ s₅ => P s₅) NoE s' := by
  refine hideG fun G K => ?_
  obtain ⟨o, vs, nn, h1, h2, h3, h4, h5⟩ := J.lst
  refine K (append_wp h1 h2 h3 h4 (fun h' o' n' a1 a2 a3 a4 a5 => ?_) ?_)
  · have hcm : Calm (Vol Vi [C]) s' { s' with heap := h' } := ⟨Nat.le_refl _, fun b ob nb e _ => (a5.2 b fun q => nb (.inl (q ▸ hDV))).trans e⟩
    refine hP _ ⟨⟨fun b ob e => (a5.2 b fun q => by rw [q, hDs] at e; cases e).trans (J.gr.keep b ob e), J.gr.tok, J.gr.gens, J.gr.os⟩, J.fm.change hDV hDs a5 ⟨_, a1⟩ (fun ob w e hw => by rw [h1] at e; cases e; rw [h4] at hw; cases hw), o', vs.push x, n', a1, a2, a3, a4, ?_⟩ ?_
    · have := (h5.append (.cons rx .nil)).calm hcm fun _ q => q
      simpa using this
    · exact hi.carry (fun o e => (a5.2 _ hD).trans e) (fun l o nl e => ⟨nl, (a5.2 l fun q => nl (.inl (q ▸ hDV))).trans e⟩) fun r => r.calm hcm fun _ q => q
  · have := h5.length; simp only [Array.length_toList] at this; rw [← this]; exact hz

/-- how far it has come -/
inductive CIn (c : Cx) (sc : Scope) (E : Env) (Vi : Addr → Prop) (C Dd it : Addr) (ρi : Sto) (s : Shared) {α : Type} (g : α → D) (f : α → Option D) (ds : List α) (k : Nat) (s' : Shared) : Prop
  | mk (done rest : List α) (hds : ds = done ++ rest) (hk : k = rest.length) (J : CJ c sc E Vi C Dd ρi s (done.filterMap f) s') (hi : ItAt c (Vol Vi [C]) s' it (rest.map g)) : CIn c sc E Vi C Dd it ρi s g f ds k s'

theorem comp_turn {α : Type} {g : α → D} {f : α → Option D} {ds : List α} {tgt elt : Expr} {ifs : List Expr} {R : Result → Shared → Prop} (hA : Room c n A) (hn : c.hn) (hz : ds.length ≤ 16777216) (item : ∀ d ∈ ds, CItem c n sci ρi tgt ifs elt (g d) (f d)) (hρ : ∀ p ∈ ρi, ∃ d, p.2 = .val d)
    (hits : s.heap.get? it = none) (hDs : s.heap.get? Dd = none) (hCs : s.heap.get? C = none) (hDC : Dd ≠ C) (hC : it ∉ [C]) (hD : it ≠ Dd) (hV : ¬ Vi it) (hDV : Vi Dd)
    (fin : ∀ s', CJ c sci E Vi C Dd ρi s (ds.filterMap f) s' → R (.ok .next) s') {k : Nat} (I : CIn c sci E Vi C Dd it ρi s g f ds k s') :
    wpAny c.M A (pyNext (.ref it)) (fun r s₁ => match r with
      | none => R (.ok .next) s₁
      | some v => wpAny c.M A (letOwnedTupleGo tgt (.ref it) v) (fun _ s₁' => wpAny c.M A (assign tgt E v) (fun _ s₂ =>
          wpAny c.M A (forIn ifs true fun c r => if r = true then do let ok ← isTrue c E (eval c E); pure (ForInStep.yield ok) else pure (ForInStep.yield r)) (fun ok s₃ =>
            if ok = true then wpAny c.M A (eval elt E) (fun x s₄ => wpAny c.M A (call (.builtin "list.append") [.ref Dd, x]) (fun _ s₅ => ∃ m, m < k ∧ CIn c sci E Vi C Dd it ρi s g f ds m s₅) NoE s₄) NoE s₃
            else ∃ m, m < k ∧ CIn c sci E Vi C Dd it ρi s g f ds m s₃) NoE s₂) NoE s₁') NoE s₁) NoE s' := by
  refine hideG fun G K => ?_
  obtain ⟨done, rest, hds, hk, J, hi⟩ := I
  cases rest with
  | nil => exact K (wpAny_mono (ItAt.stop (hA.handled hn) hi) (fun r s₃ q => by
      rw [q.1]; exact fin s₃ (by rw [hds, List.append_nil]; exact J.step hi q.2 hits hC hD hV)) fun _ _ q => q)
  | cons d rest =>
    refine K (wpAny_mono (ItAt.next hi) (fun r s₃ q => ?_) fun _ _ q => q)
    refine hideG fun G K => ?_
    obtain ⟨v, hr, rv, hi₃, t⟩ := q
    have J₃ := J.step hi t hits hC hD hV
    obtain ⟨ρ₁, htg, hsub, hm⟩ := item d (hds ▸ List.mem_append_right _ (.head _))
    subst hr
    refine K (lotg hi₃ (wpAny_mono (htg.run A E Vi s.heap [] [C] s₃ v hA.zero (fun q => nomatch q) J₃.fm rv) (fun _ s₄ q => ?_) fun _ _ q => q))
    refine hideG fun G K => ?_
    obtain ⟨X₄, g₄, F₄⟩ := q
    have hds' : ds = (done ++ [d]) ++ rest := by rw [hds, List.append_assoc]; rfl
    have hlt : rest.length < k := hk ▸ Nat.lt_succ_self _
    have end' : ∀ s₅, CJ c sci E Vi C Dd ρi s ((done ++ [d]).filterMap f) s₅ → ItAt c (Vol Vi [C]) s₅ it (rest.map g) → ∃ m, m < k ∧ CIn c sci E Vi C Dd it ρi s g f ds m s₅ := fun s₅ J₅ hi₅ => ⟨_, hlt, done ++ [d], rest, hds', rfl, J₅, hi₅⟩
    have hfm : (done ++ [d]).filterMap f = done.filterMap f ++ (f d).toList := by rw [List.filterMap_append]; cases e : f d <;> simp [e]
    rw [hfm] at end'
    cases hf : f d with
    | none =>
      rw [hf] at hm end'
      refine K (wpAny_mono (TstI.run hm A _ _ _ _ _ s₄ hA F₄) (fun ok s₅ q => ?_) fun _ _ q => q)
      rw [q.2, if_neg Bool.false_ne_true]
      have b := J₃.back hρ hCs hDC g₄ F₄ hsub q.1
      exact end' s₅ (by rw [Option.toList_none, List.append_nil]; exact b.1) (hi₃.stp hC b.2)
    | some r =>
      rw [hf] at hm end'
      refine K (wpAny_mono (hm.1.run A _ _ _ _ _ s₄ hA F₄) (fun ok s₅ q => ?_) fun _ _ q => q)
      rw [q.2, if_pos rfl]
      refine wpAny_mono (hm.2.run A _ _ _ _ _ s₅ hA (F₄.gr q.1)) (fun x s₆ q' => ?_) fun _ _ q => q
      have b := J₃.back hρ hCs hDC g₄ F₄ hsub (q.1.trans q'.1)
      refine b.1.push (hi₃.stp hC b.2) hD hDV hDs (Nat.le_trans (List.length_filterMap_le f done) (Nat.le_trans (by rw [hds, List.length_append]; exact Nat.le_add_right _ _) hz)) (q'.2.weak fun a q => ⟨rfl, q.imp id fun q => ?_⟩) end'
      obtain ⟨_, _, _, h2, _⟩ := F₄.sto
      obtain ⟨_, _, _, h2', _⟩ := J.fm.sto
      rw [List.mem_singleton.mp q, h2, (List.cons.inj h2').1]; exact .head _
end

/-- the frame of a comprehension -/
theorem capt_fm {scope : Scope} {ρi : Sto} {env : Env} {V0 : Addr → Prop} {h0 : Heap} {Cs : List (Str × Addr)} {X : List Addr} {s s₂ s₃ : Shared} {cl : List (Str × Addr)} {C Dd : Addr}
    (F : Fm c sc env V0 h0 Cs X ρ s) (g12 : Gr s s₂) (hc : Capt sc scope ρ ρi) (hclf : ∀ p ∈ scope.names, p.2 = .free → cl.lookup p.1 = env.cells.lookup p.1) (hcle : ∀ x a, cl.lookup x = some a → env.cells.lookup x = some a)
    (g23 : Gr s₂ s₃) (hDn : s₂.heap.get? Dd = none) (hCn : s₂.heap.get? C = none) (hDC : Dd ≠ C) (hDh : ∃ o, s₃.heap.get? Dd = some o) (hns : s₃.heap.Ns C fun x => ([] : List (Str × Value)).reverse.lookup x) :
    Fm c (relab sc scope) (compEnvC scope cl C env) (fun a => Vol V0 X a ∨ a = Dd) s.heap [] [C] ρi s₃ := by
  have hF2 := F.gr g12
  have g13 := g12.trans g23
  have hCs : s.heap.get? C = none := (by
    cases e : s.heap.get? C with
    | none => rfl
    | some o => have := g12.keep _ _ e; rw [hCn] at this; cases this)
  have hlv := (F.st true).live
  refine ⟨F.good, ?_, hc.kind, F.globals, F.builtins, F.base.trans F.keep, g13.keep, (hF2.gr g23).tok, fun a q => ?_, fun x hx => ?_, fun a ha => (by rw [List.mem_singleton.mp ha]; exact hCs), (fun _ _ q => nomatch q), fun x y a hx hy => F.cinj _ _ _ (hcle _ _ hx) (hcle _ _ hy), ⟨_, [], hns, rfl, by simp, fun a ha => ?_, (fun p hp => nomatch hp), ?_⟩⟩
  · show relabel scope env = relab sc scope
    unfold relabel relab
    rw [← F.scope]; rfl
  · rcases q with q | q
    · obtain ⟨o, e⟩ := hlv a ⟨rfl, q⟩
      exact ⟨⟨o, g13.keep _ _ e⟩, fun q' => by rw [List.mem_singleton.mp q', hCs] at e; cases e⟩
    · rw [q]; exact ⟨hDh, fun q' => hDC (List.mem_singleton.mp q')⟩
  · have hm := hx.elim (fun h => relab_mem (.inl rfl) hc.nocell h) fun h => relab_mem (.inr rfl) hc.nocell h
    obtain ⟨a, ha⟩ := F.ccells _ (hc.free _ hm rfl)
    exact ⟨a, (hclf _ hm rfl).trans ha⟩
  · rw [List.mem_singleton.mp ha]
    obtain ⟨o, es, ep, e, hd, _⟩ := hns
    exact ⟨o, e⟩
  · -- the captured names
    obtain ⟨m, fps, hn, hXX, hnd, hlv, hcel, hst⟩ := F.sto
    have key : ∀ (r : Sto), (∀ p ∈ r, p ∈ ρi) → StoR c (compEnvC scope cl C env) (Vol (fun a => Vol V0 X a ∨ a = Dd) [C]) s₃ (fun x => ([] : List (Str × Value)).reverse.lookup x) r [] := by
      intro r
      induction r with
      | nil => intro _; exact .nil
      | cons p r ih =>
        intro hp
        obtain ⟨x, sl⟩ := p
        obtain ⟨d, hd, hl, hfr, hcd⟩ := hc.sto _ (hp _ (.head _))
        simp only at hd hl hfr hcd
        subst hd
        obtain ⟨v, fp, lo, rp, _⟩ := hst.get hl
        have hm := mem_lookup hfr
        refine .cons (fp := []) (v := v) ?_ (.val ?_) (ih fun p hp' => hp p (.tail _ hp'))
        · cases lo with
          | loc h1 _ =>
            have h1' : sc.names.lookup (Str.ofString x) = some .local := by rw [← F.scope]; exact h1
            have hkk := hc.free _ hm rfl
            rw [h1'] at hkk
            exact hkk.elim (fun q => nomatch q) fun q => nomatch q
          | cell h1 h2 h3 h4 =>
            have hrl : (relabel scope env).names.lookup (Str.ofString x) = some .cell ∨ (relabel scope env).names.lookup (Str.ofString x) = some .free := relab_free (sc := env.scope) (scope := scope) hfr
            exact .cell (hrl.imp id fun q => ⟨q, hcd⟩) ((hclf _ hm rfl).trans h2) (g13.keep _ _ h3) h4
        · refine rp.inv.2.mapA ⟨rfl, rfl⟩ fun a o na e _ => ⟨fun q => ?_, g13.keep _ _ e⟩
          have e2 := g12.keep _ _ e
          rcases q with (q | q) | q
          · exact na q
          · rw [q, hDn] at e2; cases e2
          · rw [List.mem_singleton.mp q, hCn] at e2; cases e2
    exact key ρi fun _ h => h

theorem comp_loop {elt tgt iter : Expr} {ifs : List Expr} {scope : Scope} {pos : Pos} {α : Type} {g : α → D} {ds : List α} {f : α → Option D} {ρi : Sto} {R : Result → Shared → Prop} {E' : Value → Shared → Prop} {A : Around} {env : Env} {V0 : Addr → Prop} {h0 : Heap} {Cs : List (Str × Addr)} {X : List Addr} {s s₂ s₃ : Shared} {cl : List (Str × Addr)} {C Dd it : Addr}
    (hA : Room c n A) (hn : c.hn) (F : Fm c sc env V0 h0 Cs X ρ s) (g12 : Gr s s₂) (hc : Capt sc scope ρ ρi) (hclf : ∀ p ∈ scope.names, p.2 = .free → cl.lookup p.1 = env.cells.lookup p.1) (hcle : ∀ x a, cl.lookup x = some a → env.cells.lookup x = some a)
    (hz : ds.length ≤ 16777216) (item : ∀ d ∈ ds, CItem c n (relab sc scope) ρi tgt ifs elt (g d) (f d))
    (g23 : Gr s₂ s₃) (hDn : s₂.heap.get? Dd = none) (hCn : s₂.heap.get? C = none) (hDC : Dd ≠ C) (hDh : s₃.heap.get? Dd = some { cls := .type "list", dict := none, data := .seq ([] : List Value).toArray }) (hns : s₃.heap.Ns C fun x => ([] : List (Str × Value)).reverse.lookup x)
    (hits : s.heap.get? it = none) (hi : ItAt c (Vol V0 X) s₂ it (ds.map g)) 
    (fin : ∀ s', s.heap.get? Dd = none → s.heap.get? C = none → CJ c (relab sc scope) (compEnvC scope cl C env) (fun a => Vol V0 X a ∨ a = Dd) C Dd ρi s (ds.filterMap f) s' → R (.ok .next) s') :
    wpAny c.M A (pyIter (.ref it)) (fun it' s' => codeAny c.M A (.compLoop (.ListComp elt [⟨tgt, iter, ifs, 0⟩] scope pos) 0 it' (.ref Dd) (compEnvC scope cl C env)) R s') E' s₃ ∧
    codeAny c.M A (.compLoop (.ListComp elt [⟨tgt, iter, ifs, 0⟩] scope pos) 0 (.ref it) (.ref Dd) (compEnvC scope cl C env)) R s₃ := by
  have none_of : ∀ a, s₂.heap.get? a = none → s.heap.get? a = none := fun a h => by
    cases e : s.heap.get? a with
    | none => rfl
    | some o => have := g12.keep _ _ e; rw [h] at this; cases this
  have hlv := (F.st true).live
  have hDs := none_of _ hDn
  have hCs := none_of _ hCn
  have hitalive : ∃ o, s₂.heap.get? it = some o := let ⟨o, _, _, e, _⟩ := hi.fields; ⟨o, e⟩
  have hitD : it ≠ Dd := fun q => by obtain ⟨o, e⟩ := hitalive; rw [q, hDn] at e; cases e
  have hitC : it ∉ [C] := fun q => by obtain ⟨o, e⟩ := hitalive; rw [List.mem_singleton.mp q, hCn] at e; cases e
  have hitV : ¬ (Vol V0 X it ∨ it = Dd) := fun q => q.elim (fun q => by obtain ⟨o, e⟩ := hlv it ⟨rfl, q⟩; rw [hits] at e; cases e) hitD
  have J : CJ c (relab sc scope) (compEnvC scope cl C env) (fun a => Vol V0 X a ∨ a = Dd) C Dd ρi s (([] : List α).filterMap f) s₃ := ⟨g12.trans g23, capt_fm F g12 hc hclf hcle g23 hDn hCn hDC ⟨_, hDh⟩ hns, _, _, 0, hDh, rfl, ⟨rfl, rfl⟩, rfl, .nil⟩
  have hi₃ : ItAt c (Vol (fun a => Vol V0 X a ∨ a = Dd) [C]) s₃ it (ds.map g) := by
    have na : ∀ (a : Addr) (o : Obj), ¬ Vol V0 X a → s₂.heap.get? a = some o → ¬ Vol (fun a => Vol V0 X a ∨ a = Dd) [C] a ∧ s₃.heap.get? a = some o := fun a o na e => ⟨fun q => (by
      rcases q with (q | q) | q
      · exact na q
      · rw [q, hDn] at e; cases e
      · rw [List.mem_singleton.mp q, hCn] at e; cases e), g23.keep _ _ e⟩
    exact hi.carry (fun o e => g23.keep _ _ e) na fun r => r.mapA ⟨rfl, rfl⟩ fun a o n e _ => na a o n e
  have loop := code_comp (c := c) (A := A) (iter := iter) (scope := scope) (pos := pos) (R := R) (CIn c (relab sc scope) (compEnvC scope cl C env) (fun a => Vol V0 X a ∨ a = Dd) C Dd it ρi s g f ds)
    (fun k s' I => comp_turn hA hn hz item (fun p hp => let ⟨d, e, _⟩ := hc.sto p hp; ⟨d, e⟩) hits hDs hCs hDC hitC hitD hitV (.inr rfl) (fun s' J => fin s' hDs hCs J) I) ds.length ⟨[], ds, rfl, rfl, J, hi₃⟩
  exact ⟨hi₃.self loop, loop⟩

theorem comp_core {elt tgt iter : Expr} {ifs : List Expr} {scope : Scope} {pos p : Pos} {d₀ : D} {α : Type} {g : α → D} {ds : List α} {f : α → Option D} {ρi : Sto} {use : Option (Value → Sem Unit)} {A : Around} {env : Env} {V0 : Addr → Prop} {h0 : Heap} {Cs : List (Str × Addr)} {X : List Addr} {s : Shared}
    {Q : Value → Shared → Prop}
    (hA : Room c n A) (F : Fm c sc env V0 h0 Cs X ρ s) (he : Ev c n sc true ρ iter d₀) (hit : IterR c d₀ (ds.map g)) (hc : Capt sc scope ρ ρi) (hz : ds.length ≤ 16777216)
    (item : ∀ d ∈ ds, CItem c n (relab sc scope) ρi tgt ifs elt (g d) (f d)) (hs : ∀ (env : Env) x, foldedSetIterable iter env x = pure x)
    (fin : ∀ Dd C E s', s.heap.get? Dd = none → s.heap.get? C = none → Dd ≠ C → CJ c (relab sc scope) E (fun a => Vol V0 X a ∨ a = Dd) C Dd ρi s (ds.filterMap f) s' → compPost c.M A NoE use Q (.ref Dd) C (.ok .next) s') (hn : c.hn := by assumption) :
    wpAny c.M A (comprehension (.ListComp elt [⟨tgt, iter, ifs, 0⟩] scope pos) scope env p (newList []) false (eval iter env) use) Q NoE s := by
  refine hideG fun G K => ?_
  obtain ⟨cl, hcl, hclf, hcle⟩ := closure_of (scope := scope) (env := env) fun p hp hf => F.ccells _ (hc.free p hp hf)
  refine K (wpAny_comprehension_free (use := use) rfl (hs env) hcl hc.kind hc.names (wpAny_mono (he.run A env V0 h0 Cs X s hA F) (fun xv s₁ q₁ => ?_) fun _ _ q => q))
  refine wpAny_mono (hit A _ s₁ xv hA.zero ((F.st true).gr q₁.1) q₁.2) (fun itv s₂ q₂ => ?_) fun _ _ q => q
  refine hideG fun G K => ?_
  obtain ⟨g₂, it, rfl, hitn, hi⟩ := q₂
  have hV : VK true V0 X = Vol V0 X := by funext a; simp [VK]
  rw [hV] at hi
  have hits : s.heap.get? it = none := by
    cases e : s.heap.get? it with
    | none => rfl
    | some o => have := q₁.1.keep _ _ e; rw [hitn] at this; cases this
  -- the list to be filled
  refine K (wpAny_newObj_type (wpAny_newFunctionEnv hc.nocell (fun _ h => nomatch h) (fun h₁ hns₁ hsb₁ => ?_) hc.kind))
  have hk0 : Keeps s₂.heap (s₂.heap.push { cls := .type "list", dict := none, data := .seq ([] : List Value).toArray }) := fun b o e => Heap.get?_push_of_some _ e
  have hCn : s₂.heap.get? (s₂.heap.push { cls := .type "list", dict := none, data := .seq ([] : List Value).toArray }).objs.size = none := by
    cases e : s₂.heap.get? (s₂.heap.push { cls := .type "list", dict := none, data := .seq ([] : List Value).toArray }).objs.size with
    | none => rfl
    | some o => have := hk0 _ _ e; rw [get_size] at this; cases this
  have hDC : s₂.heap.objs.size ≠ (s₂.heap.push { cls := .type "list", dict := none, data := .seq ([] : List Value).toArray }).objs.size := by rw [Heap.size_push]; exact Nat.ne_of_lt (Nat.lt_succ_self _)
  have l := comp_loop (s₃ := { s₂ with heap := h₁, toks := s₂.toks + ([] : List (Str × Value)).length }) (elt := elt) (iter := iter) (pos := pos) (R := compPost c.M A NoE use Q (.ref s₂.heap.objs.size) (s₂.heap.push { cls := .type "list", dict := none, data := .seq ([] : List Value).toArray }).objs.size)
    (E' := notedBy c.M A (compEnvC scope cl (s₂.heap.push { cls := .type "list", dict := none, data := .seq ([] : List Value).toArray }).objs.size env) fun x s' => compPost c.M A NoE use Q (.ref s₂.heap.objs.size) (s₂.heap.push { cls := .type "list", dict := none, data := .seq ([] : List Value).toArray }).objs.size (.error x) s')
    hA hn F (q₁.1.trans g₂) hc hclf hcle hz item
    ⟨fun b o e => (hsb₁.2 b fun q => by rw [q, hCn] at e; cases e).trans (Heap.get?_push_of_some _ (hk0 b o e)), Nat.le_add_right _ _, rfl, rfl⟩ (get_size _) hCn hDC ((hsb₁.2 _ hDC).trans (Heap.get?_push_of_some _ (Heap.get?_push_size _ rfl))) hns₁ hits hi (fun s' h1 h2 J => fin _ _ _ s' h1 h2 hDC J)
  exact codeAny_compStart_list l.2 l.1


theorem Ev.comp {elt tgt iter : Expr} {ifs : List Expr} {scope : Scope} {pos : Pos} {d₀ : D} {α : Type} {g : α → D} {ds : List α} (f : α → Option D) (ρi : Sto) (he : Ev c n sc true ρ iter d₀) (hit : IterR c d₀ (ds.map g)) (hc : Capt sc scope ρ ρi) (hz : ds.length ≤ 16777216)
    (item : ∀ d ∈ ds, CItem c n (relab sc scope) ρi tgt ifs elt (g d) (f d)) (hs : ∀ (env : Env) x, foldedSetIterable iter env x = pure x := by intro _ _; rfl) (hn : c.hn := by assumption) : Ev c n sc k ρ (.ListComp elt [⟨tgt, iter, ifs, 0⟩] scope pos) (.list (ds.filterMap f)) :=
  Ev.weak <| .mk fun A env V0 h0 Cs X s hA F => by
    rw [eval_ListComp]
    refine comp_core hA F he hit hc hz item hs fun Dd C E s' hD hC hDC J => ?_
    obtain ⟨m, _, hm, _⟩ := J.fm.sto
    obtain ⟨o, vs, nn, l1, l2, l3, l4, l5⟩ := J.lst
    have hlv := (F.st true).live
    have hEC : E.locals = C := by
      obtain ⟨_, _, _, h2, _⟩ := J.fm.sto
      exact (List.cons.inj h2).1.symm
    rw [hEC] at hm
    refine ⟨m, hm, fun h' hs' => ⟨⟨fun b ob e => (hs'.2 b fun q => by rw [q, hC] at e; cases e).trans (J.gr.keep b ob e), J.gr.tok, J.gr.gens, J.gr.os⟩, .list (fun q => ?_) ((hs'.2 _ hDC).trans l1) l2 l3 l4 ?_⟩⟩
    · obtain ⟨o', e⟩ := hlv _ q; rw [hD] at e; cases e
    · exact l5.calm (s := s') (s' := { s' with heap := h' }) ⟨Nat.le_refl _, fun b ob nb e _ => (hs'.2 b fun q => nb (.inr (List.mem_singleton.mpr q))).trans e⟩ fun a q => .inl (.inl q.2)

end
end Mine
namespace Mine

section
variable {c : Cx} {n : Nat} {sc : Scope} {k : Bool} {ρ : Sto}

theorem St.new {V s} (h : St c V s) : ¬ V s.heap.objs.size := fun q => by obtain ⟨o', e⟩ := h.live _ q; rw [get_size] at e; cases e

theorem FnR.range1 {b : Int} : FnR c n (.type "range") [.int b] (.range 0 b 1) := .mk fun A V s vs hA hS r => by
  cases r with
  | cons r rs => cases rs; obtain ⟨_, rfl⟩ := r.inv
                 exact wp_end (call_range_1 ⟨fun _ _ e => Heap.get?_push_of_some _ e, rfl, rfl, fun _ => .range hS.new (Heap.get?_push_size _ rfl)⟩)
theorem FnR.lenL {ds : List D} (h : ds.length ≤ 16777216) : FnR c n (.builtin "len") [.list ds] (.int ds.length) := .mk fun A V s vs _ _ r => by
  cases r with
  | cons r rs =>
      cases rs
      replace r := r.inv
      obtain ⟨a, o, vs, nn, rfl, na, ho, hcl, hd, hdt, r⟩ := r
      have hl := r.length
      simp only [Array.length_toList] at hl
      refine wp_end (PySem.Calls.call_len_list ⟨o, ho, hcl, nn, hdt⟩ (by omega) ⟨fun _ _ e => e, rfl, rfl, fun _ => ?_⟩)
      rw [hl]; exact .int _ _

/-- a, b = .. (no display on the right) -/
theorem Sx.assignT {ts : List Expr} {kk : Nat} {tp pos : Pos} {e : Expr} {d : D} {ρ₂ : Sto} (h : Ev c n sc true ρ e d) (ht : TgtR c sc (.Tuple ts kk tp) d ρ ρ₂)
    (hs : ∀ env : Env, swapsWithSole [.Tuple ts kk tp] e pos.line env = pure false := by intro _; rfl)
    (hw : ∀ env : Env, swappedStores [.Tuple ts kk tp] e env = pure none := by intro _; rfl) : Sn c n sc ρ (.Assign [.Tuple ts kk tp] e pos) ρ₂ := .mk fun A env V0 h0 Cs X s hA hO F =>
  Assign_Tuple (wpAny_mono (h.run A env V0 h0 Cs X s hA F) (fun v s₁ q => wpAny_mono (ht.run A env V0 h0 Cs X s₁ v hA.zero (fun _ => hO.own) (F.gr q.1) (q.2.weak fun _ q => ⟨rfl, q⟩)) (fun _ s₂ q₂ => by
    obtain ⟨X', g, F'⟩ := q₂
    exact ⟨X', ρ₂, .next, (Stp.of_gr q.1).trans g, F', .next, rfl, rfl⟩) fun _ _ q => q) fun _ _ q => q) (hs env) (hw env)

end
end Mine
namespace Mine

/-- the i-th statement of the text's top, a def -/
noncomputable def fnAt (p : Program) (i : Nat) : Scope × List Stmt := match p.main.body[i]? with
  | some (.FunctionDef _ _ body _ _ _ sc _ _ _) => (sc, body)
  | _ => (⟨.function, [], false, false, []⟩, [])
noncomputable def scAt (p : Program) (i : Nat) : Scope := (fnAt p i).1
noncomputable def bodyAt (p : Program) (i : Nat) : List Stmt := (fnAt p i).2

theorem intsAre_rep {c : Cx} {V : Addr → Prop} {s : Shared} : ∀ {vs ns}, IntsAre vs ns → RepL c V s (ns.map D.int) vs
  | _, _, .nil => .nil
  | _, _, .cons n t r => .cons (.int n t) (intsAre_rep r)

theorem head_end {l : OpenLaw} {w : World} {s₀ s₁ : Shared} {mg mb : Str → Option Value} {p : Program} {lw : List Str} {mean : ExcName → Option Value} {R : WRecords} {cl : Str → Option Addr} {t : Nat} {ns : List Int} {vs : List Value} {a fa : Addr} {as : List Addr} {lsc : Scope → Prop}
    (T : Top p lw mean mg mb s₁.heap) (L : Laid R w s₀ s₁ [ofPy (PyData.list (ns.map PyData.int))] [.ref a] as) (hL : s₁.heap.IsList a vs.toArray) (hI : IntsAre vs ns) (hg : s₁.gens = #[]) (ht : s₀.toks = t) (h0 : 0 < t)
    {qc : Addr} (h : FnT ⟨l.row.prog, w, s₁.heap, mg, mb, lsc, True, qc, True⟩ 40 (.ref fa) [.list (ns.map .int)] (.bool true)) :
    wpAny (model l.row.prog w) callerA (call (.ref fa) [.ref a]) (fun v s' => GoodWG l.row.claim cl mean [ofPy (PyData.list (ns.map PyData.int))] s₁ (.ok (.ret v)) s')
      (fun e s' => GoodWG l.row.claim cl mean [ofPy (PyData.list (ns.map PyData.int))] s₁ (.error e) s') s₁ := by
  have htk := Nat.lt_of_lt_of_le h0 (X.script_toks L ht)
  have ho := X.script_obj L hL
  refine wpAny_mono (h.run callerA Vol0 s₁ [.ref a] ⟨fun _ => rfl, by decide, by decide, ⟨_, rfl, fun _ => rfl⟩⟩ rfl ⟨⟨T.g, T.b, T.nolimit⟩, Keeps.refl _, Nat.ne_of_gt htk, fun _ q => q.elim⟩ (.cons (.list id ho rfl ⟨rfl, rfl⟩ rfl (intsAre_rep hI)) .nil)) (fun v s' q => ?_) fun _ _ q => q.elim
  obtain ⟨g, r⟩ := q
  have hpost : l.row.claim.post [ofPy (PyData.list (ns.map PyData.int))] (WData.bool true) [ofPy (PyData.list (ns.map PyData.int))] = true := by
    show (WShape.has [] (.bool true) .bool && WTm.holds [] (.eq .res (.lit (.bool true))) _) = true
    with_unfolding_all rfl
  cases r.inv
  refine GoodW.toG ⟨.inl ⟨_, _, _, rfl, fun _ => rfl, .bool true, hpost, fun _ => ⟨.nil, fun _ ha => nomatch ha⟩⟩, g.keep, g.os, g.gens.trans hg⟩

/-- a def's facts from the written heap -/
theorem IsDefL.of {c : Cx} {K : Frag} {a : Addr} {sc : Scope} {ps : List String} {body : List Stmt} {oc : Value} {od : Option Addr} {fd : FuncData} {osl : Array (Option Value)} (X : K.In c.base) (ho : K.lookup a = some ⟨oc, od, .func fd, osl⟩)
    (hb : fd.body = .stmts body) (hs : fd.scope = sc) (hc : fd.closure = []) (hg : fd.globals = mainGlobals) (hbl : fd.builtins = builtinsNs) (hcd : codeIn K fd.code fd.qualname = true)
    (hbind : ∀ vs : List Value, vs.length = ps.length → bindArgs fd ⟨vs, []⟩ = pure (bindsOf ps vs)) (kinds : ∀ p ∈ ps, CanStore sc p) (nodup : ps.Nodup) (cnd : ((cellsFrom 0 sc.names []).map (·.1)).Nodup) (co : sc.isCoroutine = false) (gen : sc.isGenerator = false) (kind : sc.kind = .function)
    (nofree : sc.names.all (fun p => p.2 != .free) = true) : IsDefL c a sc ps body :=
  ⟨⟨kinds, nodup, cnd, co, gen, kind, fun x q => by
    have := List.all_eq_true.mp nofree _ (mem_lookup q)
    simp at this⟩, ⟨_, fd, X _ _ ho, rfl, hb, hs, hc, hg, hbl, codeRec_of X hcd, hbind⟩⟩

end Mine
namespace Mine
section
variable {c : Cx} {n : Nat} {sc : Scope} {k : Bool} {ρ ρ' : Sto} {P P' : AF → Sto → Prop}

theorem Tst.ent {e : Expr} {b : Bool} (h : Ent c sc ρ ρ') (t : Tst c n sc ρ' e b) : Tst c n sc ρ e b := .mk fun A env V0 h0 Cs X s hA F =>
  let ⟨X', _, F'⟩ := h env V0 h0 Cs X s F
  t.run A env V0 h0 Cs X' s hA F'
theorem TgtG.ent {w : Bool} {tgt : Expr} {d : D} {ρ₁ : Sto} (h : Ent c sc ρ ρ') (t : TgtG w c sc tgt d ρ' ρ₁) : TgtG w c sc tgt d ρ ρ₁ := .mk fun A env V0 h0 Cs X s v hA hO F r =>
  let ⟨X', h1, F'⟩ := h env V0 h0 Cs X s F
  wpAny_mono (t.run A env V0 h0 Cs X' s v hA hO F' (r.weak fun a q => q.imp id (h1 a))) (fun _ s' q => let ⟨X₂, g, F₂⟩ := q; ⟨X₂, g.sub h1, F₂⟩) fun _ _ q => q
theorem Sx.post {st : Stmt} (h : Sx c n sc ρ st P) (hp : ∀ af ρ₁, P af ρ₁ → ∃ ρ₂, Ent c sc ρ₁ ρ₂ ∧ P' af ρ₂) : Sx c n sc ρ st P' := .mk fun A env V0 h0 Cs X s hA hO F =>
  wpAny_mono (h.run A env V0 h0 Cs X s hA hO F) (fun f s' q => by
    obtain ⟨X₂, ρ₁, af, a, b, d, p⟩ := q
    obtain ⟨ρ₂, e, p'⟩ := hp _ _ p
    obtain ⟨X₃, h3, F₃⟩ := e _ _ _ _ _ _ b
    refine ⟨X₃, ρ₂, af, a.sub' h3, F₃, ?_, p'⟩
    cases d with
    | next => exact .next
    | brk => exact .brk
    | cont => exact .cont
    | ret r => exact .ret (r.weak fun a q => q.imp id (h3 a))) fun _ _ q => q

theorem Sx.forR {α β : Type} {g : α → D} {xs : List α} {tgt e : Expr} {body : List Stmt} {pos : Pos} {d₀ : D} (σ : β → Sto) (I : List α → β → Prop) (b₀ : β) (he : Ev c n sc true ρ e d₀) (hit : IterR c d₀ (xs.map g)) (h0 : I [] b₀) (hI : SubS (σ b₀) ρ)
    (turn : ∀ done x rest b, xs = done ++ x :: rest → I done b → ∃ ρ₁, TgtR c sc tgt (g x) (σ b) ρ₁ ∧ Tr c n sc ρ₁ body (Turn (fun ρ' => ∃ b', I (done ++ [x]) b' ∧ SubS (σ b') ρ') P)) (fin : ∀ b, I xs b → P .next (σ b))
    (hs : ∀ (env : Env) x, foldedSetIterable e env x = pure x := by intro _ _; rfl) (hq : c.hn := by assumption) : Sx c n sc ρ (.For tgt e body [] pos) P := by
  refine Sx.post (P := fun af ρ' => (af = .next ∧ ∃ b, I xs b ∧ SubS (σ b) ρ') ∨ P af ρ') (Sx.for (fun done ρ' => ∃ dx rest, xs = dx ++ rest ∧ done = dx.map g ∧ ∃ b, I dx b ∧ SubS (σ b) ρ') he hit ⟨[], xs, rfl, rfl, b₀, h0, hI⟩ ?_ ?_ hs) fun af ρ₁ q => ?_
  · intro done d rest ρ' e ⟨dx, rx, e1, e2, b, hb0, hsub⟩
    subst e2
    rw [e1, List.map_append] at e
    have := List.append_cancel_left e
    cases rx with
    | nil => cases this
    | cons x rx =>
      rw [List.map_cons] at this
      cases this
      obtain ⟨ρ₁, ht, hb⟩ := turn dx x rx b e1 hb0
      refine ⟨ρ₁, ht.ent (Ent.sub hsub), hb.mono fun af ρ₂ q => ?_⟩
      cases af with
      | next => exact ⟨dx ++ [x], rx, by rw [e1]; simp, by simp, q⟩
      | cont => exact ⟨dx ++ [x], rx, by rw [e1]; simp, by simp, q⟩
      | brk => exact .inr q
      | ret d => exact .inr q
  · intro ρ' ⟨dx, rx, e1, e2, b, hb, hsub⟩
    have : rx = [] := by
      have := congrArg List.length e2
      rw [e1] at this
      simp at this
      exact this
    subst this
    rw [List.append_nil] at e1
    subst e1
    exact .inl ⟨rfl, b, hb, hsub⟩
  · rcases q with ⟨rfl, b, hb, q⟩ | q
    · exact ⟨_, Ent.sub q, fin b hb⟩
    · exact ⟨_, .refl _, q⟩

/-- for x in ..: with the store as a function of what is done -/
theorem Sx.forS {α : Type} {g : α → D} {xs : List α} {tgt e : Expr} {body : List Stmt} {pos : Pos} {d₀ : D} (σ : List α → Sto) (he : Ev c n sc true ρ e d₀) (hit : IterR c d₀ (xs.map g)) (hI : SubS (σ []) ρ)
    (turn : ∀ done x rest, xs = done ++ x :: rest → ∃ ρ₁, TgtR c sc tgt (g x) (σ done) ρ₁ ∧ Tr c n sc ρ₁ body (Turn (SubS (σ (done ++ [x]))) P)) (fin : P .next (σ xs))
    (hs : ∀ (env : Env) x, foldedSetIterable e env x = pure x := by intro _ _; rfl) (hq : c.hn := by assumption) : Sx c n sc ρ (.For tgt e body [] pos) P :=
  Sx.forR σ (fun l b => b = l) [] he hit rfl hI (fun done x rest b e hb => by
    obtain ⟨ρ₁, h1, h2⟩ := turn done x rest e
    refine ⟨ρ₁, by rw [hb]; exact h1, h2.mono fun af ρ' q => ?_⟩
    cases af with
    | next => exact ⟨_, rfl, q⟩
    | cont => exact ⟨_, rfl, q⟩
    | brk => exact q
    | ret d => exact q) (fun b hb => by rw [hb]; exact fin) hs hq

theorem Sx.whileS {α : Type} {t : Expr} {body : List Stmt} {pos : Pos} (σ : α → Sto) (inv : α → Prop) (μ : α → Nat) (a₀ : α) (h0 : inv a₀) (hI : SubS (σ a₀) ρ)
    (turn : ∀ a, inv a → ∃ b, Tst c n sc (σ a) t b ∧ (b = true → Tr c n sc (σ a) body (Turn (fun ρ' => ∃ a', μ a' < μ a ∧ inv a' ∧ SubS (σ a') ρ') P)) ∧ (b = false → P .next (σ a))) : Sx c n sc ρ (.While t body [] pos) P := by
  refine Sx.post (P := fun af ρ' => (af = .next ∧ ∃ a, P .next (σ a) ∧ SubS (σ a) ρ') ∨ P af ρ') (Sx.while (fun k ρ' => ∃ a, μ a = k ∧ inv a ∧ SubS (σ a) ρ') (μ a₀) ⟨a₀, rfl, h0, hI⟩ ?_) fun af ρ₁ q => ?_
  · rintro k ρ' ⟨a, rfl, ha, hsub⟩
    obtain ⟨b, h1, h2, h3⟩ := turn a ha
    refine ⟨b, h1.ent (Ent.sub hsub), fun e => Tr.ent (Ent.sub hsub) ((h2 e).mono fun af ρ₂ q => ?_), fun e => .inl ⟨rfl, a, h3 e, hsub⟩⟩
    cases af with
    | next => obtain ⟨a', l, i, s⟩ := q; exact ⟨_, l, a', rfl, i, s⟩
    | cont => obtain ⟨a', l, i, s⟩ := q; exact ⟨_, l, a', rfl, i, s⟩
    | brk => exact .inr q
    | ret d => exact .inr q
  · rcases q with ⟨rfl, a, p, q⟩ | q
    · exact ⟨_, Ent.sub q, p⟩
    · exact ⟨_, .refl _, q⟩

noncomputable def capOk (sc scope : Scope) : Bool := scope.kind == .function && scope.names.all (fun p => p.2 != .cell) && scope.names.all (fun p => p.2 != .local || scope.names.lookup p.1 == some .local) &&
  scope.names.all (fun p => p.2 != .free || sc.names.lookup p.1 == some .cell || sc.names.lookup p.1 == some .free)
inductive CapS (scope : Scope) (ρ : Sto) : Sto → Prop
  | nil : CapS scope ρ []
  | cons {x : String} {d : D} {ρi : Sto} : ρ.lookup x = some (.val d) → scope.names.lookup (Str.ofString x) = some .free → x ≠ "__classdict__" → CapS scope ρ ρi → CapS scope ρ ((x, .val d) :: ρi)
theorem CapS.all {scope : Scope} {ρi : Sto} (h : CapS scope ρ ρi) : ∀ p ∈ ρi, ∃ d, p.2 = .val d ∧ ρ.lookup p.1 = some (.val d) ∧ scope.names.lookup (Str.ofString p.1) = some .free ∧ p.1 ≠ "__classdict__" := by
  induction h with
  | nil => intro p hp; cases hp
  | cons a b e r ih =>
    intro p hp
    cases hp with
    | head => exact ⟨_, rfl, a, b, e⟩
    | tail _ hp => exact ih p hp
theorem Capt.of {scope : Scope} {ρi : Sto} (hs : CapS scope ρ ρi) (hb : capOk sc scope = true) : Capt sc scope ρ ρi := by
  unfold capOk at hb
  simp only [Bool.and_eq_true, List.all_eq_true, bne_iff_ne, Bool.or_eq_true, beq_iff_eq] at hb
  obtain ⟨⟨⟨h1, h2⟩, h3⟩, h4⟩ := hb
  refine ⟨h1, fun p hp => by simpa using h2 p hp, fun p hp q => ?_, fun p hp q => ?_, hs.all⟩
  · rcases h3 p hp with h | h
    · exact absurd q (by simpa using h)
    · exact h
  · rcases h4 p hp with (h | h) | h
    · exact absurd q (by simpa using h)
    · exact .inl h
    · exact .inr h

section
variable {elt tgt iter t : Expr} {scope : Scope} {pos spos p : Pos} {y : String} {d₀ : D} {α : Type} {g : α → D} {ds : List α}
theorem filterMap_if (q : α → Bool) (r : α → D) : ∀ l : List α, l.filterMap (fun x => if q x = true then some (r x) else Option.none) = (l.filter q).map r
  | [] => rfl
  | x :: l => by
    rw [List.filterMap_cons, List.filter_cons, filterMap_if q r l]
    cases q x <;> rfl
theorem Ev.compF (q : α → Bool) (r : α → D) (ρi : Sto) (he : Ev c n sc true ρ iter d₀) (hit : IterR c d₀ (ds.map g)) (hc : Capt sc scope ρ ρi) (hz : ds.length ≤ 16777216)
    (item : ∀ x ∈ ds, ∃ ρ₁, TgtG false c (relab sc scope) tgt (g x) ρi ρ₁ ∧ SubS ρi ρ₁ ∧ Tst c n (relab sc scope) ρ₁ t (q x) ∧ (q x = true → Ev c n (relab sc scope) true ρ₁ elt (r x))) (hs : ∀ (env : Env) x, foldedSetIterable iter env x = pure x := by intro _ _; rfl) (hq : c.hn := by assumption) :
    Ev c n sc k ρ (.ListComp elt [⟨tgt, iter, [t], 0⟩] scope pos) (.list ((ds.filter q).map r)) := by
  rw [← filterMap_if]
  refine Ev.comp (fun x => if q x = true then some (r x) else Option.none) ρi he hit hc hz (fun x hx => ?_) hs
  obtain ⟨ρ₁, h1, h2, h3, h4⟩ := item x hx
  refine ⟨ρ₁, h1, h2, ?_⟩
  cases e : q x with
  | true => rw [e] at h3; exact ⟨.one h3, h4 e⟩
  | false => rw [e] at h3; exact .one h3
end

theorem Ev.to {e : Expr} {d d' : D} (h : Ev c n sc k ρ e d) (q : d = d') : Ev c n sc k ρ e d' := q ▸ h
theorem Tst.to {e : Expr} {b b' : Bool} (h : Tst c n sc ρ e b) (q : b = b') : Tst c n sc ρ e b' := q ▸ h
theorem IsDef.callee {a : Addr} {ps : List String} {body : List Stmt} (h : IsDef c a sc ps body) : Callee c (.ref a) := by
  obtain ⟨o, fd, h1, h2, _⟩ := h.ex
  exact .func h1 h2

end
end Mine
namespace Mine
section
variable {c : Cx} {n : Nat} {sc : Scope} {k : Bool} {ρ ρ' : Sto} {P P' : AF → Sto → Prop} {env : Env} {V0 : Addr → Prop} {h0 : Heap} {Cs : List (Str × Addr)} {X : List Addr} {s s₁ : Shared} {A : Around}

/-- a name's own list, opened -/
structure Opn (c : Cx) (env : Env) (V0 : Addr → Prop) (Cs : List (Str × Addr)) (X : List Addr) (ρ : Sto) (x : String) (sl : List Slot) (a : Addr) (fpi fps' : List Addr) (s : Shared) : Prop where
  ns : ∃ m, s.heap.Ns env.locals m ∧ Loc env s m x (.ref a) ∧ StoR c env (Vol V0 X) s m (delS x ρ) fps'
  lst : ∃ vs nn, s.heap.get? a = some { cls := .type "list", data := .seq vs nn } ∧ RepSL c (Vol V0 X) s sl vs.toList fpi
  nd : (env.locals :: (Cs.map (·.2) ++ ((a :: fpi) ++ fps'))).Nodup
  sub : ∀ b ∈ env.locals :: (Cs.map (·.2) ++ ((a :: fpi) ++ fps')), b ∈ X

theorem RepSL.gr {V : Addr → Prop} {s' : Shared} {sl v fp} (r : RepSL c V s sl v fp) (g : Gr s s') : RepSL c V s' sl v fp := r.calm (g.calm V) (fun _ q => q) fun _ _ _ e => g.keep _ _ e

theorem Opn.gr {x : String} {sl : List Slot} {a : Addr} {fpi fps' : List Addr} {s' : Shared} (O : Opn c env V0 Cs X ρ x sl a fpi fps' s) (g : Gr s s') : Opn c env V0 Cs X ρ x sl a fpi fps' s' := by
  obtain ⟨m, h1, h2, h3⟩ := O.ns
  obtain ⟨vs, nn, h4, h5⟩ := O.lst
  exact ⟨⟨m, h1.keeps g.keep, h2.calm (fun _ => rfl) fun _ _ _ _ e _ => g.keep _ _ e, h3.gr g⟩, ⟨vs, nn, g.keep _ _ h4, h5.gr g⟩, O.nd, O.sub⟩

theorem Opn.aX {x : String} {sl : List Slot} {a : Addr} {fpi fps' : List Addr} (O : Opn c env V0 Cs X ρ x sl a fpi fps' s) : a ∈ X := O.sub a (.tail _ (List.mem_append_right _ (.head _)))

theorem RepSL.snoc {V : Addr → Prop} {s : Shared} {d : D} {v : Value} (rv : Rep c V s d v) : ∀ {sl vs fp}, RepSL c V s sl vs fp → RepSL c V s (sl ++ [.val d]) (vs ++ [v]) fp
  | _, _, _, .nil => .cons (fp := []) (fps := []) (.val rv) .nil
  | _, _, _, .cons (fp := fp) r rs => .cons r (RepSL.snoc rv rs)
theorem Opn.load {x : String} {sl : List Slot} {a : Addr} {fpi fps' : List Addr} {E : Value → Shared → Prop} {Q : Value → Shared → Prop} {p : Pos} (F : Fm c sc env V0 h0 Cs X ρ s) (O : Opn c env V0 Cs X ρ x sl a fpi fps' s) (hx : x ≠ "__debug__") (h : Q (.ref a) s) :
    wpAny c.M A (eval (.Name (Str.ofString x) p) env) Q E s := by
  obtain ⟨m, h1, h2, h3⟩ := O.ns
  exact wpAny_Name (h2.load (by rw [F.scope]; exact F.kind) h1 h) (ofString_ne hx)

end
end Mine
namespace Mine

section
variable {c : Cx} {n : Nat} {sc : Scope} {k : Bool} {ρ ρ' : Sto}

theorem repL_strs {V : Addr → Prop} {s : Shared} {ls : List (List Nat)} : ∀ {vs : List Value}, RepL c V s (ls.map sd) vs → ∃ l : List (Str × Tok), vs = strValues l ∧ l.map (·.1) = ls.map S := by
  induction ls with
  | nil => intro vs r; cases r; exact ⟨[], rfl, rfl⟩
  | cons x ls ih =>
    intro vs r
    cases r with
    | cons r rs =>
      obtain ⟨l, h1, h2⟩ := ih rs
      obtain ⟨t, rfl⟩ := r.inv
      exact ⟨(S x, t) :: l, by rw [h1]; rfl, by rw [List.map_cons, h2]; rfl⟩
end
end Mine
namespace Mine
section
variable {c : Cx} {n : Nat} {sc : Scope} {k : Bool} {ρ ρ' : Sto}

theorem Room.below {A : Around} (h : Room c n A) : A.units < cLine := by have := h.units; omega

theorem S_beq (a b : List Nat) : (S a == S b) = decide (a = b) := by
  by_cases h : a = b
  · simp [h]
  · simp [h]

/-- is the list empty? -/
theorem eqNil_aux {ds : List D} {A : Around} {V : Addr → Prop} {s : Shared} {v₁ v₂ : Value} (hA : Room c 0 A) (r₁ : Rep c V s (.list ds) v₁) (r₂ : Rep c V s (.list []) v₂) :
    SeqAt.RcAt A s v₁ v₂ ds.isEmpty ∧ SeqAt.RcNeAt A s v₁ v₂ (!ds.isEmpty) := by
  replace r₁ := r₁.inv
  obtain ⟨x, o, vs, nn, rfl, na, ho, hcl, hd, hdt, r₁⟩ := r₁
  replace r₂ := r₂.inv
  obtain ⟨y, o2, ws, nn2, rfl, na2, ho2, hcl2, hd2, hdt2, r₂⟩ := r₂
  have l1 := r₁.length
  have l2 := r₂.length
  simp only [Array.length_toList, List.length_nil] at l1 l2
  have i1 : s.heap.IsList x vs := ⟨o, ho, hcl, nn, hdt⟩
  have i2 : s.heap.IsList y ws := ⟨o2, ho2, hcl2, nn2, hdt2⟩
  cases ds with
  | nil =>
    have hsz : vs.size = ws.size := by simp at l1; omega
    have he : ∀ j (h1 : j < vs.size) (h2 : j < ws.size), SeqAt.EqAt A.in1 s vs[j] ws[j] true := fun j h1 h2 => by omega
    have h1 := SeqAt.RcAt.lists (e := fun _ => true) i1 i2 hsz hA.below he
    have h2 := SeqAt.RcNeAt.lists (e := fun _ => true) i1 i2 hsz hA.below he
    have : (List.range vs.size).all (fun _ => true) = true := by simp
    rw [this] at h1 h2; exact ⟨h1, h2⟩
  | cons d r =>
    have hne : (vs.size != ws.size) = true := by simp at l1 ⊢; omega
    exact ⟨SeqAt.RcAt.lists_lengths i1 i2 hne hA.below, SeqAt.RcNeAt.lists_lengths i1 i2 hne hA.below⟩
theorem CmpR.eqNil {ds : List D} : CmpR c .Eq (.list ds) (.list []) ds.isEmpty := fun A V s v₁ v₂ hA _ r₁ r₂ => (eqNil_aux hA r₁ r₂).1 c.prog c.w _ _ ⟨.refl s, rfl⟩
theorem CmpR.neNil {ds : List D} : CmpR c .NotEq (.list ds) (.list []) (!ds.isEmpty) := fun A V s v₁ v₂ hA _ r₁ r₂ => (eqNil_aux hA r₁ r₂).2 c.prog c.w _ _ ⟨.refl s, rfl⟩

/-- a text in a list of texts -/
theorem inLS_aux {a : List (List Nat)} {x : List Nat} {V : Addr → Prop} {s : Shared} {vs : Array Value} {t : Tok} (A : Around) (r : RepL c V s (a.map sd) vs.toList) :
    (∀ y, y ∈ vs → SeqAt.EqAt A s y (.str (S x) t) (match y with | .str z _ => z == S x | _ => false)) ∧ vs.any (fun y => match y with | .str z _ => z == S x | _ => false) = decide (x ∈ a) := by
  obtain ⟨l, h1, h2⟩ := repL_strs r
  have hv : vs = (strValues l).toArray := by rw [← h1]
  subst hv
  constructor
  · intro y hy
    obtain ⟨p, hp, rfl⟩ := List.mem_map.mp (List.mem_toArray.mp hy)
    exact SeqAt.EqAt.str_str _ _ _ _
  · rw [List.any_toArray, strValues, List.any_map, Bool.eq_iff_iff, List.any_eq_true, decide_eq_true_eq]
    have hmem : x ∈ a ↔ S x ∈ a.map S := ⟨fun h => List.mem_map_of_mem h, fun h => by
      obtain ⟨z, hz, e⟩ := List.mem_map.mp h
      rw [← S_inj e]; exact hz⟩
    rw [hmem, ← h2]
    constructor
    · rintro ⟨p, hp, e⟩
      exact List.mem_map.mpr ⟨p, hp, by simpa using e⟩
    · intro h
      obtain ⟨p, hp, e⟩ := List.mem_map.mp h
      exact ⟨p, hp, by simp [e]⟩
theorem CmpR.inLS {a : List (List Nat)} {x : List Nat} : CmpR c .In (sd x) (.list (a.map sd)) (decide (x ∈ a)) := fun A V s v₁ v₂ hA _ r₁ r₂ => by
  obtain ⟨t, rfl⟩ := r₁.inv
  replace r₂ := r₂.inv
  obtain ⟨y, o, ws, nn, rfl, na, ho, hcl, hd, hdt, r⟩ := r₂
  obtain ⟨h1, h2⟩ := inLS_aux (x := x) (t := t) A.in1 r
  exact SeqAt.in_listAt _ ⟨o, ho, hcl, nn, hdt⟩ h1 ⟨.refl s, by rw [h2]⟩
/-- is it None? -/
theorem CmpR.isN {d : D} {b : Bool} (h : (d = .none ∧ b = true) ∨ ((∃ x, d = .str x) ∧ b = false) ∨ ((∃ x, d = .list x) ∧ b = false)) : CmpR c .Is d .none b := fun A V s v₁ v₂ hA _ r₁ r₂ => by
  cases r₂.inv
  rcases h with ⟨rfl, rfl⟩ | ⟨⟨x, rfl⟩, rfl⟩ | ⟨⟨x, rfl⟩, rfl⟩
  · cases r₁.inv; exact wpAny_is_plain rfl ⟨.refl s, rfl⟩
  · obtain ⟨_, rfl⟩ := r₁.inv; exact wpAny_is_plain rfl ⟨.refl s, rfl⟩
  · obtain ⟨_, _, _, _, rfl, _⟩ := r₁.inv; exact wpAny_is_plain rfl ⟨.refl s, rfl⟩
end
end Mine
namespace Mine

section
variable {c : Cx} {n : Nat} {sc : Scope}
theorem ds_vals {α : Type} (g : α → D) : ∀ l : List α, Slot.ds (l.map fun x => .val (g x)) = l.map g
  | [] => rfl
  | x :: l => by rw [List.map_cons, List.map_cons, ← ds_vals g l]; rfl
theorem bindOne {fd : FuncData} {p : String} (h : ∀ v : Value, bindArgs fd ⟨[v], []⟩ = pure [(Str.ofString p, v)]) (vs : List Value) (hl : vs.length = [p].length) : bindArgs fd ⟨vs, []⟩ = pure (bindsOf [p] vs) := by
  obtain ⟨v, rfl⟩ := List.length_eq_one_iff.mp hl
  exact h v
theorem bindTwo {fd : FuncData} {p q : String} (h : ∀ v w : Value, bindArgs fd ⟨[v, w], []⟩ = pure [(Str.ofString p, v), (Str.ofString q, w)]) (vs : List Value) (hl : vs.length = [p, q].length) : bindArgs fd ⟨vs, []⟩ = pure (bindsOf [p, q] vs) := by
  cases vs with
  | nil => cases hl
  | cons v vs => obtain ⟨w, rfl⟩ := List.length_eq_one_iff.mp (Nat.succ.inj hl); exact h v w
theorem blt_of {K : Frag} {h : Heap} {p : Program} {lw : List Str} {mean : ExcName → Option Value} {mg mb : Str → Option Value} (X : K.In h) (T : Top p lw mean mg mb h) {x : String} {v : Value} (e : nsIn K mainGlobals (Str.ofString x) = some none) (b : bootBuiltins (Str.ofString x) = some v) (hx : x ≠ "__name__") :
    mg (Str.ofString x) = none ∧ mb (Str.ofString x) = some v :=
  ⟨mg_none_of X T.g e, (T.builtins _ fun q => hx (ofString_inj q)).trans b⟩
end
end Mine
namespace Mine
section
variable {c : Cx} {n : Nat} {sc : Scope} {k : Bool} {ρ ρ' : Sto} {env : Env} {V0 : Addr → Prop} {h0 : Heap} {Cs : List (Str × Addr)} {X : List Addr} {s s₁ : Shared} {A : Around}

theorem Ev.neg {e : Expr} {pos : Pos} {i : Int} (h : Ev c n sc k ρ e (.int i)) : Ev c n sc k ρ (.UnaryOp .USub e pos) (.int (-i)) := .mk fun A env V0 h0 Cs X s hA F =>
  wpAny_UnaryOp (wpAny_mono (h.run A env V0 h0 Cs X s hA F) (fun v s' q => by
    obtain ⟨g, r⟩ := q
    obtain ⟨_, rfl⟩ := r.inv
    exact wp_gr g (wp_end (P.neg_int ⟨fun _ _ e => e, rfl, rfl, fun _ => .int _ _⟩))) fun _ _ q => q)

theorem Ns_same {h : Heap} {a : Addr} {m m' : Str → Option Value} (x : h.Ns a m) (y : h.Ns a m') (z : Str) : m z = m' z := by
  obtain ⟨o, es, ep, ho, hd, _, hf⟩ := x
  obtain ⟨o', es', ep', ho', hd', _, hf'⟩ := y
  rw [ho] at ho'; cases ho'
  rw [hd] at hd'; cases hd'
  rw [← hf, ← hf']
theorem Loc.same {m m' : Str → Option Value} {x : String} {v v' : Value} (hn : s.heap.Ns env.locals m) (hn' : s.heap.Ns env.locals m') (l : Loc env s m x v) (l' : Loc env s m' x v') : v = v' := by
  have e := Ns_same hn hn' (Str.ofString x)
  cases l with
  | loc h1 h2 => cases l' with
    | loc h1' h2' => rw [h2, h2'] at e; injection e
    | cell h1' _ _ _ =>
      rw [h1] at h1'
      rcases h1' with q | q
      · cases q
      · cases q.1
  | cell h1 h2 h3 h4 => cases l' with
    | loc h1' h2' =>
      rw [h1'] at h1
      rcases h1 with q | q
      · cases q
      · cases q.1
    | cell h1' h2' h3' h4' =>
      rw [h2] at h2'; cases h2'
      rw [h3] at h3'; cases h3'
      rw [h4] at h4'; injection h4' with q; injection q

end
end Mine
namespace Mine
section
variable {c : Cx} {n : Nat} {sc : Scope} {k : Bool} {ρ : Sto}

noncomputable def setAll (ρ : Sto) : List (String × D) → Sto
  | [] => ρ
  | (x, d) :: r => setAll (setS ρ x (.val d)) r

theorem storeAll : ∀ {ps : List (String × D)} {ρ : Sto}, (∀ p ∈ ps, sc.names.lookup (Str.ofString p.1) = some .local) → ∀ {A env V0 h0 Cs X s vs}, Fm c sc env V0 h0 Cs X ρ s → RepL c (Vol V0 X) s (ps.map (·.2)) vs →
    wpAny c.M A (assignInOrder ((ps.map fun p => Str.ofString p.1).map fun n => bindName env n) vs) (fun _ s' => ∃ X', Stp X s X' s' ∧ Fm c sc env V0 h0 Cs X' (setAll ρ ps) s') (fun _ _ => False) s
  | [], ρ, _, A, env, V0, h0, Cs, X, s, vs, F, r => wpAny_pure ⟨X, .refl X s, F⟩
  | (x, d) :: ps, ρ, hk, A, env, V0, h0, Cs, X, s, vs, F, r => by
    cases r with
    | cons r rs =>
      have hx := hk _ (.head _)
      refine wpAny_bind (wpAny_holding (wpAny_bindName (wpAny_mono (F.store (.refl s) (fun q => by rw [hx] at q; cases q) (.inl hx) (RepS.ofRep (r.weak fun _ q => q.2)) .nil fun _ ha => nomatch ha) (fun _ s' q => ?_) fun _ _ q => q)))
      obtain ⟨X', g, F'⟩ := q
      exact wpAny_mono (storeAll (fun p hp => hk p (.tail _ hp)) F' (rs.stp g)) (fun _ s'' q => let ⟨X'', g', F''⟩ := q; ⟨X'', g.trans g', F''⟩) fun _ _ q => q

/-- a, b = (.., ..): the stores from the last to the first -/
theorem Sx.assignW {ts : List Expr} {kk : Nat} {tp pos : Pos} {e : Expr} {ps : List (String × D)} (h : Ev c n sc true ρ e (.tuple (ps.map (·.2)))) (hk : (ps.all fun p => sc.names.lookup (Str.ofString p.1) == some .local) = true)
    (hw : ∀ env : Env, env.scope = sc → swappedStores [.Tuple ts kk tp] e env = pure (some (ps.map fun p => Str.ofString p.1)))
    (hs : ∀ env : Env, swapsWithSole [.Tuple ts kk tp] e pos.line env = pure false := by intro _; rfl) (hn : c.hn := by assumption) : Sn c n sc ρ (.Assign [.Tuple ts kk tp] e pos) (setAll ρ ps.reverse) := .mk fun A env V0 h0 Cs X s hA hO F => by
  refine Assign_Tuple_swapped (wpAny_mono (h.run A env V0 h0 Cs X s hA F) (fun v s₁ q => ?_) fun _ _ q => q) (hs env) (hw env F.scope)
  obtain ⟨g, r⟩ := q
  have r' : Rep c (Vol V0 X) s₁ (.tuple (ps.map (·.2))) v := r.weak fun _ q => ⟨rfl, q⟩
  replace r' := r'.inv
  obtain ⟨a, o, vs, nn, rfl, na, ho, hcl, hd, hdt, rl⟩ := r'
  have hl : vs.size = ps.length := by have := rl.length; simpa using this.symm
  have : (ps.map fun p => Str.ofString p.1).length = vs.size := by simp [hl]
  rw [this]
  refine unpackItems_tuple (hA.handled hn) ⟨o, ho, hcl, _, hdt⟩ fun h' he => ?_
  have g' := Gr.ext he
  have F' := (F.gr g).gr g'
  have hr : RepL c (Vol V0 X) { s₁ with heap := h' } (ps.reverse.map (·.2)) vs.toList.reverse := by
    have hrev : ∀ {ds : List D} {us : List Value} {st : Shared}, RepL c (Vol V0 X) st ds us → RepL c (Vol V0 X) st ds.reverse us.reverse := by
      intro ds us st hh
      induction ds generalizing us with
      | nil => cases hh; exact .nil
      | cons d ds ih => cases hh with
        | cons a b => rw [List.reverse_cons, List.reverse_cons]; exact (ih b).append (.cons a .nil)
    have := hrev (rl.gr g')
    rw [← List.map_reverse] at this; exact this
  have hst := storeAll (c := c) (sc := sc) (A := A) (ps := ps.reverse) (ρ := ρ) (fun p hp => by simpa using List.all_eq_true.mp hk p (List.mem_reverse.mp hp)) F' hr
  rw [List.map_reverse] at hst
  refine wpAny_mono hst (fun _ s₂ q => ?_) fun _ _ q => q
  obtain ⟨X', g2, F2⟩ := q
  exact ⟨X', _, .next, (Stp.of_gr (g.trans g')).trans g2, F2, .next, rfl, rfl⟩
end
end Mine
namespace Mine
section
variable {c : Cx} {n : Nat} {sc : Scope} {k : Bool} {ρ : Sto}

theorem FnR.listRange {a b st : Int} {m : Nat} (hsm : Builtin.Range.small a b st = true) (hsz : Builtin.Range.rangeSize a b st = (m : Int)) (hm : m ≤ 16777216) (hn : c.hn := by assumption) : FnR c n (.type "list") [.range a b st] (.list ((List.range m).map fun i : Nat => D.int (a + i * st))) := .mk fun A V s vs hA hS r => by
  cases r with
  | cons r rs =>
      cases rs
      obtain ⟨_, _, _, _, rfl, na, h⟩ := r.inv
      refine wp_end (call_list_range (hA.handled hn) h hsm hsz (by omega) fun h' tk acc c' hk hD hI => ⟨hk, rfl, rfl, fun _ => .list hS.new hD rfl ⟨rfl, rfl⟩ rfl ?_⟩)
      have key : ∀ (m : Nat) (us : List Value), us.length = m → (∀ (j : Nat) v, us[j]? = some v → ∃ t, v = Value.int (a + (j : Int) * st) t) → RepL c V { s with heap := h', toks := tk } ((List.range m).map fun i : Nat => D.int (a + i * st)) us := by
        intro m
        induction m with
        | zero => intro us hl _; rw [List.length_eq_zero_iff.mp hl]; exact .nil
        | succ m ih =>
          intro us hl hv
          obtain ⟨us', v, rfl⟩ : ∃ us' v, us = us' ++ [v] := by
            have hne : us ≠ [] := fun e => by rw [e] at hl; cases hl
            exact ⟨us.dropLast, us.getLast hne, (List.dropLast_concat_getLast hne).symm⟩
          have hl' : us'.length = m := by simpa using hl
          rw [List.range_succ, List.map_append]
          refine (ih us' hl' fun j v' e => hv j v' ?_).append (.cons ?_ .nil)
          · rw [List.getElem?_append_left (List.getElem?_eq_some_iff.mp e).1]; exact e
          · obtain ⟨t, e⟩ := hv m v (by rw [List.getElem?_append_right (by omega), hl', Nat.sub_self]; rfl)
            rw [e]; exact .int _ _
      exact key m acc.toList (by rw [Array.length_toList]; exact hI.1) fun j v e => hI.2 j v (by rw [← Array.getElem?_toList]; exact e)

end
end Mine
namespace Mine

noncomputable def wordsOf (r nm : List Nat) : List Nat := cs "cannot serialize " ++ r ++ cs " (type " ++ nm ++ cs ")"

end Mine
namespace Mine
section
variable {prog : Program} {w : World} {A : Around} {E : Value → Shared → Prop} {s : Shared}

/-- type(x).__name__ of a built-in type -/
theorem tyname_wp {T q : String} {expr : Bool} {Q : Value → Shared → Prop} (ht : kitMeta T = true) (hs : Manifest.isStub T = false)
    (e : findCls [] (.type T) (.type "type") "__name__" = some (.get (.builtin "getset_descriptor.__get__") (.builtin "type.__name__") (.type T) (.type "type"))) (hq : ktynFast T = q) (hz : (Str.ofString q).length ≤ sizeLine)
    (h : ∀ tk u, Q (.str (Str.ofString q) tk) { s with toks := u }) : wpAny (model prog w) A (getAttr (.type T) "__name__" expr) Q E s := by
  have X : Frag.In [] s.heap := fun _ _ e => nomatch e
  have hstub : opaqueClassAbove (.type T) = pure none := by unfold opaqueClassAbove; dsimp only; rw [hs]; rfl
  have L0 : Looks (model prog w) s.heap (typeOf (.type T)) (.type "type") := Looks.of_pure (kitMeta_of ht)
  have LO : Looks (model prog w) s.heap (opaqueClassAbove (.type T)) none := Looks.of_pure hstub
  have hg : findIn [] (.type "type") "__getattribute__" = some (some (.builtin "type.__getattribute__")) := type_tga
  refine cls_open X LO L0 hg (looks_hook X (r := none) (by rfl)) (by show subIn [] _ _ = _; rfl) e ?_
  show wpAny _ _ (do ret (← holding [Value.builtin "type.__name__"] (call (.builtin "getset_descriptor.__get__") [.builtin "type.__name__", .type T, .type "type"]))) _ _ _
  refine wpAny_bind (wpAny_holding (wpAny_call (ktyn_get (s := { s with toks := s.toks + 1 }) (kitMeta_of ht) hq hz ?_)))
  exact wpAny_pure (handed_on rfl (h _ _))

noncomputable abbrev intL (i : Int) : List Nat := cs (toString i)
end

theorem slot_bytes_repr : PySem.Slot "bytes" "__repr__" "bytes.__repr__" :=
  .of (owner := "bytes") (n := "__repr__") (by rw [typeLookup_type, builtinLookup_eq_fast]; kernel_rfl) (by decide +kernel) (by decide +kernel) (by decide +kernel)
    (by first | exact .inl (by decide +kernel) | exact .inr (by decide +kernel)) (by rw [isSubtype_type]; kernel_rfl)
theorem entry_bytes_repr : entryFor table "bytes.__repr__" = some Builtin.«bytes.__repr__» := entryFor_of_tree (by kernel_rfl)
theorem args_bytes_repr (a : Value) : argsOk "bytes.__repr__" ⟨[a], []⟩ := by unfold argsOk; kernel_rfl
section
variable {prog : Program} {w : World} {A : Around} {E : Value → Shared → Prop} {s : Shared}
end
end Mine
namespace Mine

/-- the same context while an exception may be handled -/
noncomputable abbrev Cx.h (c : Cx) : Cx := { c with hn := False }
theorem Rep.cx {c c' : Cx} (hw : c.w = c'.w ∧ c.qc = c'.qc) {V : Addr → Prop} {s : Shared} {d v} (r : Rep c V s d v) : Rep c' V s d v := r.mapA hw fun _ _ na e _ => ⟨na, e⟩
theorem StoR.cx {c c' : Cx} (hw : c.w = c'.w ∧ c.qc = c'.qc) {env : Env} {V : Addr → Prop} {s : Shared} {m : Str → Option Value} {ρ fps} (h : StoR c env V s m ρ fps) : StoR c' env V s m ρ fps :=
  h.map (fun _ _ _ l => l) fun _ _ _ _ r => r.map (fun _ _ => Rep.cx hw) fun _ _ _ e => e
/-- another base under the same frame -/
theorem Fm.cx {c c' : Cx} {sc env V0 h0 Cs X ρ s} (F : Fm c sc env V0 h0 Cs X ρ s) (hw : c.w = c'.w ∧ c.qc = c'.qc) (hg : c'.Good) (hb : Keeps c'.base h0) : Fm c' sc env V0 h0 Cs X ρ s :=
  ⟨hg, F.scope, F.kind, F.globals, F.builtins, hb, F.keep, F.tok, F.live0, F.ccells, F.new, F.cells, F.cinj,
   let ⟨m, fps, h1, h2, h3, h4, h6, h5⟩ := F.sto; ⟨m, fps, h1, h2, h3, h4, h6, h5.cx hw⟩⟩
theorem Fm.h {c : Cx} {sc env V0 h0 Cs X ρ s} (F : Fm c sc env V0 h0 Cs X ρ s) : Fm c.h sc env V0 h0 Cs X ρ s := F.cx ⟨rfl, rfl⟩ ⟨F.good.g, F.good.b, F.good.lim⟩ F.base
theorem St.cx {c c' : Cx} {V s} (h : St c V s) (hg : c'.Good) (hb : Keeps c'.base s.heap) : St c' V s := ⟨hg, hb, h.tok, h.live⟩
theorem Room.h {c : Cx} {n : Nat} {A : Around} (h : Room c n A) (v : Option Value) : Room c.h n (A.mark v) := ⟨fun q => q.elim, h.depth, h.units, h.guards⟩
/-- an exception flies: it has left the frames above l; all of B is as it was -/
structure Fly (B : Heap) (l : List Env) (T : String) (m : List Nat) (s : Shared) (ev : Value) (s' : Shared) : Prop where
  ex : ∃ e t tk, ev = .ref e ∧ Heap.FlyingW B l e (.type T) (.ref t) s'.heap ∧ s'.heap.TupAt t [.str (S m) tk] ∧ B.get? t = none
  up : s.heap.UpToSlots s'.heap
  tok : s.toks ≤ s'.toks
  gens : s'.gens = s.gens
  os : s'.os = s.os

/-- what is known of the stack -/
structure Stk (c : Cx) (A : Around) (B : Heap) (l : List Env) (h : Heap) : Prop where
  stack : A.frames = some l
  base : Keeps c.base B
  stays : B.StaysIn h
  frames : h.FunFrames B l
theorem Stk.gr {c : Cx} {A B l s s'} (K : Stk c A B l s.heap) (g : Gr s s') : Stk c A B l s'.heap :=
  ⟨K.stack, K.base, fun b o e => g.keep _ _ (K.stays b o e), K.frames.of_keeps fun b o e _ => ⟨o, g.keep _ _ e, rfl⟩⟩
theorem Stk.mark {c : Cx} {A B l h} (K : Stk c A B l h) (v : Option Value) : Stk c (A.mark v) B l h := ⟨K.stack, K.base, K.stays, K.frames⟩

/-- nothing is handled, or an exception without a context -/
noncomputable def Hnd (A : Around) (h : Heap) : Prop := A.handled = none ∨ ∃ e0 o vs, A.handled = some (.ref e0) ∧ h.get? e0 = some o ∧ o.data = .fields vs ∧ vs[2]? = some .none
theorem Hnd.keeps {A : Around} {h h' : Heap} (x : Hnd A h) (k : Keeps h h') : Hnd A h' := by
  rcases x with x | ⟨e0, o, vs, h1, h2, h3⟩
  · exact .inl x
  · exact .inr ⟨e0, o, vs, h1, k _ _ h2, h3⟩

/-- f called with ds raises T(m) -/
structure FnX (c : Cx) (n : Nat) (f : Value) (ds : List D) (T : String) (m : List Nat) : Prop where
  run : ∀ A V s vs B l, Room c n A → Hnd A s.heap → Stk c A B l s.heap → (∀ a ∈ l.filterMap (·.frame), V a) → St c V s → RepL c V s ds vs → wpAny c.M A (call f vs) (fun _ _ => False) (Fly B l T m s) s

end Mine
namespace Mine

theorem entry_unchain : entryFor table "proto.unchain" = some Builtin.«proto.unchain» := entryFor_of_tree (by kernel_rfl)
/-- an exception of one argument tuple -/
noncomputable abbrev excObj (T : String) (t : Addr) (tb cx : Value) : Obj := { cls := .type T, data := .fields #[.ref t, tb, cx, .none, .bool false, .none] }
section
variable {prog : Program} {w : World} {A : Around} {E : Value → Shared → Prop} {s : Shared}

theorem unchain_wp {e e0 : Addr} {o : Obj} {vs : Array Value} {Q : Value → Shared → Prop} (ho : s.heap.get? e0 = some o) (hd : o.data = .fields vs) (h2 : vs[2]? = some .none) (h : Q .none s) :
    wpAny (model prog w) A (runValue (.builtin "proto.unchain" ⟨[.ref e, .ref e0, .ref e0, .bool false], []⟩)) Q E s := by
  refine wpAny_runValue (codeAny_builtin entry_unchain ?_)
  unfold Builtin.«proto.unchain»
  dsimp only
  refine wpAny_bind (wpAny_field ho hd h2 ?_)
  rw [if_pos (by rfl)]
  first | exact wpAny_pure h | exact h

theorem raiseNew_made {α : Type} {T : String} {e t : Addr} {Q : α → Shared → Prop} (hH : Hnd A s.heap) (he : s.heap.get? e = some (excObj T t .none .none)) (hne : ∀ e0, A.handled = some (.ref e0) → e0 ≠ e)
    (h : ∀ h' cx, h'.get? e = some (excObj T t .none cx) → Heap.SameBut e s.heap h' → E (.ref e) { s with heap := h' }) : wpAny (model prog w) A (raiseNew (.ref e) : Sem α) Q E s := by
  unfold raiseNew
  refine wpAny_bind (wpAny_handled ?_)
  rcases hH with hh | ⟨e0, o, vs, hh, ho, hd, h2⟩
  · rw [hh]
    have := h s.heap .none he (.refl _ _)
    first
      | exact wpAny_throw this
      | exact wpAny_bind (wpAny_pure (wpAny_throw this))
  · rw [hh]
    have hb : (Value.ref e0 != Value.ref e) = true := by simpa using hne e0 hh
    dsimp only
    rw [if_pos hb]
    refine wpAny_bind (wpAny_holding (unchain_wp ho hd h2 ?_))
    show wpAny (model prog w) A (setField (.ref e) 2 (.ref e0) >>= fun _ => throw (.ref e)) Q E s
    refine wpAny_bind (wpAny_setField (i := 2) (x := .ref e0) he rfl (by simp) (wpAny_throw (h _ (.ref e0) ?_ (.update _ _ _))))
    exact Heap.get?_update_self _ he rfl

theorem raiseStmt_madeH {T : String} (F : ExcRaiseFacts T) {env : Env} {x : Sem Value} {Q : Flow → Shared → Prop}
    (h : wpAny (model prog w) A x (fun v s₁ => ∃ e t, v = .ref e ∧ s₁.heap.get? e = some (excObj T t .none .none) ∧ Hnd A s₁.heap ∧ (∀ e0, A.handled = some (.ref e0) → e0 ≠ e) ∧
      ∀ h' cx, h'.get? e = some (excObj T t .none cx) → Heap.SameBut e s₁.heap h' → E (.ref e) { s₁ with heap := h' }) E s) :
    wpAny (model prog w) A (raiseStmt env (some x) none) Q E s := by
  unfold raiseStmt
  refine wpAny_bind (wpAny_mono h (fun v s₁ h₁ => ?_) fun _ _ x => x)
  obtain ⟨e, t, rfl, he, hH, hne, hE⟩ := h₁
  obtain ⟨hp, g, d, tk, os⟩ := s₁
  have hsub := F.isExc
  have hmeta := F.plainMeta
  repeat (first | refine wpAny_loadPart he ?_ | wp_step)
  exact raiseNew_made hH he hne hE

/-- raise X(..) with a built-in class, whatever is handled -/
theorem Raise_callH {cls newId initId : String} (F : ExcCallFacts cls newId initId) (G : ExcRaiseFacts cls) {env : Env} {x : Str} {np cpos pos : Pos} {args : List Expr} {Q : Flow → Shared → Prop} (hplain : (backTo cpos (starEach args env)).any (·.1) = false)
    (h : wpAny (model prog w) A (eval (.Name x np) env) (fun f s₁ => f = .type cls ∧ wpAny (model prog w) A (evalArgs (.type cls) true (backTo cpos (starEach args env)) [])
      (fun a s₂ => a.kw = [] ∧ a.pos.length ≤ sizeLine ∧ Hnd A s₂.heap ∧ (∀ e0, A.handled = some (.ref e0) → ∃ o, s₂.heap.get? e0 = some o) ∧
        ∀ h' e t cx, (∀ b o, s₂.heap.get? b = some o → h'.get? b = some o) → s₂.heap.get? e = none → s₂.heap.get? t = none → h'.get? e = some (excObj cls t .none cx) → h'.get? t = some { cls := .type "tuple", data := .seq a.pos.toArray } → E (.ref e) { s₂ with heap := h' }) E s₁) E s) :
    wpAny (model prog w) A (exec (.Raise (some (.Call (.Name x np) args [] cpos)) none pos) env) Q E s := by
  rw [arm_exec_Raise]
  show wpAny _ A (do standAt pos; raiseStmt env (some (do let v ← eval (.Call (.Name x np) args [] cpos) env; standAt pos; pure v)) none) Q E s
  refine wpAny_bind (wpAny_standAt (raiseStmt_madeH G (wpAny_bind (wpAny_Call_ofName (wpAny_mono h (fun f s₁ h₁ => ?_) fun _ _ x => x)))))
  refine hideG fun G KG => ?_
  obtain ⟨rfl, h₁⟩ := h₁
  refine KG ?_
  refine callWith_excType hplain (wpAny_mono h₁ (fun a s₂ h₂ => ?_) fun _ _ x => x)
  refine hideG fun G KG => ?_
  obtain ⟨apos, akw⟩ := a
  obtain ⟨hkw, hlen, hH, hlv, h₂⟩ := h₂
  obtain rfl : akw = [] := hkw
  obtain ⟨hp, g, d, tk, os⟩ := s₂
  refine KG ?_
  refine wpAny_call_exc F (hrest := hlen) fun h' e hm => wpAny_bind (wpAny_standAt (wpAny_pure ?_))
  obtain ⟨t, ht, htn, htt⟩ := hm.there
  refine ⟨e, t, rfl, ht, hH.keeps hm.keeps, fun e0 q r => ?_, fun h'' cx he hs => h₂ h'' e t cx (fun b o q => ?_) hm.new htn he ((hs.2 t fun q => ?_).trans htt)⟩
  · obtain ⟨o, ho⟩ := hlv e0 q
    rw [r] at ho
    have := hm.new
    rw [show ({ heap := hp, gens := g, drawn := d, toks := tk, os := os } : Shared).heap = hp from rfl] at ho
    rw [ho] at this; cases this
  · refine (hs.2 b fun r => ?_).trans (hm.keeps b o q)
    have q' : hp.get? b = some o := q
    have := hm.new
    rw [← r, q'] at this; cases this
  · rw [q, ht] at htt
    cases htt
end
end Mine
namespace Mine
section
variable {c : Cx} {n : Nat} {sc : Scope} {k : Bool} {ρ : Sto}

theorem TruR.none : TruR c .none false := fun A V s v _ _ r => by cases r.inv; exact fun _ _ _ => ⟨.refl s, rfl⟩
/-- the parts of a text that is put together -/
structure EvJ (c : Cx) (n : Nat) (sc : Scope) (ρ : Sto) (es : List Expr) (l : List Nat) : Prop where
  run : ∀ A env V0 h0 Cs X s out, Room c n A → Fm c sc env V0 h0 Cs X ρ s → out.length + l.length ≤ 16777216 →
    wpAny c.M A (joinParts (S out) (evalEach es env)) (fun v s' => Gr s s' ∧ ∃ t, v = .str (S (out ++ l)) t) (fun _ _ => False) s
theorem EvJ.nil : EvJ c n sc ρ [] [] := .mk fun A env V0 h0 Cs X s out hA F hz =>
  wp_end (joinParts_nil ⟨fun _ _ e => e, rfl, rfl, fun _ => ⟨_, by rw [List.append_nil]⟩⟩ (by rw [S_length, sizeLine_eq]; omega))
theorem EvJ.cons {e : Expr} {es : List Expr} {l m : List Nat} (h : Ev c n sc true ρ e (sd l)) (hs : EvJ c n sc ρ es m) : EvJ c n sc ρ (e :: es) (l ++ m) := .mk fun A env V0 h0 Cs X s out hA F hz => by
  refine joinParts_cons (wpAny_mono (h.run A env V0 h0 Cs X s hA F) (fun v s₁ q => ?_) fun _ _ q => q)
  obtain ⟨g, r⟩ := q
  simp at hz
  obtain ⟨t, rfl⟩ := r.inv
  refine ⟨by rw [S_append, S_length, sizeLine_eq]; simp; omega, ?_⟩
  rw [S_append]
  refine wpAny_mono (hs.run A env V0 h0 Cs X s₁ (out ++ l) hA (F.gr g) (by simp; omega)) (fun v s₂ q => ⟨g.trans q.1, ?_⟩) fun _ _ q => q
  obtain ⟨t', e⟩ := q.2
  exact ⟨t', by rw [e, List.append_assoc]⟩
theorem Ev.joined {e₁ e₂ : Expr} {es : List Expr} {pos : Pos} {l : List Nat} (h : EvJ c n sc ρ (e₁ :: e₂ :: es) l) (hz : l.length ≤ 16777216) : Ev c n sc k ρ (.JoinedStr (e₁ :: e₂ :: es) pos) (sd l) := .mk fun A env V0 h0 Cs X s hA F =>
  JoinedStr_many (wpAny_mono (h.run A env V0 h0 Cs X s [] hA F (by simpa using hz)) (fun v s' q => ⟨q.1, by obtain ⟨t, rfl⟩ := q.2; exact .str _ _⟩) fun _ _ q => q)
end
end Mine
namespace Mine

/-- facts of a built-in type's name -/
structure NameOk (T : String) : Prop where
  nb : (Value.type T == Value.type "builtin_function_or_method") = false
  km : kitMeta T = true
  st : Manifest.isStub T = false
  fc : findCls [] (.type T) (.type "type") "__name__" = some (.get (.builtin "getset_descriptor.__get__") (.builtin "type.__name__") (.type T) (.type "type"))
  q : ktynFast T = T
  z : (cs T).length ≤ 1000
theorem nameOk_int : NameOk "int" := ⟨by decide, by decide +kernel, by decide +kernel, by rfl, by decide +kernel, by decide +kernel⟩
theorem nameOk_none : NameOk "NoneType" := ⟨by decide, by decide +kernel, by decide +kernel, by rfl, by decide +kernel, by decide +kernel⟩
theorem nameOk_bytes : NameOk "bytes" := ⟨by decide, by decide +kernel, by decide +kernel, by rfl, by decide +kernel, by decide +kernel⟩

/-- d is of the type T and is written r -/
structure ReprOf (c : Cx) (d : D) (r : List Nat) (T : String) : Prop where
  ty : ∀ V s v, Rep c V s d v → s.TypeIs v T
  nm : NameOk T
  len : r.length ≤ 1000000
  run : ∀ A V s v, Room c 0 A → St c V s → Rep c V s d v → wpAny c.M A (pyReprObj v) (fun o s' => (∃ t', o = .str (S r) t') ∧ Gr s s') (fun _ _ => False) s

section
variable {c : Cx} {n : Nat} {sc : Scope} {k : Bool} {ρ : Sto}

theorem ReprOf.int {i : Int} (hi : i.natAbs.log2 < 1920) : ReprOf c (.int i) (intL i) "int" :=
  ⟨fun V s v r => by obtain ⟨_, rfl⟩ := r.inv; exact typeIs_int _ _ _, nameOk_int, by
    have e := int_text_length_le (k := 1920) (by decide) hi
    have e2 : (S (intL i)).length = (toString i).length := by rw [← ofString_S]; exact PySem.ofString_length _
    rw [S_length] at e2
    omega, fun A V s v _ _ r => by
    obtain ⟨_, rfl⟩ := r.inv
    exact wpAny_with_toks (Nat.le_refl _) (pyReprObj_int hi fun ht => ⟨⟨_, by rw [ofString_S]⟩, Keeps.refl _, ht, rfl, rfl⟩)⟩
theorem ReprOf.none : ReprOf c .none (cs "None") "NoneType" :=
  ⟨fun V s v r => by cases r.inv; exact rfl, nameOk_none, by decide +kernel, fun A V s v _ _ r => by
    cases r.inv
    exact wpAny_with_toks (Nat.le_refl _) (pyReprObj_none fun ht => ⟨⟨_, by rw [ofString_S]⟩, Keeps.refl _, ht, rfl, rfl⟩)⟩
/-- {e!r} -/
theorem Ev.fmtR {e : Expr} {pos : Pos} {d : D} {r : List Nat} {T : String} (he : Ev c n sc k ρ e d) (h : ReprOf c d r T) : Ev c n sc k ρ (.FormattedValue e 114 Option.none pos) (sd r) := .mk fun A env V0 h0 Cs X s hA F => by
  refine wpAny_FormattedValue_repr (wpAny_mono (he.run A env V0 h0 Cs X s hA F) (fun v s₁ q => ?_) fun _ _ q => q)
  obtain ⟨g, rv⟩ := q
  refine wpAny_mono (h.run A _ s₁ v hA.zero ((F.st k).gr g) rv) (fun o s₂ q => ?_) fun _ _ q => q
  obtain ⟨⟨t', rfl⟩, g₂⟩ := q
  exact wp_gr (g.trans g₂) (wp_end (formatField_str (fun t' tk => ⟨fun _ _ e => e, rfl, rfl, fun _ => .str _ _⟩) (by rw [S_length, sizeLine_eq]; exact Nat.le_trans h.len (by decide))))
/-- {e!s} of a text -/
theorem Ev.fmtS {e : Expr} {pos : Pos} {l : List Nat} (he : Ev c n sc k ρ e (sd l)) (hz : l.length ≤ 16777216) : Ev c n sc k ρ (.FormattedValue e 115 Option.none pos) (sd l) := .mk fun A env V0 h0 Cs X s hA F => by
  refine wpAny_FormattedValue_s (wpAny_mono (he.run A env V0 h0 Cs X s hA F) (fun v s₁ q => ?_) fun _ _ q => q)
  obtain ⟨g, rv⟩ := q
  obtain ⟨t, rfl⟩ := rv.inv
  have hz' : (S l).length ≤ sizeLine := by rw [S_length, sizeLine_eq]; exact hz
  refine wpAny_with_toks (n := s₁.toks) (Nat.le_refl _) (SB.convS_str (fun t' k' => ?_) hz')
  intro ht
  exact wp_gr (g.trans (Gr.toks ht)) (wp_end (formatField_str (fun t'' tk => ⟨fun _ _ e => e, rfl, rfl, fun _ => .str _ _⟩) hz'))

theorem FunFrames_push {B h : Heap} {env : Env} {l : List Env} {L : Addr} {o : Obj} (hk : env.scope.kind ≠ .module) (hf : env.frame = some L) (hn : B.get? L = none) (ho : h.get? L = some o) (hd : ∀ vs, o.data ≠ .fields vs) (hl : h.FunFrames B l) : h.FunFrames B (env :: l) :=
  ⟨hk, ⟨L, o, hf, hn, ho, hd⟩, hl⟩

/-- the stack with the frame at hand -/
theorem Fm.stk {env V0 h0 Cs X s} {A : Around} {B : Heap} {l : List Env} {s₀ : Shared} (F : Fm c sc env V0 h0 Cs X ρ s) (hf : env.frame = some env.locals) (hn : s₀.heap.get? env.locals = Option.none) (K : Stk c A B l s₀.heap) (g : Gr s₀ s) :
    Stk c (A.deeper env) B (env :: l) s.heap := by
  obtain ⟨m, fps, ⟨o, es, ep, ho, hd, _⟩, _⟩ := F.sto
  have K' := K.gr g
  refine ⟨Around.frames_deeper K.stack, K.base, K'.stays, FunFrames_push (by rw [F.scope, F.kind]; decide) hf ?_ ho (fun vs q => by rw [hd] at q; cases q) K'.frames⟩
  cases q : B.get? env.locals with
  | none => rfl
  | some o' => have := K.stays _ _ q; rw [hn] at this; cases this

end
end Mine
namespace Mine

/-- an exception has just been made and raised -/
structure Thrown (T : String) (s : Shared) (ev : Value) (s' : Shared) : Prop where
  ex : ∃ e t, ev = .ref e ∧ s.heap.get? e = none ∧ s'.heap.get? e = some (excObj T t .none .none)
  keep : Keeps s.heap s'.heap
  tok : s.toks ≤ s'.toks
  gens : s'.gens = s.gens
  os : s'.os = s.os
theorem Thrown.gr {T : String} {s s₁ s' : Shared} {ev : Value} (h : Thrown T s₁ ev s') (g : Gr s s₁) : Thrown T s ev s' := by
  obtain ⟨⟨e, t, rfl, h1, h2⟩, k, a, b, d⟩ := h
  refine ⟨⟨e, t, rfl, ?_, h2⟩, g.keep.trans k, Nat.le_trans g.tok a, b.trans g.gens, d.trans g.os⟩
  cases q : s.heap.get? e with
  | none => rfl
  | some o => have := g.keep _ _ q; rw [h1] at this; cases this

section
variable {prog : Program} {w : World} {A : Around} {E : Value → Shared → Prop} {s : Shared}

theorem throw_made {α : Type} {T msg : String} {Q : α → Shared → Prop} (hp : PlainExc T) (hh : A.handled = none) (hz : (Str.ofString msg).length ≤ sizeLine) (h : ∀ ev s', Thrown T s ev s' → E ev s') :
    wpAny (model prog w) A (raiseErrorMade T msg : Sem α) Q E s := by
  unfold raiseErrorMade
  refine wpAny_with_toks (Nat.le_refl _) ?_
  refine wpAny_bind (wpAny_mkStr (wpAny_bind (wpAny_newExc_plain hp fun h' e hm => wpAny_raiseNew_none hh fun ht => ?_)) hz)
  obtain ⟨t, h1, _, _⟩ := hm.there
  exact h _ _ ⟨⟨e, t, rfl, hm.new, h1⟩, hm.keeps, ht, rfl, rfl⟩

/-- what a type must lack so that nothing is in its things -/
structure NoIn (T : String) : Prop where
  c : typeLookup (.type T) "__contains__" = pure none
  i : typeLookup (.type T) "__iter__" = pure none
  g : typeLookup (.type T) "__getitem__" = pure none
  z1 : (Str.ofString (toString "'" ++ toString T ++ toString "' object is not iterable")).length ≤ sizeLine
  z2 : (Str.ofString (toString "argument of type '" ++ toString T ++ toString "' is not iterable")).length ≤ sizeLine

theorem in_none {T : String} {v u : Value} {Q : Value → Shared → Prop} (N : NoIn T) (hT : s.TypeIs v T) (hnm : PySem.typeNameOf v = pure T) (hsay : stdlibNamesSay? v u = none) (hTy : ∀ s' : Shared, Keeps s.heap s'.heap → s'.TypeIs v T) (hh : A.handled = none)
    (h : ∀ ev s', Thrown "TypeError" s ev s' → E ev s') : wpAny (model prog w) A (compareOp .In u v) Q E s := by
  unfold compareOp
  dsimp only
  refine wpAny_bind ?_
  unfold contains
  refine wpAny_holding ?_
  rw [hsay]
  dsimp only
  refine wpAny_bind (wpAny_specialOf hT N.c ?_)
  rw [if_neg (by decide)]
  refine wpAny_bind (wpAny_callSpecialUnlessNone?_none hT N.c ?_)
  dsimp only
  refine wpAny_bind (wpAny_rule ?_)
  refine wpAny_bind (wpAny_tryCatch ?_)
  unfold pyIter
  refine wpAny_bind (wpAny_specialOf hT N.i ?_)
  dsimp only
  refine wpAny_bind (wpAny_specialOf hT N.g ?_)
  dsimp only
  refine wpAny_bind (wpAny_rule ?_)
  rw [hnm]
  refine wpAny_bind (wpAny_pure ?_)
  refine throw_made plainExc_TypeError hh N.z1 fun ev s₁ x => ?_
  obtain ⟨⟨e, t, rfl, h1, h2⟩, k, a, b, d⟩ := x
  refine wpAny_bind (wpAny_isInstance (T := "TypeError") (b := true) ⟨_, h2, rfl⟩ (by rw [isSubtype_type]; kernel_rfl) ?_)
  rw [if_pos rfl]
  refine wpAny_bind (wpAny_pure ?_)
  exact throw_made plainExc_TypeError hh N.z2 fun ev s₂ x => h ev s₂ (x.gr ⟨k, a, b, d⟩)
end
theorem noIn_int : NoIn "int" := ⟨by rw [typeLookup_type, builtinLookup_eq_fast]; kernel_rfl, by rw [typeLookup_type, builtinLookup_eq_fast]; kernel_rfl, by rw [typeLookup_type, builtinLookup_eq_fast]; kernel_rfl, by decide +kernel, by decide +kernel⟩
theorem noIn_none : NoIn "NoneType" := ⟨by rw [typeLookup_type, builtinLookup_eq_fast]; kernel_rfl, by rw [typeLookup_type, builtinLookup_eq_fast]; kernel_rfl, by rw [typeLookup_type, builtinLookup_eq_fast]; kernel_rfl, by decide +kernel, by decide +kernel⟩

theorem slot_bytes_contains : PySem.Slot "bytes" "__contains__" "bytes.__contains__" :=
  .of (owner := "bytes") (n := "__contains__") (by rw [typeLookup_type, builtinLookup_eq_fast]; kernel_rfl) (by decide +kernel) (by decide +kernel) (by decide +kernel)
    (by first | exact .inl (by decide +kernel) | exact .inr (by decide +kernel)) (by rw [isSubtype_type]; kernel_rfl)
theorem entry_bytes_contains : entryFor table "bytes.__contains__" = some Builtin.«bytes.__contains__» := entryFor_of_tree (by kernel_rfl)
theorem args_bytes_contains (a b : Value) : argsOk "bytes.__contains__" ⟨[a, b], []⟩ := by unfold argsOk; kernel_rfl
section
variable {prog : Program} {w : World} {A : Around} {E : Value → Shared → Prop} {s : Shared}
theorem in_bytes {bs : Array UInt8} {tk t : Tok} {x : PySem.Str} {Q : Value → Shared → Prop} (hh : A.handled = none)
    (h : ∀ ev s', Thrown "TypeError" s ev s' → E ev s') : wpAny (model prog w) A (compareOp .In (.str x tk) (.bytes bs t)) Q E s := by
  unfold compareOp
  dsimp only
  refine wpAny_bind ?_
  unfold contains
  refine wpAny_holding ?_
  rw [show stdlibNamesSay? (.bytes bs t) (.str x tk) = none from rfl]
  dsimp only
  have hT : s.TypeIs (.bytes bs t) "bytes" := rfl
  refine wpAny_bind (wpAny_specialOf hT slot_bytes_contains.lookup ?_)
  rw [if_neg (by decide)]
  refine wpAny_bind (wpAny_callSpecialUnlessNone?_slot (name := Str.ofString "__contains__") hT slot_bytes_contains ?_)
  refine wpAny_call (codeAny_call_builtin slot_bytes_contains.plain entry_bytes_contains (slot_bytes_contains.check _ _ _ _ _ _ _ _ hT (args_bytes_contains _ _) ?_))
  unfold Builtin.«bytes.__contains__»
  refine wpAny_bind (wpAny_of_eq (a := (.bytes bs t, [.str x tk])) (by kernel_rfl) ?_)
  dsimp only
  refine wpAny_bind ?_
  unfold Builtin.Bytes.containsIn
  have hS : s.TypeIs (.str x tk) "str" := typeIs_str _ _ _
  refine wpAny_bind (wpAny_attempt ?_)
  unfold asIndex
  refine wpAny_bind (wpAny_of_eq (a := none) rfl ?_)
  dsimp only
  refine wpAny_bind (wpAny_callSpecial?_none hS (by rw [typeLookup_type, builtinLookup_eq_fast]; kernel_rfl) ?_)
  dsimp only
  refine wpAny_bind (wpAny_of_eq (a := "str") (by kernel_rfl) ?_)
  refine throw_made plainExc_TypeError hh (by decide +kernel) fun ev s₁ x₁ => ?_
  refine hideG fun G KG => ?_
  obtain ⟨⟨e, t1, rfl, h1, h2⟩, k, a, b, d⟩ := x₁
  have hT1 : s₁.TypeIs (.bytes bs t) "bytes" := rfl
  have hS1 : s₁.TypeIs (.str x tk) "str" := typeIs_str _ _ _
  have lb : typeLookup (.type "bytes") (Str.ofString "__buffer__") = pure (some (.builtin "bytes.__buffer__")) := by rw [typeLookup_type, builtinLookup_eq_fast]; kernel_rfl
  have lr : typeLookup (.type "bytes") (Str.ofString "__release_buffer__") = pure none := by rw [typeLookup_type, builtinLookup_eq_fast]; kernel_rfl
  have ls : typeLookup (.type "str") (Str.ofString "__buffer__") = pure none := by rw [typeLookup_type, builtinLookup_eq_fast]; kernel_rfl
  refine KG ?_
  refine wpAny_bind ?_
  unfold Builtin.Bytes.buffer?
  refine wpAny_bind (wpAny_specialOf hT1 lb ?_)
  dsimp only
  refine wpAny_bind ?_
  unfold Builtin.Bytes.slotIsOwn
  refine wpAny_bind (wpAny_specialOf (name := Str.ofString "__buffer__") hT1 lb ?_)
  dsimp only
  rw [if_neg (by decide +kernel)]
  refine wpAny_isInstance (T := "bytes") (b := true) hT1 (by rw [isSubtype_type]; kernel_rfl) ?_
  rw [if_neg (by decide)]
  refine wpAny_bind (wpAny_specialOf (name := Str.ofString "__buffer__") hT1 lb ?_)
  unfold Builtin.Bytes.ownRelease Builtin.Bytes.slotIsOwn
  refine wpAny_bind (wpAny_bind (wpAny_bind (wpAny_specialOf (name := Str.ofString "__release_buffer__") hT1 lr ?_)))
  dsimp only
  refine wpAny_pure (wpAny_pure ?_)
  rw [if_neg (by decide)]
  refine wpAny_bind (wpAny_of_eq (a := bs) rfl (wpAny_pure ?_))
  dsimp only
  refine wpAny_bind (wpAny_bind (wpAny_specialOf (name := Str.ofString "__buffer__") hS1 ls ?_))
  dsimp only
  refine wpAny_bind (wpAny_specialOf (name := Str.ofString "__buffer__") hS1 ls ?_)
  dsimp only
  refine wpAny_pure ?_
  dsimp only
  refine wpAny_bind (wpAny_rule ?_)
  refine wpAny_bind (wpAny_of_eq (a := "str") (by kernel_rfl) ?_)
  exact throw_made plainExc_TypeError hh (by decide +kernel) fun ev s₂ y => h ev s₂ (y.gr ⟨k, a, b, d⟩)
end
end Mine
namespace Mine

/-- only the slots of some places have turned -/
structure Slt (fr : List Addr) (s s' : Shared) : Prop where
  keep : ∀ b o, b ∉ fr → s.heap.get? b = some o → s'.heap.get? b = some o
  up : ∀ b o, b ∈ fr → s.heap.get? b = some o → ∃ sl, s'.heap.get? b = some { o with slots := sl }
  tok : s.toks ≤ s'.toks
  gens : s'.gens = s.gens
  os : s'.os = s.os
theorem Slt.of_gr {fr : List Addr} {s s' : Shared} (g : Gr s s') : Slt fr s s' := ⟨fun b o _ e => g.keep b o e, fun b o _ e => ⟨o.slots, g.keep b o e⟩, g.tok, g.gens, g.os⟩
theorem Slt.trans {fr : List Addr} {s s' s'' : Shared} (a : Slt fr s s') (b : Slt fr s' s'') : Slt fr s s'' :=
  ⟨fun x o h e => b.keep x o h (a.keep x o h e), fun x o h e => let ⟨_, e₁⟩ := a.up x o h e; let ⟨sl, e₂⟩ := b.up x _ h e₁; ⟨sl, e₂⟩, Nat.le_trans a.tok b.tok, b.gens.trans a.gens, b.os.trans a.os⟩
theorem Slt.ns {fr : List Addr} {s s' : Shared} (a : Slt fr s s') {L : Addr} {m : Str → Option Value} (h : s.heap.Ns L m) : s'.heap.Ns L m := by
  obtain ⟨o, es, ep, ho, hd, r⟩ := h
  by_cases q : L ∈ fr
  · obtain ⟨sl, e⟩ := a.up L o q ho; exact ⟨_, es, ep, e, hd, r⟩
  · exact ⟨o, es, ep, a.keep L o q ho, hd, r⟩
/-- from a base that is all but the frames -/
theorem Slt.of_hide {fr : List Addr} {s s' : Shared} (hb : (hideAll s.heap fr).StaysIn s'.heap) (hu : s.heap.UpToSlots s'.heap) (hd : ∀ b o, b ∈ fr → s.heap.get? b = some o → ∀ vs, o.data ≠ .fields vs) (t : s.toks ≤ s'.toks) (g : s'.gens = s.gens) (o : s'.os = s.os) : Slt fr s s' :=
  ⟨fun b ob h e => hb b ob (hideAll_get fr e h), fun b ob h e => hu b ob e (hd b ob h e), t, g, o⟩

section
variable {c : Cx} {sc : Scope} {ρ : Sto}
/-- a frame behind a raise -/
theorem Fm.noted {env V0 h0 h0' Cs X s s'} {fr : List Addr} (F : Fm c sc env V0 h0 Cs X ρ s) (t : Slt fr s s') (hfr : ∀ a ∈ fr, V0 a ∨ a = env.locals) (hb : Keeps c.base h0') (hk : Keeps h0' s'.heap) (hn : ∀ a ∈ X, h0'.get? a = none) (hcs : Cs = env.cells) :
    Fm c sc env V0 h0' Cs X ρ s' := by
  obtain ⟨m, fps, h1, h2, h3, h4, h6, h5⟩ := F.sto
  have hLX : env.locals ∈ X := h2 ▸ .head _
  have hoff : ∀ a, ¬ Vol V0 X a → a ∉ fr := fun a na q => (hfr a q).elim (fun q => na (.inl q)) fun q => na (.inr (q ▸ hLX))
  have hX : ∀ a ∈ X, a ≠ env.locals → a ∉ fr := fun a ha hne q => (hfr a q).elim (fun q => (F.live0 a q).2 ha) hne
  have hlive : ∀ a o, s.heap.get? a = some o → ∃ o', s'.heap.get? a = some o' := fun a o e => by
    by_cases q : a ∈ fr
    · obtain ⟨sl, e'⟩ := t.up a o q e; exact ⟨_, e'⟩
    · exact ⟨o, t.keep a o q e⟩
  have hndL : env.locals ∉ Cs.map (·.2) ++ fps := (List.nodup_cons.mp (h2 ▸ h3)).1
  have hcm : Calm (Vol V0 X) s s' := ⟨t.tok, fun b o nb e _ => t.keep b o (hoff b nb) e⟩
  refine ⟨F.good, F.scope, F.kind, F.globals, F.builtins, hb, hk, fun e => F.tok (Nat.le_zero.mp (e ▸ t.tok)), fun a q => ⟨let ⟨o, e⟩ := (F.live0 a q).1; hlive a o e, (F.live0 a q).2⟩, F.ccells, hn, F.cells, F.cinj,
    m, fps, t.ns h1, h2, h3, fun a ha => let ⟨o, e⟩ := h4 a ha; hlive a o e, fun p hp => ?_, h5.change hcm (fun a ha o e => t.keep a o ?_ e) (fun _ _ _ => rfl) fun p hp a o w hc e hw => ?_⟩
  · obtain ⟨v, o, e, d⟩ := h6 p hp
    have hp2 : p.2 ∈ Cs.map (·.2) := List.mem_map_of_mem hp
    exact ⟨v, o, t.keep _ o (hX _ (h2 ▸ .tail _ (List.mem_append_left _ hp2)) fun q => hndL (q ▸ List.mem_append_left _ hp2)) e, d⟩
  · exact hX a (h2 ▸ .tail _ (List.mem_append_right _ ha)) fun q => hndL (q ▸ List.mem_append_right _ ha)
  · have hp2 : a ∈ Cs.map (·.2) := by rw [hcs]; exact List.mem_map.mpr ⟨_, mem_lookup hc, rfl⟩
    exact t.keep a o (hX a (h2 ▸ .tail _ (List.mem_append_left _ hp2)) fun q => hndL (q ▸ List.mem_append_left _ hp2)) e
end

section
variable {M : Model} {A : Around} {E : Value → Shared → Prop} {s : Shared}
/-- an exception that has left a callee is noted in this frame, comes back from a clause's suite and leaves -/
theorem held_back {B : Heap} {env : Env} {l : List Env} {L e : Addr} {cls a0 : Value} (hf : env.frame = some L) (hh : Heap.HeldW B (env :: l) e cls a0 L s.heap)
    (h : ∀ h', Heap.HeldW B (env :: l) e cls a0 L h' → s.heap.UpToSlots h' → E (.ref e) { s with heap := h' }) : cameBackBy M A env E (.ref e) s := by
  obtain ⟨f1, f2, f3, oe, vs, T, oT, ts, a1, a2, a3, a4, a5, a6, a7, a8, a9⟩ := hh
  have hsz3 : 3 < ts.size := (Array.getElem?_eq_some_iff.mp a9).1
  unfold cameBackBy
  refine wpAny_bind (wpAny_field a1 a3 a4 ?_)
  rw [if_neg (by simp)]
  unfold setFlight
  refine wpAny_bind (wpAny_field a1 a3 a4 ?_)
  rw [if_pos (show (Value.ref T != Value.none) = true from by simp), hf]
  have other : ∀ b, b ≠ T → (s.heap.update T (Obj.mapFields (·.setIfInBounds 3 (rawInt L)))).get? b = s.heap.get? b := fun b hb => Heap.get?_update_other _ _ (Ne.symm hb)
  have noRecord : ∀ b o, s.heap.get? b = some o → (∀ vs, o.data ≠ .fields vs) → b ≠ T := fun b o hb hnf q => by
    rw [q, a7] at hb; injection hb with hb; subst hb; exact hnf ts a8
  refine wpAny_setField a7 a8 hsz3 (h _ ⟨fun b o hbo => (other b fun q => by rw [q, a5] at hbo; cases hbo).trans (f1 b o hbo), f2, f3.of_keeps fun b o hb hnf => ⟨o, (other b (noRecord b o hb hnf)).trans hb, rfl⟩, oe, vs, T, _, _, (other e (Ne.symm a6)).trans a1, a2, a3, a4, a5, a6,
    Heap.get?_update_self _ a7 (Obj.isFreed_of_fields (Obj.data_mapFields a8 _)), Obj.data_mapFields a8 _, by simp [hsz3]⟩ fun b o hb hnf => ⟨o.slots, (other b (noRecord b o hb hnf)).trans hb⟩)
theorem leave_held {B : Heap} {env : Env} {l : List Env} {L e : Addr} {cls a0 : Value} {Q : Unit → Shared → Prop} (hf : env.frame = some L) (hh : Heap.HeldW B (env :: l) e cls a0 L s.heap)
    (h : ∀ h', Heap.FlyingW B l e cls a0 h' → s.heap.UpToSlots h' → Q () { s with heap := h' }) : wpAny M A (leaving env (.ref e)) Q E s := by
  unfold leaving
  refine wpAny_bind (wpAny_noteFrame_againW hf hh.2.2.2 ?_)
  refine wpAny_landsW hh fun h' hfl hu => ?_
  obtain ⟨k1, k2, ⟨_, _, k3⟩, k4⟩ := hfl
  exact h h' ⟨k1, k2, k3, k4⟩ hu
end
end Mine
namespace Mine
section
variable {c : Cx} {n : Nat} {sc : Scope} {ρ : Sto}

/-- a sign in d: TypeError -/
noncomputable def InX (c : Cx) (d : D) : Prop := ∀ A V s v x tk, A.handled = none → Rep c V s d v → wpAny c.M A (compareOp .In (.str x tk) v) (fun _ _ => False) (Thrown "TypeError" s) s
theorem InX.int {i : Int} : InX c (.int i) := fun A V s v x tk hh r => by
  obtain ⟨_, rfl⟩ := r.inv
  exact in_none noIn_int (typeIs_int _ _ _) rfl rfl (fun s' _ => typeIs_int _ _ _) hh fun _ _ q => q
theorem InX.none : InX c .none := fun A V s v x tk hh r => by
  cases r.inv
  exact in_none noIn_none rfl rfl rfl (fun s' _ => rfl) hh fun _ _ q => q
theorem InX.bytes {b : List Nat} : InX c (.bytes b) := fun A V s v x tk hh r => by
  obtain ⟨_, rfl⟩ := r.inv
  exact in_bytes hh fun _ _ q => q

theorem Slt.upto {fr : List Addr} {s s' : Shared} (t : Slt fr s s') : s.heap.UpToSlots s'.heap := fun b o e _ => by
  by_cases q : b ∈ fr
  · exact t.up b o q e
  · exact ⟨o.slots, t.keep b o q e⟩
theorem Stk.slt {A B l s s'} {fr : List Addr} (K : Stk c A B l s.heap) (t : Slt fr s s') (hfr : ∀ b ∈ fr, B.get? b = Option.none) : Stk c A B l s'.heap :=
  ⟨K.stack, K.base, fun b o e => t.keep b o (fun q => by rw [hfr b q] at e; cases e) (K.stays b o e), K.frames.of_keeps fun b o e hd => let ⟨sl, e'⟩ := t.upto b o e hd; ⟨_, e', rfl⟩⟩
theorem Callee.h {fv : Value} (h : Callee c fv) : Callee c.h fv := by
  cases h with
  | builtin id => exact .builtin id
  | type T => exact .type T
  | func ho hd => exact .func ho hd

/-- a call that raises -/
theorem call_raises {f : Expr} {es : List Expr} {pos : Pos} {fv : Value} {ds : List D} {T : String} {m : List Nat} {A : Around} {env : Env} {V0 h0 Cs X s B l} (hA : Room c n A) (hH : Hnd A s.heap) (F : Fm c sc env V0 h0 Cs X ρ s) (K : Stk c A B l s.heap) (hV : ∀ a ∈ l.filterMap (·.frame), Vol V0 X a)
    (hf : Ev c n sc true ρ f (.val fv)) (hc : Callee c fv) (ha : EvL c n sc true ρ es ds) (h : FnX c n fv ds T m) (hp : es.all plainE = true := by rfl)
    (he : ∀ env : Env, eval (.Call f es [] pos) env = (do callWith pos (← eval f env) [] (backTo pos (starEach es env)) (backToKw pos (keywordEach [] env))) := by intro _; rfl) :
    wpAny c.M A (eval (.Call f es [] pos) env) (fun _ _ => False) (Fly B l T m s) s := by
  rw [he]
  refine wpAny_bind (wpAny_mono (hf.run A env V0 h0 Cs X s hA F) (fun v s₁ q₁ => ?_) fun _ _ q => q.elim)
  obtain ⟨g₁, r₁⟩ := q₁
  cases r₁.inv
  refine hc.wp hp (wpAny_mono (ha.run A env V0 h0 Cs X s₁ pos hA (F.gr g₁)) (fun vs s₂ q₂ => ⟨((F.gr g₁).gr q₂.1).base.trans ((F.gr g₁).gr q₂.1).keep, ?_⟩) fun _ _ q => q.elim)
  have g := g₁.trans q₂.1
  have hvk : VK true V0 X = Vol V0 X := by funext a; simp [VK]
  refine wpAny_mono (h.run A _ s₂ vs B l hA (hH.keeps g.keep) (K.gr g) (fun a ha => ⟨rfl, hV a ha⟩) ((F.st true).gr g) q₂.2) (fun _ _ q => q) fun ev s' q => ?_
  exact ⟨q.ex, (Heap.UpToSlots.of_keeps g.keep).trans q.up, Nat.le_trans g.tok q.tok, q.gens.trans g.gens, q.os.trans g.os⟩

theorem frames_hidden {h B : Heap} {l : List Env} (hl : h.FunFrames B l) : h.FunFrames (hideAll h (l.filterMap (·.frame))) l :=
  funFrames_hide hl fun env he a ha => List.mem_filterMap.mpr ⟨env, he, ha⟩
theorem hidden_stays {h B : Heap} {l : List Env} (hk : B.StaysIn h) (hl : h.FunFrames B l) : B.StaysIn (hideAll h (l.filterMap (·.frame))) := fun b o e =>
  hideAll_get _ (hk b o e) fun q => by rw [(hl.mem q).1] at e; cases e

theorem isExc_AttributeError : isSubtype (.type "AttributeError") (.type "BaseException") = pure true := by rw [isSubtype_type]; kernel_rfl
theorem notTuple_AttributeError : isSubtype (.type ((Manifest.find? "AttributeError").elim "type" fun x => x.metatype)) (.type "tuple") = pure false := by
  rw [show ((Manifest.find? "AttributeError").elim "type" fun x => x.metatype) = "type" by rw [find?_eq_fast]; kernel_rfl, isSubtype_type]; kernel_rfl

end
end Mine
namespace Mine

noncomputable abbrev upd (m : Str → Option Value) (x : Str) (v : Value) : Str → Option Value := fun y => if y = x then some v else m y
theorem NsK.look {h : Heap} {a : Addr} {m : Str → Option Value} {k : Nat} (x : NsK h a m k) : ∃ o, h.get? a = some o ∧ ∀ name, lookIn name o = some (m name) := by
  obtain ⟨es, ep, h1, h2, h3, _⟩ := x
  refine ⟨_, h1, fun name => ?_⟩
  have hany : es.toList.any (·.refKey) = false := by
    rw [List.any_eq_false]; intro e he; obtain ⟨n, t, h⟩ := h2 e (Array.mem_toList_iff.mp he); simp [DictEntry.refKey, h]
  unfold lookIn
  dsimp only
  rw [← h3 name]
  unfold nsFind findBy
  rw [← Array.find?_toList]
  cases hf : es.toList.find? (·.key.isStr name) with
  | some e => rfl
  | none => rw [hany]; rfl
section
variable {M : Model} {A : Around} {E : Value → Shared → Prop} {s : Shared}
theorem nsSet_K {a : Addr} {m : Str → Option Value} {k : Nat} {name : Str} {v : Value} {Q : Unit → Shared → Prop} (hn : NsK s.heap a m k)
    (hQ : ∀ h', NsK h' a (upd m name v) (k + 1) → Heap.SameBut a s.heap h' → Q () { s with heap := h', toks := s.toks + 1 }) : wpAny M A (nsSet a name v) Q E s := by
  obtain ⟨es, ep, ho, hk, hm, hz⟩ := hn
  have hany : es.any (·.refKey) = false := by
    rw [Array.any_eq_false']; intro e he; obtain ⟨n, t, h⟩ := hk e he; simp [DictEntry.refKey, h]
  unfold nsSet
  refine wpAny_bind (wpAny_bind (wpAny_askSetting (wpAny_pure (wpAny_bind (wpAny_mkText (wpAny_bind (wpAny_loadPart (s := { s with toks := s.toks + 1 }) ho ?_)))))))
  dsimp only
  rw [aRefKeyMayBeTheName_at, hany, Bool.and_false]
  rw [if_neg (by decide)]
  refine wpAny_updatePart ho ?_
  refine hQ _ ?_ (.update _ _ _)
  cases hi : es.findIdx? (·.key.isStr name) with
  | some i =>
    refine ⟨es.modify i fun e => { e with val := v }, ep, ?_, hk.modify _ _, fun x => ?_, by simpa using Nat.le_succ_of_le hz⟩
    · rw [Heap.get?_update_self _ ho (by simp only [Obj.putName_eq, Obj.putNameByArray, hi] <;> rfl)]
      simp only [Obj.putName_eq, Obj.putNameByArray, hi] <;> rfl
    · show _ = if x = name then some v else m x
      rw [← hm]; exact findBy_modify (fun n v => v.isStr n) Value.isStr_inj es name x v i hi
  | none =>
    refine ⟨es.push ⟨if name.cps.isEmpty = true then 0 else reduceHash (M.w.params.strHash name.cps), .str name s.toks, v⟩, ep + 1, ?_, hk.push _ _ _ _, fun x => ?_, by simpa using Nat.succ_le_succ hz⟩
    · rw [Heap.get?_update_self _ ho (by simp only [Obj.putName_eq, Obj.putNameByArray, hi] <;> rfl)]
      simp only [Obj.putName_eq, Obj.putNameByArray, hi] <;> rfl
    · show _ = if x = name then some v else m x
      rw [← hm]
      exact findBy_push (fun n v => v.isStr n) es name x _ _ v (fun y => by
        show (name == y) = decide (y = name)
        by_cases h : y = name
        · subst h; simp
        · have : ¬ name = y := fun e => h e.symm
          simp [h, this]) hi
end

/-- an instance of the class at C with its own dict -/
structure Inst (h : Heap) (x C dx : Addr) (m : Str → Option Value) (k : Nat) : Prop where
  at' : h.get? x = some (instObj C dx)
  dict : NsK h dx m k
theorem Inst.inst {h : Heap} {x C dx : Addr} {m : Str → Option Value} {k : Nat} (I : Inst h x C dx m k) : ∃ o, InstAt h x (instObj C dx) C (some o) ∧ ∀ name, lookIn name o = some (m name) := by
  obtain ⟨o, h1, h2⟩ := I.dict.look
  exact ⟨o, ⟨I.at', rfl, rfl, h1⟩, h2⟩

/-- a class without surprises -/
structure ClsOk (K : Frag) (C : Addr) : Prop where
  ga : findIn K (.ref C) "__getattribute__" = some (some (.builtin "object.__getattribute__"))
  gk : findIn K (.ref C) "__getattr__" = some none
  sa : findIn K (.ref C) "__setattr__" = some (some (.builtin "object.__setattr__"))
  over : plainOver K C = true
  hasDict : (clsIn K C).any (·.hasDict) = true

section
variable {prog : Program} {w : World} {A : Around} {E : Value → Shared → Prop} {s : Shared} {K : Frag} {x C dx : Addr} {m : Str → Option Value} {k : Nat} {name : Str}

theorem get_field {v : Value} {expr : Bool} {Q : Value → Shared → Prop} (X : K.In s.heap) (O : ClsOk K C) (I : Inst s.heap x C dx m k) (hf : findIn K (.ref C) name = some none) (hv : m name = some v) (hh : handedIn v = true)
    (h : Q v { s with toks := s.toks + 1 }) : wpAny (model prog w) A (getAttr (.ref x) name expr) Q E s := by
  obtain ⟨o, I', hl⟩ := I.inst
  refine get_value X I' O.ga ?_ hh h
  obtain ⟨cd, hc, hd⟩ := any_some O.hasDict
  unfold findObj
  rw [hc, Option.bind_some, hf, Option.bind_some]
  show (W.ownOf cd (some o) name).bind _ = _
  unfold W.ownOf
  rw [hd, if_pos rfl]
  dsimp only
  rw [hl name, hv]
  rfl

theorem set_field {v : Value} {Q : Unit → Shared → Prop} (X : K.In s.heap) (O : ClsOk K C) (I : Inst s.heap x C dx m k) (ht : takerIn K C name = some none) (hk : k ≤ 100000)
    (h : ∀ h' tk, NsK h' dx (upd m name v) (k + 1) → Heap.SameBut dx s.heap h' → Q () { s with heap := h', toks := tk }) : wpAny (model prog w) A (setAttr (.ref x) name v) Q E s := by
  obtain ⟨o, I', hl⟩ := I.inst
  refine set_plain X I' O.sa (osa_open (s := { s with toks := s.toks + 1 }) X I' O.over ht fun b => ?_)
  obtain ⟨cd, hc, hd⟩ := any_some O.hasDict
  refine wpAny_bind (wpAny_pure (wpAny_bind (wpAny_bind (wpAny_loadPart I.at' (wpAny_bind (Looks.here (s := { s with toks := s.toks + 1 }) (looks_clsIn X hc) ?_))))))
  rw [hd]
  refine wpAny_pure (a := some dx) (wpAny_bind (wpAny_pure (wpAny_bind ?_)))
  refine nsSet_K (s := { s with toks := s.toks + 1 }) I.dict fun h' hn hs => ?_
  have hn' := hn
  obtain ⟨es, ep, ho, _, _, hz⟩ := hn'
  refine wpAny_bind (wpAny_lookBehind ho (pastItsLine_dict (by rw [sizeLine_eq]; omega)) (wpAny_pure ?_))
  exact h h' _ hn hs
end
end Mine
namespace Mine
open PySem PySem.W PyProof.Rows Builtin Builtin.ObjectAttr Builtin.Getset_descriptor
set_option maxRecDepth 100000
section
variable {prog : Program} {w : World} {A : Around} {E : Value → Shared → Prop} {s : Shared} {K : Frag} {R : Result → Shared → Prop}
/-- the name of a class of the text -/
theorem clsname_get {C : Addr} {tp nv : Value} {oc : Value} {od : Option Addr} {cd : ClassData} {sl : Array (Option Value)} (X : K.In s.heap) (hC : K.lookup C = some ⟨oc, od, .cls cd, sl⟩) (ht : typeIn K (.ref C) = some (.type "type")) (hs : (sl[2]?).join = some nv) (h : R (.ok (.ret nv)) s) :
    codeAny (model prog w) A (.call (.builtin "getset_descriptor.__get__") ⟨[.builtin "type.__name__", .ref C, tp], []⟩) R s := by
  obtain ⟨hh, g, dr, t, os⟩ := s
  have L0 := looks_typeIn (M := model prog w) X ht
  have L1 : Looks (model prog w) hh (isSubtype (.type "type") (.type "type")) true := Looks.of_pure (by rw [isSubtype_type]; kernel_rfl)
  refine codeAny_call_builtin KF.slot_gs.plain KF.entry_gs (KF.slot_gs.check _ _ _ _ _ _ _ _ ktyn_type (KF.args_gs _ _ _) ?_)
  unfold Builtin.«getset_descriptor.__get__» descrGet
  rw [dga_obj]
  refine wpAny_bind (wpAny_pure ?_)
  unfold descrGetter descrCheckInstance descrNameAndClass isInstance
  simp only [ktyn_owner]
  repeat lk
  refine ⟨Code.quiet_builtin _ (by decide +kernel), codeAny_builtin ktyn_entry ?_⟩
  unfold Builtin.«type.__name__» Builtin.keptObject
  dsimp only
  unfold slotAt
  refine wpAny_bind (wpAny_bind (wpAny_loadPart (X _ _ hC) (wpAny_pure ?_)))
  rw [hs]
  exact wpAny_pure h

theorem clsname_attr {C : Addr} {nv : Value} {oc : Value} {od : Option Addr} {cd : ClassData} {sl : Array (Option Value)} {expr : Bool} {Q : Value → Shared → Prop} (X : K.In s.heap) (hC : K.lookup C = some ⟨oc, od, .cls cd, sl⟩) (ht : typeIn K (.ref C) = some (.type "type")) (hs : (sl[2]?).join = some nv)
    (hr : readsIn K C (.type "type") = true) (e : findCls K (.ref C) (.type "type") "__name__" = some (.get (.builtin "getset_descriptor.__get__") (.builtin "type.__name__") (.ref C) (.type "type"))) (hh : handedIn nv = true)
    (h : Q nv { s with toks := s.toks + 1 }) : wpAny (model prog w) A (getAttr (.ref C) "__name__" expr) Q E s :=
  cls_bind X hr e (wpAny_call (clsname_get (s := { s with toks := s.toks + 1 }) X hC ht hs (handed_on hh h)))

/-- what is known of the class QName -/
structure QC (c : Cx) (K : Frag) : Prop where
  X : K.In c.base
  ok : ClsOk K c.qc
  ftext : findIn K (.ref c.qc) "text" = some none
  cls : ∃ oc od cd sl t, K.lookup c.qc = some ⟨oc, od, .cls cd, sl⟩ ∧ (sl[2]?).join = some (.str (S (cs "QName")) t)
  ty : typeIn K (.ref c.qc) = some (.type "type")
  rd : readsIn K c.qc (.type "type") = true
  fc : findCls K (.ref c.qc) (.type "type") "__name__" = some (.get (.builtin "getset_descriptor.__get__") (.builtin "type.__name__") (.ref c.qc) (.type "type"))
  fk : findIn K (.ref c.qc) "__class__" = some (some (.builtin "object.__class__"))
  sg : specialIn K (.builtin "object.__class__") "__get__" = some (some (.builtin "getset_descriptor.__get__"))
  tk : takesIn K (.builtin "object.__class__") = some true
  mo : mroIn K c.qc (.type "object") = some true
  ns : isNotIn K "str" c.qc = true
  nt : kin_notT K c.qc "str" = true

section
variable {c : Cx} {V : Addr → Prop} {x : List Nat}
theorem Rep.inst (r : Rep c V s (.qn x) v) : ∃ a dx t k m, v = .ref a ∧ Inst s.heap a c.qc dx m k ∧ m (Str.ofString "text") = some (.str (S x) t) := by
  replace r := r.inv
  obtain ⟨_, _, _, _, _, rfl, na, nd, ho, h, hm⟩ := r
  exact ⟨_, _, _, _, _, rfl, ⟨ho, h⟩, hm⟩

theorem Ev.qnText {n : Nat} {sc : Scope} {k : Bool} {ρ : Sto} {p pos : Pos} {y : String} (Y : QC c K) (hy : ρ.lookup y = some (.val (.qn x))) (hyd : y ≠ "__debug__" := by decide) : Ev c n sc k ρ (.Attribute (.Name (Str.ofString y) p) (Str.ofString "text") pos) (sd x) := .mk fun A env V0 h0 Cs X s hA F => by
  refine Attribute_name (wpAny_mono ((Ev.name (k := true) hy hyd).run A env V0 h0 Cs X s hA F) (fun v s₁ q => ?_) fun _ _ q => q)
  obtain ⟨g, r⟩ := q
  obtain ⟨a, dx, t, kk, mm, rfl, I, hmt⟩ := r.inst
  have F₁ := F.gr g
  exact get_field (Y.X.keeps (F₁.base.trans F₁.keep)) Y.ok I Y.ftext hmt rfl ⟨g.trans (Gr.toks (Nat.le_succ _)), .str _ _⟩
theorem Ev.qnClass {n : Nat} {sc : Scope} {k : Bool} {ρ : Sto} {p pos : Pos} {y : String} (Y : QC c K) (hy : ρ.lookup y = some (.val (.qn x))) (hyd : y ≠ "__debug__" := by decide) : Ev c n sc k ρ (.Attribute (.Name (Str.ofString y) p) (Str.ofString "__class__") pos) (.val (.ref c.qc)) := .mk fun A env V0 h0 Cs X s hA F => by
  refine Attribute_name (wpAny_mono ((Ev.name (k := true) hy hyd).run A env V0 h0 Cs X s hA F) (fun v s₁ q => ?_) fun _ _ q => q)
  obtain ⟨g, r⟩ := q
  obtain ⟨a, dx, t, kk, mm, rfl, I, hmt⟩ := r.inst
  have F₁ := F.gr g
  have XX := Y.X.keeps (F₁.base.trans F₁.keep)
  obtain ⟨o, I', hl⟩ := I.inst
  obtain ⟨oc, od, cd, sl, t', hC, _⟩ := Y.cls
  have hci : (clsIn K c.qc).isSome = true := by unfold clsIn; rw [hC]; rfl
  refine get_bind XX I' Y.ok.ga (findObj_data hci Y.fk Y.sg Y.tk) Y.ok.gk (wpAny_call (class_get (s := { s₁ with toks := s₁.toks + 1 }) (ox := instObj c.qc dx) (od := some o) XX I' Y.mo (handed_on rfl ?_)))
  exact ⟨g.trans (Gr.toks (Nat.le_succ _)), .val _⟩
theorem Ev.qnName {n : Nat} {sc : Scope} {k : Bool} {ρ : Sto} {p p2 pos : Pos} {y : String} (Y : QC c K) (hy : ρ.lookup y = some (.val (.qn x))) (hyd : y ≠ "__debug__" := by decide)
    (ha : ∀ env : Env, PySem.eval (.Attribute (.Attribute (.Name (Str.ofString y) p) (Str.ofString "__class__") p2) (Str.ofString "__name__") pos) env = (do
      let o ← PySem.eval (.Attribute (.Name (Str.ofString y) p) (Str.ofString "__class__") p2) env
      standAt pos.atName
      let r ← holding [o] (getAttr o (Str.ofString "__name__") true)
      letTemporaryGo (.Attribute (.Name (Str.ofString y) p) (Str.ofString "__class__") p2) o r
      pure r) := by intro _; rfl) : Ev c n sc k ρ (.Attribute (.Attribute (.Name (Str.ofString y) p) (Str.ofString "__class__") p2) (Str.ofString "__name__") pos) (sd (cs "QName")) := .mk fun A env V0 h0 Cs X s hA F => by
  refine Attribute_any_ (wpAny_mono ((Ev.qnClass (k := true) Y hy hyd).run A env V0 h0 Cs X s hA F) (fun tv s₁ q => ?_) fun _ _ q => q) (ha env)
  obtain ⟨g, r⟩ := q
  cases r.inv
  have F₁ := F.gr g
  obtain ⟨oc, od, cd, sl, t', hC, hs⟩ := Y.cls
  exact clsname_attr (Y.X.keeps (F₁.base.trans F₁.keep)) hC Y.ty hs Y.rd Y.fc rfl ⟨g.trans (Gr.toks (Nat.le_succ _)), .str _ _⟩

theorem FnR.isiStr {n : Nat} {y : List Nat} (Y : QC c K) : FnR c n (.builtin "isinstance") [sd y, .val (.ref c.qc)] (.bool false) := .mk fun A V s vs hA hS r => by
  cases r with
  | cons r rs => cases rs with
    | cons r' rs =>
        cases rs
        obtain ⟨t, rfl⟩ := r.inv
        cases r' with
        | val _ => exact isn_call (P := fun _ => True) (Y.X.keeps hS.keep) (fun _ => Looks.of_pure rfl) Y.ns (by intro e; cases e) trivial str_cls ⟨Gr.toks (Nat.le_succ _), .bool _⟩
end
end
end Mine
namespace Mine
set_option maxRecDepth 100000
noncomputable abbrev p08 := PySem.Challenge.pw_dn0276_08
/-- the j-th statement of the i-th statement of the top, a def in a class -/
noncomputable def mthAt (p : Program) (i j : Nat) : Scope × List Stmt := match p.main.body[i]? with
  | some (.ClassDef _ _ _ cb _ _ _ _ _ _ _) => (match cb[j]? with
    | some (.FunctionDef _ _ body _ _ _ sc _ _ _) => (sc, body)
    | _ => (⟨.function, [], false, false, []⟩, []))
  | _ => (⟨.function, [], false, false, []⟩, [])
noncomputable abbrev qsc (j : Nat) : Scope := (mthAt p08 1 j).1
noncomputable abbrev qbd (j : Nat) : List Stmt := (mthAt p08 1 j).2
noncomputable abbrev sc08 (i : Nat) : Scope := scAt p08 i
noncomputable abbrev bd08 (i : Nat) : List Stmt := bodyAt p08 i

section
variable {c : Cx} {n : Nat} {K : Frag}
noncomputable def reprL (x : List Nat) : List Nat := (reprText (S x)).cps.toList
theorem nameOk_str : NameOk "str" := ⟨by decide, by decide +kernel, by decide +kernel, by rfl, by decide +kernel, by decide +kernel⟩
theorem ReprOf.str {x : List Nat} (hz : (reprL x).length ≤ 1000000) : ReprOf c (sd x) (reprL x) "str" :=
  ⟨fun V s v r => by obtain ⟨_, rfl⟩ := r.inv; exact typeIs_str _ _ _, nameOk_str, hz, fun A V s v _ _ r => by
    obtain ⟨_, rfl⟩ := r.inv
    refine wpAny_with_toks (Nat.le_refl _) (pyReprObj_str (fun ht => ⟨⟨s.toks, by rw [show S (reprL x) = reprText (S x) from (S_of _).symm]⟩, Keeps.refl _, ht, rfl, rfl⟩) ?_)
    · show (reprText (S x)).cps.size ≤ sizeLine
      have : (reprText (S x)).cps.size = (reprL x).length := by simp [reprL]
      rw [this, sizeLine_eq]; omega⟩

/-- __eq__ with a text -/
theorem qnEq_fn {a : Addr} {x y : List Nat} (Y : QC c K) (hd : IsDef c a (qsc 8) ["self", "other"] (qbd 8)) (hb : c.mg (Str.ofString "isinstance") = none ∧ c.mb (Str.ofString "isinstance") = some (.builtin "isinstance")) (hg : c.mg (Str.ofString "QName") = some (.ref c.qc)) : FnR c (n + 1) (.ref a) [.qn x, sd y] (.bool (decide (x = y))) := by
  refine FnR.of hd rfl ?_
  refine .step (.ite (b := false) (.bin (.call (.blt hb.1 hb.2) (.builtin _) (.cons (.name rfl) (.cons (.glob hg) .nil)) (.isiStr Y))) (fun q => nomatch q) (fun _ => .nil ⟨rfl, rfl⟩)) ?_
  exact .last (.ret (.cmp (.qnText Y rfl) (.name rfl) .eqS) rfl)

/-- __repr__ -/
noncomputable abbrev qnL (x : List Nat) : List Nat := cs "<" ++ (cs "QName" ++ (cs " " ++ (reprL x ++ (cs ">" ++ []))))
theorem qnRepr_fn {a : Addr} {x : List Nat} (Y : QC c K) (hd : IsDef c a (qsc 2) ["self"] (qbd 2)) (hz : (reprL x).length ≤ 1000) : FnR c (n + 1) (.ref a) [.qn x] (sd (qnL x)) := by
  refine FnR.of hd rfl ?_
  refine .last (.ret (.joined (.cons .lit (.cons (.fmtS (.qnName Y rfl) (by decide)) (.cons .lit (.cons (.fmtR (.qnText Y rfl) (.str (by omega))) (.cons .lit .nil))))) ?_) rfl)
  have e1 : (cs "<").length = 1 := by decide
  have e2 : (cs "QName").length = 5 := by decide
  have e3 : (cs " ").length = 1 := by decide
  have e4 : (cs ">").length = 1 := by decide
  simp only [List.length_append, e1, e2, e3, e4, List.length_nil]; omega
end
end Mine
namespace Mine
set_option maxRecDepth 100000
/-- a def's facts from the written heap, with what its call binds -/
theorem IsDefB.of {c : Cx} {K : Frag} {a : Addr} {sc : Scope} {ps : List String} {body : List Stmt} {args : Args} {vs : List Value} {oc : Value} {od : Option Addr} {fd : FuncData} {osl : Array (Option Value)} (X : K.In c.base) (ho : K.lookup a = some ⟨oc, od, .func fd, osl⟩)
    (hb : fd.body = .stmts body) (hs : fd.scope = sc) (hc : fd.closure = []) (hg : fd.globals = mainGlobals) (hbl : fd.builtins = builtinsNs) (hcd : codeIn K fd.code fd.qualname = true)
    (hbind : ∀ S, peek K S (bindArgs fd args) = some (bindsOf ps vs)) (kinds : ∀ p ∈ ps, CanStore sc p) (nodup : ps.Nodup) (cnd : ((cellsFrom 0 sc.names []).map (·.1)).Nodup) (co : sc.isCoroutine = false) (gen : sc.isGenerator = false) (kind : sc.kind = .function)
    (nofree : sc.names.all (fun p => p.2 != .free) = true) : IsDefB c a sc ps body args vs :=
  ⟨⟨kinds, nodup, cnd, co, gen, kind, fun x hx => by
    have := List.all_eq_true.mp nofree _ (mem_lookup hx)
    simp at this⟩, ⟨_, fd, X _ _ ho, rfl, hb, hs, hc, hg, hbl, codeRec_of X hcd, fun s hk => kp_binds (X.keeps hk) hbind⟩⟩

section
variable {c : Cx} {n : Nat} {sc : Scope} {ρ : Sto} {P : AF → Sto → Prop}
theorem Tr.stepX {st : Stmt} {rest : List Stmt} {Q : Sto → Prop} (h : Sx c n sc ρ st fun af ρ' => af = .next ∧ Q ρ') (k : ∀ ρ', Q ρ' → Tr c n sc ρ' rest P) : Tr c n sc ρ (st :: rest) P :=
  .cons h (fun ρ' q => k ρ' q.2) fun af ρ' ho q => absurd q.1 ho
end
section
variable {c : Cx} {n : Nat} {K : Frag}

/-- QName(text): what is known of __init__ -/
structure QI (c : Cx) (K : Frag) (f : Addr) : Prop where
  makes : makesIn K c.qc = true
  init : findIn K (.ref c.qc) "__init__" = some (some (.ref f))
  fn : typeIn K (.ref f) = some (.type "function")
  nl : ¬ c.lsc (qsc 0)
  hd : ∀ xa v, IsDefB c f (qsc 0) ["self", "text_or_uri", "tag"] (qbd 0) ⟨[.ref xa, v], []⟩ [.ref xa, v, .none]

/-- what __init__ leaves -/
inductive InitQ (c : Cx) (x : List Nat) (xa dx : Addr) (s s' : Shared) : Prop
  | mk (m : Str → Option Value) (t : Tok) (at' : s'.heap.get? xa = some (instObj c.qc dx)) (dict : NsK s'.heap dx m 1) (hm : m (Str.ofString "text") = some (.str (S x) t)) (keep : ∀ b o, b ≠ dx → s.heap.get? b = some o → s'.heap.get? b = some o) (gens : s'.gens = s.gens) (os : s'.os = s.os) : InitQ c x xa dx s s'

theorem init_run {f : Addr} {x : List Nat} (Y : QC c K) (I : QI c K f) {A : Around} {V : Addr → Prop} {s : Shared} {xa dx : Addr} {t0 : Tok} (hA : Room c (n + 1) A) (hS : St c V s) (hx : s.heap.get? xa = some (instObj c.qc dx)) (hd : s.heap.get? dx = some emptyDict) (hne : xa ≠ dx) :
    codeAny c.M A (.call (.ref f) ⟨[.ref xa, .str (S x) t0], []⟩) (fun r s' => match r with | .ok (.ret v) => s.toks ≤ s'.toks → v = .none ∧ InitQ c x xa dx s s' | .ok _ => False | .error e => s.toks ≤ s'.toks → False) s := by
  refine fn_enterB (Q := fun v s' => v = .none ∧ InitQ c x xa dx s s') (E := fun _ _ => False) (ds := [.val (.ref xa), sd x, .none]) (I.hd _ _) rfl hA hS (.cons (.val _) (.cons (.str _ _) (.cons .none .nil))) fun env X s₁ hf hnl g F hO hX => ?_
  have hA₁ := hA.deeper env
  refine wpAny_execs_cons (wpAny_If (wpAny_mono ((Tst.val (.name (d := .none) rfl) TruR.none).run (A.deeper env) env V _ env.cells X s₁ hA₁ F) (fun b s₂ q₂ => ?_) fun _ _ q => q.elim))
  obtain ⟨g₂, rfl⟩ := q₂
  refine wpAny_execs_nil ?_
  have F₂ := F.gr g₂
  refine wpAny_execs_cons (plainObj_wpAny_Assign_Attribute (wpAny_mono ((Ev.name (n := n) (k := true) (d := sd x) rfl).run (A.deeper env) env V _ env.cells X s₂ hA₁ F₂) (fun v s₃ q₃ => ?_) fun _ _ q => q.elim) rfl)
  obtain ⟨g₃, r₃⟩ := q₃
  have F₃ := F₂.gr g₃
  refine wpAny_mono ((Ev.name (n := n) (k := true) (d := .val (.ref xa)) rfl).run (A.deeper env) env V _ env.cells X s₃ hA₁ F₃) (fun o s₄ q₄ => ?_) fun _ _ q => q.elim
  obtain ⟨g₄, r₄⟩ := q₄
  cases r₄.inv
  have gg := ((g.trans g₂).trans g₃).trans g₄
  have F₄ := F₃.gr g₄
  have II : Inst s₄.heap xa c.qc dx (fun _ => none) 0 := ⟨gg.keep _ _ hx, ⟨#[], 0, gg.keep _ _ hd, fun e he => by simp at he, fun _ => rfl, Nat.le_refl _⟩⟩
  refine set_field (Y.X.keeps (F₄.base.trans F₄.keep)) Y.ok II (by unfold takerIn; rw [show findIn K (.ref c.qc) (Str.ofString "text") = some none from Y.ftext]; rfl) (by decide) fun h' tk hn hs => wpAny_execs_nil fun _ => ⟨rfl, ?_⟩
  obtain ⟨t1, rfl⟩ := r₃.inv
  exact ⟨_, t1, (hs.2 _ hne).trans II.at', hn, if_pos rfl, fun b o hb e => (hs.2 b hb).trans (gg.keep _ _ e), gg.gens, gg.os⟩

theorem FnR.newQN {f : Addr} {x : List Nat} (Y : QC c K) (I : QI c K f) : FnR c (n + 2) (.ref c.qc) [sd x] (.qn x) := .mk fun A V s vs hA hS r => by
  cases r with
  | cons r rs =>
  cases rs
  obtain ⟨t0, rfl⟩ := r.inv
  obtain ⟨h, g, d, t, os⟩ := s
  refine wpAny_with_toks (Nat.le_refl _) (wpAny_call ?_)
  have hX := Y.X.keeps hS.keep
  have hA' : Room c (n + 1) (A.under (.builtin "type.__call__" ⟨.ref c.qc :: [.str (S x) t0], []⟩)) := by
    refine ⟨fun q => hA.handled q, ?_, ?_, ?_⟩
    · have := hA.depth
      show A.depth + 1 + (n + 1) < 900
      omega
    · have := hA.units
      show A.units + 1 + 10 * (n + 1) + 100 < cLine
      omega
    · obtain ⟨g, hg, hgn⟩ := hA.guards
      exact ⟨g, by show pushGuards [] A.guards = some g; rw [hg]; rfl, hgn⟩
  refine make_core (makes_of hX I.makes) (looks_findIn hX I.init) (fun self => bind_fn hX self I.fn) (.inl rfl) ?_
  have hk : Keeps h ((h.push emptyDict).push (instObj c.qc h.objs.size)) := fun b o e => Heap.get?_push_of_some _ (Heap.get?_push_of_some _ e)
  have hx : ((h.push emptyDict).push (instObj c.qc h.objs.size)).get? (h.objs.size + 1) = some (instObj c.qc h.objs.size) := by
    have := Heap.get?_push_size (h := h.push emptyDict) (o := instObj c.qc h.objs.size) rfl
    rwa [Heap.size_push] at this
  have g₁ : Gr ⟨h, g, d, t, os⟩ ⟨(h.push emptyDict).push (instObj c.qc h.objs.size), g, d, t, os⟩ := ⟨hk, Nat.le_refl _, rfl, rfl⟩
  have hnV : ∀ a, h.objs.size ≤ a → ¬ V a := fun a ha q => by
    obtain ⟨o, e⟩ := hS.live a q
    exact absurd (Heap.lt_size e) (Nat.not_lt.mpr ha)
  refine codeAny_with_toks (n := t) (Nat.le_refl _) (codeAny_mono (init_run (x := x) Y I hA' (hS.gr g₁) hx (Heap.get?_push_of_some _ (Heap.get?_push_size _ rfl)) (Nat.succ_ne_self _)) fun r' s' q ht => ?_)
  cases r' with
  | error e => exact fun _ => q ht
  | ok fl =>
  cases fl with
  | ret v =>
    obtain ⟨rfl, m, t1, k1, k2, k3, k4, k5, k6⟩ := q ht
    refine ⟨rfl, fun _ => ⟨⟨fun a o e => k4 a o (fun q => ?_) (hk _ _ e), ht, k5, k6⟩, .qn (hnV _ (Nat.le_succ _)) (hnV _ (Nat.le_refl _)) k1 k2 k3⟩⟩
    rw [q, show h.get? h.objs.size = none from get_size h] at e; cases e
  | _ => exact q.elim
end
end Mine
namespace Mine
open PySem PySem.W PyProof.Rows PySem.SeqAt AutoSeq1 MeetsSeq
set_option maxRecDepth 100000

theorem dict_eq_declines_str (l : Addr) (es : Array DictEntry) (n : Nat) (dd : Option Addr) (sl : Array (Option Value)) (b : Str) (u : Tok) :
    Meets (Builtin.«dict.__eq__» ⟨[.ref l, .str b u], []⟩) (fun _ R s => s.heap.get? l = some { cls := .type "dict", dict := dd, data := .dict es n, slots := sl } ∧ R (.ok (.ret .notImplemented)) s) :=
  .of_wp fun prog w A R s h => by obtain ⟨hp, g, d, tk, os⟩ := s; obtain ⟨hl, h⟩ := h; have f1 := F.sub_str_dict; wp_walk using wpAny_loadPart' hl; exact ⟨_, rfl, h⟩
theorem str_eq_declines_dict (b : Str) (u : Tok) (l : Addr) (c : Value) (es : Array DictEntry) (n : Nat) (dd : Option Addr) (sl : Array (Option Value)) :
    Meets (Builtin.«str.__eq__» ⟨[.str b u, .ref l], []⟩) (fun _ R s => s.heap.get? l = some { cls := c, dict := dd, data := .dict es n, slots := sl } ∧ R (.ok (.ret .notImplemented)) s) :=
  .of_wp fun prog w A R s h => by obtain ⟨hp, g, d, tk, os⟩ := s; obtain ⟨hl, h⟩ := h; wp_walk using wpAny_loadPart' hl, wpAny_load hl; exact ⟨_, rfl, h⟩
theorem slot_bytes_eq : PySem.Slot "bytes" (cmpInfo .Eq).2.1 "bytes.__eq__" :=
  .of (owner := "bytes") (n := "__eq__") (by rw [typeLookup_type, builtinLookup_eq_fast]; kernel_rfl) (by decide +kernel) (by decide +kernel) (by decide +kernel)
    (by first | exact .inl (by decide +kernel) | exact .inr (by decide +kernel)) (by rw [isSubtype_type]; kernel_rfl)
theorem entry_bytes_eq : entryFor table "bytes.__eq__" = some Builtin.«bytes.__eq__» := entryFor_of_tree (by kernel_rfl)
theorem args_bytes_eq_2 (a b : Value) : argsOk "bytes.__eq__" ⟨[a, b], []⟩ := by
  unfold argsOk; rw [signature?_of (id := "bytes.__eq__") (n := ['_', '_', 'q', 'e', '_', '_']) (o := ['s', 'e', 't', 'y', 'b']) (by kernel_rfl) (show Manifest.owners.lookup (String.ofList ['s', 'e', 't', 'y', 'b'].reverse) = some Manifest.sig_bytes by kernel_rfl)]; kernel_rfl
theorem bytes_eq_str (a : Array UInt8) (t : Tok) (b : Str) (u : Tok) : Gives (Builtin.«bytes.__eq__» ⟨[.bytes a t, .str b u], []⟩) (.val (Value.notImplemented)) :=
  .of_wp fun M A E s Q h => by obtain ⟨hp, g, d, tk, os⟩ := s; have f1 := F.sub_str_bytes; wp_walk; exact ⟨_, rfl, h⟩
theorem str_eq_bytes (b : Str) (u : Tok) (a : Array UInt8) (t : Tok) : Gives (Builtin.«str.__eq__» ⟨[.str b u, .bytes a t], []⟩) (.val (Value.notImplemented)) :=
  .of_wp fun M A E s Q h => by obtain ⟨hp, g, d, tk, os⟩ := s; wp_walk; exact ⟨_, rfl, h⟩

section
variable {A : Around} {s : Shared}
theorem eqAt_dict_str {l : Addr} {o : Obj} {es : Array DictEntry} {n : Nat} (b : Str) (u : Tok) (ho : s.heap.get? l = some o) (hx : o.ExactDict) (hd : o.data = .dict es n) (hu : A.units < cLine) : EqAt A s (.ref l) (.str b u) false := fun prog w E Q h => by
  obtain ⟨cls, dd, data, sl⟩ := o
  have hc : cls = .type "dict" := hx.1
  simp only at hd
  subst hc hd
  unfold eqBool
  refine wpAny_holding ?_
  refine wpAny_ite_split (fun hab => absurd (eq_of_beq hab) nofun) (fun _ => ?_)
  refine wpAny_bind (rc_eq_decline_or (k := false) ⟨_, ho, rfl⟩ (typeIs_str s b u) (by decide) F.sub_str_dict F.slot_dict_eq F.slot_str_eq_refl
    (fun _ hq => call_meets F.slot_dict_eq ⟨_, ho, rfl⟩ F.entry_dict_eq (F.args_dict_eq_2 _ _) (dict_eq_declines_str l es n dd sl b u) ⟨ho, hq⟩)
    (fun _ hq => call_meets F.slot_str_eq_refl (typeIs_str s b u) F.entry_str_eq (F.args_str_eq_2 _ _) (str_eq_declines_dict b u l (.type "dict") es n dd sl) ⟨ho, hq⟩)
    (fun _ hq => wpAny_of_eq (rfl : isSame (.ref l) (.str b u) = pure false) hq) (.inr hu) (wpAny_truthy_bool h))
theorem eqAt_bytes_str (a : Array UInt8) (t : Tok) (b : Str) (u : Tok) : EqAt A s (.bytes a t) (.str b u) false := fun prog w E Q h => by
  unfold eqBool
  refine wpAny_holding ?_
  refine wpAny_ite_split (fun hab => absurd (eq_of_beq hab) nofun) (fun _ => ?_)
  refine wpAny_bind (rc_eq_decline_or (k := false) (Ta := "bytes") rfl (typeIs_str s b u) (by decide) F.sub_str_bytes slot_bytes_eq F.slot_str_eq_refl
    (fun _ hq => call_gives slot_bytes_eq rfl entry_bytes_eq (args_bytes_eq_2 _ _) (bytes_eq_str a t b u) hq)
    (fun _ hq => call_gives F.slot_str_eq_refl (typeIs_str s b u) F.entry_str_eq (F.args_str_eq_2 _ _) (str_eq_bytes b u a t) hq)
    (fun _ hq => wpAny_of_eq (rfl : isSame (.bytes a t) (.str b u) = pure false) hq) (.inl rfl) (wpAny_truthy_bool h))
end

section
variable {prog : Program} {w : World} {A : Around} {E : Value → Shared → Prop} {s : Shared} {K : Frag} {x C f : Addr} {ox : Obj} {od : Option Obj} {b tb : Value}
/-- a comparison by the class's own method -/
theorem cmp_own {op : CmpOp} {Q : Value → Shared → Prop} (hu : A.units < cLine) (X : K.In s.heap) (I : InstAt s.heap x ox C od) (hb : Looks (model prog w) s.heap (typeOf b) tb) (hn : notFirst K C tb = true)
    (hs : findIn K (.ref C) (cmpInfo op).2.1 = some (some (.ref f))) (hf : isFn K (.ref f) = true)
    (h : wpAny (model prog w) A (call (.ref f) [.ref x, b]) (W.CmpBack Q) E s) : wpAny (model prog w) A (richCompare op (.ref x) b) Q E s := by
  have one : wpAny (model prog w) A (tryCompare (.ref x) (cmpInfo op).2.1 b) (fun r s' => ∃ v, r = some v ∧ Q v s') E s := by
    unfold tryCompare
    refine wpAny_bind (ifBound_K X I hs hf (wpAny_mono h (fun v s' hv => ?_) fun _ _ e => e))
    cases v <;> first | exact hv.elim | exact wpAny_pure ⟨_, rfl, hv⟩
  unfold richCompare
  simp only [oneThing_ref]
  refine wpAny_holding (wpAny_bind (wpAny_cRoomFor hu ?_))
  refine wpAny_bind (I.type.here (wpAny_bind (hb.here ?_)))
  split
  · rename_i q
    have e : subIn K tb (.ref C) = some false := by
      rcases Bool.or_eq_true_iff.mp hn with e | e
      · rw [beq_iff_eq.mp e] at q; simp at q
      · exact beq_iff_eq.mp e
    refine wpAny_bind ((looks_subIn X e).here ?_)
    simp only [Bool.false_eq_true, if_false]
    refine wpAny_bind (wpAny_mono one (fun r s' z => ?_) fun _ _ e => e)
    obtain ⟨v, rfl, hq⟩ := z
    exact wpAny_pure hq
  · refine wpAny_bind (wpAny_pure ?_)
    simp only [Bool.false_eq_true, if_false]
    refine wpAny_bind (wpAny_mono one (fun r s' z => ?_) fun _ _ e => e)
    obtain ⟨v, rfl, hq⟩ := z
    exact wpAny_pure hq
end

/-- the thing d, compared with the text y, gives b -/
structure EqT (c : Cx) (n : Nat) (d : D) (y : List Nat) (b : Bool) : Prop where
  run : ∀ A V s v t, Room c n A → St c V s → Rep c V s d v → wpAny c.M A (eqBool v (.str (S y) t)) (fun r s' => Gr s s' ∧ r = b) (fun _ _ => False) s
theorem Room.cl {c : Cx} {n : Nat} {A : Around} (h : Room c n A) : A.units < cLine := by have := h.units; omega

section
variable {c : Cx} {n : Nat} {K : Frag} {y : List Nat}
theorem EqT.of {d : D} {b : Bool} (h : ∀ A V s v t, Room c n A → Rep c V s d v → EqAt A s v (.str (S y) t) b) : EqT c n d y b :=
  ⟨fun A V s v t hA hS r => h A V s v t hA r _ _ _ _ ⟨.refl s, rfl⟩⟩
theorem EqT.none : EqT c n .none y false := .of fun A V s v t hA r => by cases r.inv; exact SeqAt.EqAt.none_str _ _
theorem EqT.bool {b : Bool} : EqT c n (.bool b) y false := .of fun A V s v t hA r => by cases r.inv; exact SeqAt.EqAt.bool_str _ _ _
theorem EqT.int {i : Int} : EqT c n (.int i) y false := .of fun A V s v t hA r => by obtain ⟨_, rfl⟩ := r.inv; exact SeqAt.EqAt.int_str _ _ _ _
theorem EqT.bytes {b : List Nat} : EqT c n (.bytes b) y false := .of fun A V s v t hA r => by obtain ⟨_, rfl⟩ := r.inv; exact eqAt_bytes_str _ _ _ _
theorem EqT.list {ds : List D} : EqT c n (.list ds) y false := .of fun A V s v t hA r => by
  replace r := r.inv
  obtain ⟨_, _, _, _, rfl, na, ho, hc, hd, hdt, r⟩ := r
  exact SeqAt.EqAt.list_str _ _ ⟨_, ho, hc, _, hdt⟩ hA.cl
theorem EqT.tuple {ds : List D} : EqT c n (.tuple ds) y false := .of fun A V s v t hA r => by
  replace r := r.inv
  obtain ⟨_, _, _, _, rfl, na, ho, hc, hd, hdt, r⟩ := r
  exact SeqAt.EqAt.tuple_str _ _ ⟨_, ho, hc, _, hdt⟩ hA.cl
theorem EqT.dict {kvs : List (List Nat × D)} : EqT c n (.dict kvs) y false := .of fun A V s v t hA r => by
  replace r := r.inv
  obtain ⟨_, _, _, _, rfl, na, hs, ho, hx, hdt, r⟩ := r
  exact eqAt_dict_str _ _ ho hx hdt hA.cl
theorem EqT.str {x : List Nat} : EqT c n (sd x) y (decide (x = y)) := .of fun A V s v t hA r => by
  obtain ⟨_, rfl⟩ := r.inv; rw [← S_beq]; exact SeqAt.EqAt.str_str _ _ _ _

/-- the method __eq__ of the class QName -/
structure QE (c : Cx) (K : Frag) (f : Addr) : Prop where
  find : findIn K (.ref c.qc) "__eq__" = some (some (.ref f))
  fn : isFn K (.ref f) = true
  first : notFirst K c.qc (.type "str") = true

theorem EqT.qn {x : List Nat} {f : Addr} (Y : QC c K) (Z : QE c K f) (H : FnR c n (.ref f) [.qn x, sd y] (.bool (decide (x = y)))) : EqT c n (.qn x) y (decide (x = y)) := .mk fun A V s v t hA hS r => by
  obtain ⟨a, dx, t', k, m, rfl, I, hm⟩ := r.inst
  unfold eqBool
  refine wpAny_holding ?_
  refine wpAny_ite_split (fun hab => absurd (eq_of_beq hab) nofun) (fun _ => ?_)
  refine wpAny_bind ?_
  obtain ⟨o, I', _⟩ := I.inst
  refine cmp_own (op := .Eq) hA.cl (Y.X.keeps hS.keep) I' (Looks.of_pure rfl) Z.first Z.find Z.fn ?_
  refine wpAny_mono (H.run A V s _ hA hS (.cons r (.cons (.str _ t) .nil))) (fun v s' q => ?_) fun _ _ q => q.elim
  obtain ⟨g, r'⟩ := q
  cases r'.inv
  exact wpAny_truthy_bool ⟨g, rfl⟩
end
end Mine
namespace Mine
open PySem PySem.W PyProof.Rows PySem.SeqAt AutoSeq1 MeetsSeq MeetsSeq2 MeetsSeq3
set_option maxRecDepth 100000
section
variable {prog : Program} {w : World} {A : Around} {E : Value → Shared → Prop} {s₀ : Shared}
/-- what the comparisons of the items tell -/
noncomputable def Eqs (prog : Program) (w : World) (A : Around) (s₀ : Shared) (items : Array Value) (x : Value) (bs : List Bool) : Prop :=
  bs.length = items.size ∧ ∀ (j : Nat) (h : j < items.size) (s' : Shared), Gr s₀ s' → wpAny (model prog w) A.in1 (eqBool items[j] x) (fun r s'' => Gr s' s'' ∧ bs[j]? = some r) (fun _ _ => False) s'

theorem contains_loopG {l : Addr} {items : Array Value} {n : Nat} {dd : Option Addr} {sl : Array (Option Value)} {x : Value} {bs : List Bool} (he : Eqs prog w A s₀ items x bs)
    (hl : s₀.heap.get? l = some { cls := .type "list", dict := dd, data := .seq items n, slots := sl }) (k : Nat) :
    ∀ i : Nat, items.size - i = k → ∀ (R : Result → Shared → Prop) (s : Shared), Gr s₀ s → (∀ s', Gr s₀ s' → R (.ok (.ret (.bool ((bs.drop i).any id)))) s') →
      wpAny (model prog w) A.in1 (Builtin.«list.__contains__.loop» ⟨[.ref l, x, rawInt i], []⟩) (fun fin s' => match fin with | .done f => R (.ok f) s' | .again c' => c'.quiet = true ∧ codeAny (model prog w) A c' R s') (fun e s' => R (.error e) s') s := by
  induction k with
  | zero =>
    intro i hk R s g h
    have hl' := g.keep _ _ hl
    have h' := h s g
    obtain ⟨hp, gg, d, tk, os⟩ := s
    wp_walk using wpAny_loadPart' hl'
    have hi : items[((i : Nat) : Int).toNat]? = none := by simp; omega
    have hd : bs.drop i = [] := by simp; have := he.1; omega
    rw [hd] at h'
    rw [hi]
    wp_walk
    exact h'
  | succ k ih =>
    intro i hk R s g h
    have hl' := g.keep _ _ hl
    obtain ⟨hp, gg, d, tk, os⟩ := s
    wp_walk using wpAny_loadPart' hl'
    have hlt : i < items.size := by omega
    have hi : items[((i : Nat) : Int).toNat]? = some items[i] := by simp [hlt]
    have hb : i < bs.length := by have := he.1; omega
    have hd : bs.drop i = bs[i] :: bs.drop (i + 1) := List.drop_eq_getElem_cons hb
    rw [hd, List.any_cons] at h
    rw [hi]
    refine wpAny_bind (wpAny_mono (he.2 i hlt _ g) (fun r s₁ q => ?_) fun _ _ q => q.elim)
    obtain ⟨g₁, hr⟩ := q
    have hr' : bs[i] = r := by rw [List.getElem?_eq_getElem hb] at hr; injection hr
    rw [hr'] at h
    have h1 := h s₁ (g.trans g₁)
    obtain ⟨hp1, gg1, d1, tk1, os1⟩ := s₁
    cases r with
    | true =>
      wp_walk
      simpa using h1
    | false =>
      have hc : ((i : Int) + 1) = ((i + 1 : Nat) : Int) := by push_cast; rfl
      wp_walk
      rw [hc]
      exact ⟨plainId_quiet plain_contains_loop _, codeAny_builtin entry_contains_loop (by
        rw [Around.under_plainId plain_contains_loop _]
        exact ih (i + 1) (by omega) R _ (g.trans g₁) (by simpa using h))⟩

theorem list_containsG {l : Addr} {items : Array Value} {n : Nat} {dd : Option Addr} {sl : Array (Option Value)} {x : Value} {bs : List Bool} {R : Result → Shared → Prop} (he : Eqs prog w A s₀ items x bs)
    (hl : s₀.heap.get? l = some { cls := .type "list", dict := dd, data := .seq items n, slots := sl }) (h : ∀ s', Gr s₀ s' → R (.ok (.ret (.bool (bs.any id)))) s') :
    wpAny (model prog w) A.in1 (Builtin.«list.__contains__» ⟨[.ref l, x], []⟩) (fun fin s' => match fin with | .done f => R (.ok f) s' | .again c' => c'.quiet = true ∧ codeAny (model prog w) A c' R s') (fun e s' => R (.error e) s') s₀ := by
  have hL := contains_loopG he hl _ 0 rfl R s₀ (.refl s₀) (by simpa using h)
  obtain ⟨hp, gg, d, tk, os⟩ := s₀
  wp_walk using wpAny_loadPart' hl
  exact ⟨plainId_quiet plain_contains_loop _, codeAny_builtin entry_contains_loop (by
    rw [Around.under_plainId plain_contains_loop _]
    exact hL)⟩

theorem tuple_containsG {l : Addr} {items : Array Value} {n : Nat} {dd : Option Addr} {sl : Array (Option Value)} {x : Value} {bs : List Bool} {R : Result → Shared → Prop} (he : Eqs prog w A s₀ items x bs)
    (hl : s₀.heap.get? l = some { cls := .type "tuple", dict := dd, data := .seq items n, slots := sl }) (h : ∀ s', Gr s₀ s' → R (.ok (.ret (.bool (bs.any id)))) s') :
    wpAny (model prog w) A.in1 (Builtin.«tuple.__contains__» ⟨[.ref l, x], []⟩) (fun fin s' => match fin with | .done f => R (.ok f) s' | .again c' => c'.quiet = true ∧ codeAny (model prog w) A c' R s') (fun e s' => R (.error e) s') s₀ := by
  refine wpAny_mono (Q := fun fin s' => ∃ v, fin = .done (.ret v) ∧ R (.ok (.ret v)) s') ?_ (fun fin s' h' => by obtain ⟨v, rfl, hv⟩ := h'; exact hv) fun _ _ x => x
  have he' := he
  obtain ⟨hp, g, d, tk, os⟩ := s₀
  wp_walk using wpAny_loadPart' hl, MeetsSeq2.wpAny_forIn_array _ (fun rest b s' => b.1 = none ∧ Gr ⟨hp, g, d, tk, os⟩ s' ∧ ∃ i, rest = items.toList.drop i ∧ ∀ s', Gr ⟨hp, g, d, tk, os⟩ s' → R (.ok (.ret (.bool ((bs.drop i).any id)))) s') _
  case turn =>
    rintro y rest b s' ⟨hb, gg, i, hz, hR⟩
    have hlt : i < items.size := by
      rcases Nat.lt_or_ge i items.size with h' | h'
      · exact h'
      · rw [List.drop_of_length_le (by simpa using h')] at hz; cases hz
    have hbl : i < bs.length := by have := he.1; omega
    rw [List.drop_eq_getElem_cons (by simpa using hlt)] at hz
    injection hz with hy hrest
    have hy : y = items[i] := by simpa using hy
    subst hy
    have hd : bs.drop i = bs[i] :: bs.drop (i + 1) := List.drop_eq_getElem_cons hbl
    rw [hd, List.any_cons] at hR
    refine wpAny_bind (wpAny_mono (he.2 i hlt _ gg) (fun r s₁ q => ?_) fun _ _ q => q.elim)
    obtain ⟨g₁, hr⟩ := q
    have hr' : bs[i] = r := by rw [List.getElem?_eq_getElem hbl] at hr; injection hr
    rw [hr'] at hR
    have h1 := hR s₁ (gg.trans g₁)
    cases r with
    | true =>
      wp_walk
      exact ⟨_, rfl, by simpa using h1⟩
    | false =>
      wp_walk
      exact ⟨rfl, gg.trans g₁, i + 1, hrest, by simpa using hR⟩
  case fin =>
    rintro ⟨b1, b2⟩ s' ⟨hb, gg, i, hz, hR⟩
    simp only at hb
    subst hb
    have hge : items.size ≤ i := by
      rcases Nat.lt_or_ge i items.size with h' | h'
      · rw [List.drop_eq_getElem_cons (by simpa using h')] at hz; cases hz
      · exact h'
    have h1 := hR s' gg
    rw [List.drop_of_length_le (by have := he.1; omega)] at h1
    wp_walk
    exact ⟨_, rfl, by simpa using h1⟩
  case h =>
    exact ⟨rfl, .refl _, 0, by simp, by simpa using h⟩
end
end Mine
namespace Mine
open PySem PySem.W PyProof.Rows PySem.SeqAt AutoSeq1 MeetsSeq
set_option maxRecDepth 100000

/-- the text y is sought in the thing d -/
structure InT (c : Cx) (n : Nat) (d : D) (y : List Nat) (b : Bool) : Prop where
  run : ∀ A V s v t, Room c n A → St c V s → Rep c V s d v → wpAny c.M A (compareOp .In (.str (S y) t) v) (fun r s' => Gr s s' ∧ r = .bool b) (fun _ _ => False) s
/-- the items, one by one -/
structure EqsT (c : Cx) (n : Nat) (ds : List D) (y : List Nat) (bs : List Bool) : Prop where
  len : bs.length = ds.length
  each : ∀ (j : Nat) d, ds[j]? = some d → ∃ b, bs[j]? = some b ∧ EqT c n d y b
theorem EqsT.nil {c : Cx} {n : Nat} {y : List Nat} : EqsT c n [] y [] := ⟨rfl, fun j d h => by simp at h⟩
theorem EqsT.cons {c : Cx} {n : Nat} {y : List Nat} {d : D} {ds : List D} {b : Bool} {bs : List Bool} (h : EqT c n d y b) (hs : EqsT c n ds y bs) : EqsT c n (d :: ds) y (b :: bs) :=
  ⟨by simp [hs.len], fun j d' q => by
    cases j with
    | zero => simp at q; subst q; exact ⟨b, rfl, h⟩
    | succ j => simpa using hs.each j d' (by simpa using q)⟩
theorem EqsT.map {c : Cx} {n : Nat} {y : List Nat} {f : D → Bool} : ∀ {ds : List D}, (∀ d ∈ ds, EqT c n d y (f d)) → EqsT c n ds y (ds.map f)
  | [], _ => .nil
  | d :: ds, h => .cons (h d (.head _)) (EqsT.map fun d' q => h d' (.tail _ q))
theorem Room.in1 {c : Cx} {n : Nat} {A : Around} (h : Room c (n + 1) A) : Room c n A.in1 := ⟨h.handled, by have := h.depth; show A.depth + n < 900; omega, by have := h.units; show A.units + 1 + 10 * n + 100 < cLine; omega, h.guards⟩

section
variable {c : Cx} {n : Nat} {y : List Nat} {bs : List Bool}
theorem EqsT.eqs {ds : List D} {V : Addr → Prop} {s : Shared} {items : Array Value} {t : Tok} {A : Around} (h : EqsT c n ds y bs) (hA : Room c (n + 1) A) (hS : St c V s) (r : RepL c V s ds items.toList) : Eqs c.prog c.w A s items (.str (S y) t) bs := by
  have hl := r.length
  refine ⟨by have := h.len; simp at hl; omega, fun j hj s' g => ?_⟩
  have hjd : j < ds.length := by simp at hl; omega
  obtain ⟨b, hb, E⟩ := h.each j _ (List.getElem?_eq_getElem hjd)
  obtain ⟨v, hv, rv⟩ := r.get (List.getElem?_eq_getElem hjd)
  have hv' : v = items[j] := by
    rw [List.getElem?_eq_getElem (by simpa using hj)] at hv
    injection hv with hv; rw [← hv]; simp
  subst hv'
  exact wpAny_mono (E.run A.in1 V s' _ t hA.in1 (hS.gr g) (rv.gr g)) (fun r' s'' q => ⟨q.1, by rw [q.2]; exact hb⟩) fun _ _ q => q

theorem InT.list {ds : List D} (h : EqsT c n ds y bs) : InT c (n + 1) (.list ds) y (bs.any id) := .mk fun A V s v t hA hS r => by
  replace r := r.inv
  obtain ⟨a, o, vs, k, rfl, na, ho, hc, hd, hdt, r⟩ := r
  obtain ⟨cls, dd, data, sl⟩ := o
  simp only at hc hdt
  subst hc hdt
  have hT : s.TypeIs (.ref a) "list" := ⟨_, ho, rfl⟩
  show wpAny _ A (do return Value.bool (← contains (.ref a) (.str (S y) t))) _ _ s
  refine wpAny_bind (wpAny_contains_slot hT F.slot_list_contains (wpAny_mono (Q := fun v s' => Gr s s' ∧ v = Value.bool (bs.any id)) (E := fun _ _ => False) ?_ (fun v s' q => ?_) fun _ _ q => q))
  · refine wpAny_call (codeAny_call_builtin F.slot_list_contains.plain F.entry_list_contains (F.slot_list_contains.check _ _ _ _ _ _ _ _ hT (F.args_list_contains_2 _ _) ?_))
    exact list_containsG (R := wants (fun v s' => Gr s s' ∧ v = Value.bool (bs.any id)) (fun _ _ => False)) (h.eqs hA hS r) ho fun s' g => ⟨g, rfl⟩
  · obtain ⟨g, rfl⟩ := q
    exact wpAny_truthy_bool (wpAny_pure ⟨g, rfl⟩)

theorem InT.tuple {ds : List D} (h : EqsT c n ds y bs) : InT c (n + 1) (.tuple ds) y (bs.any id) := .mk fun A V s v t hA hS r => by
  replace r := r.inv
  obtain ⟨a, o, vs, k, rfl, na, ho, hc, hd, hdt, r⟩ := r
  obtain ⟨cls, dd, data, sl⟩ := o
  simp only at hc hdt
  subst hc hdt
  have hT : s.TypeIs (.ref a) "tuple" := ⟨_, ho, rfl⟩
  show wpAny _ A (do return Value.bool (← contains (.ref a) (.str (S y) t))) _ _ s
  refine wpAny_bind (wpAny_contains_slot hT F.slot_tuple_contains (wpAny_mono (Q := fun v s' => Gr s s' ∧ v = Value.bool (bs.any id)) (E := fun _ _ => False) ?_ (fun v s' q => ?_) fun _ _ q => q))
  · refine wpAny_call (codeAny_call_builtin F.slot_tuple_contains.plain F.entry_tuple_contains (F.slot_tuple_contains.check _ _ _ _ _ _ _ _ hT (F.args_tuple_contains_2 _ _) ?_))
    exact tuple_containsG (R := wants (fun v s' => Gr s s' ∧ v = Value.bool (bs.any id)) (fun _ _ => False)) (h.eqs hA hS r) ho fun s' g => ⟨g, rfl⟩
  · obtain ⟨g, rfl⟩ := q
    exact wpAny_truthy_bool (wpAny_pure ⟨g, rfl⟩)

theorem InT.dict {kvs : List (List Nat × D)} : InT c n (.dict kvs) y (kvs.lookup y).isSome := .mk fun A V s v t hA hS r => CmpR.inD A V s _ _ hA.zero hS (.str _ t) r

/-- the test 'y' in x -/
theorem Tst.inT {sc : Scope} {ρ : Sto} {x : String} {p p2 pos : Pos} {kk : Nat} {d : D} {b : Bool} (h : InT c n d y b) (hx : ρ.lookup x = some (.val d)) (hxd : x ≠ "__debug__" := by decide) :
    Tst c n sc ρ (.Compare (.Constant (.str (S y)) kk p) [.In] [.Name (Str.ofString x) p2] pos) b := .mk fun A env V0 h0 Cs X s hA F =>
  wpAny_isTrue_Compare1 (wpAny_mono ((Ev.str (k := false)).run A env V0 h0 Cs X s hA F) (fun v₁ s₁ q₁ => wpAny_mono ((Ev.name (k := false) hx hxd).run A env V0 h0 Cs X s₁ hA (F.gr q₁.1)) (fun v₂ s₂ q₂ => by
    obtain ⟨g₁, r₁⟩ := q₁
    obtain ⟨_, rfl⟩ := r₁.inv
    refine wpAny_mono (h.run A _ s₂ v₂ _ hA ((F.st false).gr (g₁.trans q₂.1)) q₂.2) (fun v s' q => ?_) fun _ _ q => q
    rw [q.2]; exact wpAny_truthy_bool ⟨(g₁.trans q₂.1).trans q.1, rfl⟩) fun _ _ q => q) fun _ _ q => q)
end
end Mine
namespace Mine
set_option maxRecDepth 100000
/-- f called with a thing gives this very thing back -/
structure FnI (c : Cx) (n : Nat) (f : Value) (d : D) : Prop where
  run : ∀ A V s v, Room c n A → St c V s → Rep c V s d v → wpAny c.M A (call f [v]) (fun r s' => Gr s s' ∧ r = v) (fun _ _ => False) s

section
variable {c : Cx} {n : Nat} {sc : Scope}
noncomputable abbrev two (x : String) (v : Value) (d : D) : Sto := [(x, .val (.val v)), (x, .val d)]
theorem Fm.double {x : String} {v : Value} {d : D} {env V0 h0 Cs X s} (F : Fm c sc env V0 h0 Cs X [(x, .val (.val v))] s) (r : Rep c (Vol V0 X) s d v) : Fm c sc env V0 h0 Cs X (two x v d) s := by
  obtain ⟨f1, f2, f3, f4, f5, f6, f7, f8, f9, f10, f11, f12, f13, m, fps, h1, h2, h3, h4, h6, h5⟩ := F
  refine ⟨f1, f2, f3, f4, f5, f6, f7, f8, f9, f10, f11, f12, f13, m, fps, h1, h2, h3, h4, h6, ?_⟩
  cases h5 with
  | cons l r' rs =>
    cases rs
    cases r' with
    | val r' => cases r'.inv; exact .cons (fp := []) l (.val (.val v)) (.cons (fp := []) l (.val r) .nil)
theorem Fm.single {x : String} {v : Value} {d : D} {env V0 h0 Cs X s} (F : Fm c sc env V0 h0 Cs X (two x v d) s) : Fm c sc env V0 h0 Cs X [(x, .val d)] s := by
  obtain ⟨f1, f2, f3, f4, f5, f6, f7, f8, f9, f10, f11, f12, f13, m, fps, h1, h2, h3, h4, h6, h5⟩ := F
  refine ⟨f1, f2, f3, f4, f5, f6, f7, f8, f9, f10, f11, f12, f13, m, fps, h1, h2, h3, h4, h6, ?_⟩
  cases h5 with
  | cons l r' rs =>
    cases r' with
    | val r' => exact rs
theorem Tst.two {x : String} {v : Value} {d : D} {e : Expr} {b : Bool} (h : Tst c n sc [(x, .val d)] e b) : Tst c n sc (two x v d) e b := .mk fun A env V0 h0 Cs X s hA F => h.run A env V0 h0 Cs X s hA F.single

theorem FnI.of {a : Addr} {x : String} {body : List Stmt} {d : D} (hd : IsDef c a sc [x] body) (h : ∀ v, Tr c n sc (two x v d) body fun af _ => af = .ret (.val v)) : FnI c (n + 1) (.ref a) d := .mk fun A V s v hA hS r => by
  refine wpAny_mono (Q := fun r s' => Gr s s' ∧ r = v) (E := fun _ _ => False) ?_ (fun _ _ q => q) fun _ _ q => q
  refine fn_enter (c := c) (ds := [.val v]) hd.toIsDefL rfl hA hS (.cons (.val v) .nil) fun env X s₁ hf hnl g F hO hX => ?_
  have r₁ : Rep c (Vol V X) s₁ d v := (r.ext (W := fun b => b ∈ X) hX).gr g
  refine wpAny_mono ((h v).run (A.deeper env) env V _ env.cells X s₁ (hA.deeper env) ⟨hO, fun q => absurd q hd.nl⟩ (F.double r₁)) (fun f s' q ht => ?_) fun _ _ q => q.elim
  obtain ⟨X', ρ', af, t, F', hfl, hp⟩ := q
  subst hp
  cases hfl with
  | ret r' => cases r'.inv; exact ⟨⟨fun b o e => F'.keep b o e, ht, t.gens.trans g.gens, t.os.trans g.os⟩, rfl⟩
end
end Mine
namespace Mine
set_option maxRecDepth 100000
section
variable {c : Cx} {n : Nat} {sc : Scope} {P : AF → Sto → Prop}
theorem Tst.inL {ρ : Sto} {x z : String} {p p2 pos : Pos} {kk : Nat} {d : D} {b : Bool} (h : InT c n d (cs z) b) (hx : ρ.lookup x = some (.val d)) (hxd : x ≠ "__debug__" := by decide) :
    Tst c n sc ρ (.Compare (.Constant (.str (Str.ofString z)) kk p) [.In] [.Name (Str.ofString x) p2] pos) b := by
  have := Tst.inT (sc := sc) (ρ := ρ) (p := p) (p2 := p2) (pos := pos) (kk := kk) h hx hxd
  rwa [show S (cs z) = Str.ofString z from (ofString_S _).symm] at this
theorem Tr.skip {z : String} {v : Value} {d : D} {p p2 p3 p4 : Pos} {kk : Nat} {body rest : List Stmt} (h : InT c n d (cs z) false) (hr : Tr c n sc (two "text" v d) rest P) :
    Tr c n sc (two "text" v d) (.If (.Compare (.Constant (.str (Str.ofString z)) kk p) [.In] [.Name (Str.ofString "text") p2] p3) body [] p4 :: rest) P :=
  .step (.ite (b := false) (Tst.two (Tst.inL h rfl)) (fun q => nomatch q) fun _ => .nil ⟨rfl, rfl⟩) hr

/-- none of the signs is in the thing -/
noncomputable def Free (c : Cx) (n : Nat) (d : D) (zs : List String) : Prop := ∀ z ∈ zs, InT c n d (cs z) false

theorem cdata_I (hd : IsDef c 106 (sc08 3) ["text"] (bd08 3)) {d : D} (h : Free c n d ["&", "<", ">"]) : FnI c (n + 1) (.ref 106) d :=
  FnI.of hd fun v => Tr.last (Sx.try (Tr.skip (h "&" (by decide)) (Tr.skip (h "<" (by decide)) (Tr.skip (h ">" (by decide)) (Tr.last (Sx.ret (Ev.name rfl) rfl))))))
theorem attrib_I (hd : IsDef c 113 (sc08 4) ["text"] (bd08 4)) {d : D} (h : Free c n d ["&", "<", ">", "\"", "\r", "\n", "\t"]) : FnI c (n + 1) (.ref 113) d :=
  FnI.of hd fun v => Tr.last (Sx.try (Tr.skip (h "&" (by decide)) (Tr.skip (h "<" (by decide)) (Tr.skip (h ">" (by decide)) (Tr.skip (h "\"" (by decide)) (Tr.skip (h "\r" (by decide)) (Tr.skip (h "\n" (by decide)) (Tr.skip (h "\t" (by decide)) (Tr.last (Sx.ret (Ev.name rfl) rfl))))))))))
theorem html_I (hd : IsDef c 120 (sc08 5) ["text"] (bd08 5)) {d : D} (h : Free c n d ["&", ">", "\""]) : FnI c (n + 1) (.ref 120) d :=
  FnI.of hd fun v => Tr.last (Sx.try (Tr.skip (h "&" (by decide)) (Tr.skip (h ">" (by decide)) (Tr.skip (h "\"" (by decide)) (Tr.last (Sx.ret (Ev.name rfl) rfl))))))
theorem cc_I (hd : IsDef c 127 (sc08 6) ["text"] (bd08 6)) {d : D} (h : Free c n d ["&", "<", ">", "\r"]) : FnI c (n + 1) (.ref 127) d :=
  FnI.of hd fun v => Tr.last (Sx.try (Tr.skip (h "&" (by decide)) (Tr.skip (h "<" (by decide)) (Tr.skip (h ">" (by decide)) (Tr.skip (h "\r" (by decide)) (Tr.last (Sx.ret (Ev.name rfl) rfl)))))))
theorem ac_I (hd : IsDef c 134 (sc08 7) ["text"] (bd08 7)) {d : D} (h : Free c n d ["&", "<", "\"", "\t", "\n", "\r"]) : FnI c (n + 1) (.ref 134) d :=
  FnI.of hd fun v => Tr.last (Sx.try (Tr.skip (h "&" (by decide)) (Tr.skip (h "<" (by decide)) (Tr.skip (h "\"" (by decide)) (Tr.skip (h "\t" (by decide)) (Tr.skip (h "\n" (by decide)) (Tr.skip (h "\r" (by decide)) (Tr.last (Sx.ret (Ev.name rfl) rfl)))))))))
end
end Mine
namespace Mine
set_option maxRecDepth 100000
/-- what the class QName lacks -/
structure QN (c : Cx) (K : Frag) : Prop where
  con : findIn K (.ref c.qc) "__contains__" = some none
  iter : findIn K (.ref c.qc) "__iter__" = some none
  item : findIn K (.ref c.qc) "__getitem__" = some none
  name : ∃ cd, clsIn K c.qc = some cd ∧ cd.name = Str.ofString "QName"

section
variable {prog : Program} {w : World} {A : Around} {E : Value → Shared → Prop} {s : Shared} {K : Frag} {x C : Addr} {ox : Obj} {od : Option Obj}
theorem special_K {name : Str} {r : Option Value} {Q : Option Value → Shared → Prop} (X : K.In s.heap) (I : InstAt s.heap x ox C od) (hs : findIn K (.ref C) name = some r) (h : Q r s) : wpAny (model prog w) A (specialOf (.ref x) name) Q E s := by
  unfold specialOf
  exact wpAny_bind (I.type.here ((looks_findIn X hs).here h))
theorem qnName_of {cd : ClassData} {Q : String → Shared → Prop} (X : K.In s.heap) (I : InstAt s.heap x ox C od) (hc : clsIn K C = some cd) (hn : cd.name = Str.ofString "QName") (h : Q "QName" s) : wpAny (model prog w) A (PySem.typeNameOf (.ref x)) Q E s := by
  unfold PySem.typeNameOf PySem.shownTypeOf
  refine wpAny_bind (wpAny_bind (I.type.here ?_))
  rw [if_neg (by simp)]
  refine wpAny_pure ?_
  unfold PySem.typeName
  refine wpAny_bind ((looks_clsIn X hc).here ?_)
  rw [hn]
  dsimp only
  rw [if_neg (by decide +kernel)]
  refine wpAny_pure ?_
  rw [show (Str.ofString "QName").toString = "QName" by decide +kernel]
  exact h
theorem in_none_qn {cd : ClassData} {u : Value} {Q : Value → Shared → Prop} (X : K.In s.heap) (I : InstAt s.heap x ox C od) (h1 : findIn K (.ref C) "__contains__" = some none) (h2 : findIn K (.ref C) "__iter__" = some none) (h3 : findIn K (.ref C) "__getitem__" = some none)
    (hc : clsIn K C = some cd) (hn : cd.name = Str.ofString "QName") (hI : ∀ s' : Shared, Keeps s.heap s'.heap → InstAt s'.heap x ox C od) (hh : A.handled = none)
    (h : ∀ ev s', Thrown "TypeError" s ev s' → E ev s') : wpAny (model prog w) A (compareOp .In u (.ref x)) Q E s := by
  unfold compareOp
  dsimp only
  refine wpAny_bind ?_
  unfold contains
  refine wpAny_holding ?_
  rw [show stdlibNamesSay? (.ref x) u = none from rfl]
  dsimp only
  refine wpAny_bind (special_K X I h1 ?_)
  rw [if_neg (by decide)]
  refine wpAny_bind ?_
  unfold callSpecialUnlessNone?
  refine wpAny_bind (special_K X I h1 ?_)
  dsimp only
  refine wpAny_pure ?_
  dsimp only
  refine wpAny_bind (wpAny_rule ?_)
  refine wpAny_bind (wpAny_tryCatch ?_)
  unfold pyIter
  refine wpAny_bind (special_K X I h2 ?_)
  dsimp only
  refine wpAny_bind (special_K X I h3 ?_)
  dsimp only
  refine wpAny_bind (wpAny_rule ?_)
  refine wpAny_bind (qnName_of X I hc hn ?_)
  refine throw_made plainExc_TypeError hh (by decide +kernel) fun ev s₁ y => ?_
  obtain ⟨⟨e, t, rfl, e1, e2⟩, k, a, b, d⟩ := y
  refine wpAny_bind (wpAny_isInstance (T := "TypeError") (b := true) ⟨_, e2, rfl⟩ (by rw [isSubtype_type]; kernel_rfl) ?_)
  rw [if_pos rfl]
  refine wpAny_bind (qnName_of (X.keeps k) (hI s₁ k) hc hn ?_)
  exact throw_made plainExc_TypeError hh (by decide +kernel) fun ev s₂ y => h ev s₂ (y.gr ⟨k, a, b, d⟩)
end
theorem noIn_bool : NoIn "bool" := ⟨by rw [typeLookup_type, builtinLookup_eq_fast]; kernel_rfl, by rw [typeLookup_type, builtinLookup_eq_fast]; kernel_rfl, by rw [typeLookup_type, builtinLookup_eq_fast]; kernel_rfl, by decide +kernel, by decide +kernel⟩

/-- a sign in d: TypeError -/
noncomputable def InXS (c : Cx) (d : D) : Prop := ∀ A V s v x tk, A.handled = none → St c V s → Rep c V s d v → wpAny c.M A (compareOp .In (.str x tk) v) (fun _ _ => False) (Thrown "TypeError" s) s
section
variable {c : Cx} {K : Frag}
theorem InX.s {d : D} (h : InX c d) : InXS c d := fun A V s v x tk hh _ r => h A V s v x tk hh r
theorem InX.bool {b : Bool} : InX c (.bool b) := fun A V s v x tk hh r => by
  cases r.inv
  exact in_none noIn_bool rfl rfl rfl (fun s' _ => rfl) hh fun _ _ q => q
theorem InXS.qn {x : List Nat} (Y : QC c K) (Z : QN c K) : InXS c (.qn x) := fun A V s v u tk hh hS r => by
  obtain ⟨a, dx, t', k, m, rfl, I, hm⟩ := r.inst
  obtain ⟨o, I', _⟩ := I.inst
  obtain ⟨cd, hc, hn⟩ := Z.name
  exact in_none_qn (Y.X.keeps hS.keep) I' Z.con Z.iter Z.item hc hn (fun s' k => by obtain ⟨i1, i2, i3, i4⟩ := I'; exact ⟨k _ _ i1, i2, i3, k _ _ i4⟩) hh fun _ _ q => q
end
end Mine
namespace Mine
set_option maxRecDepth 100000
section
variable {prog : Program} {w : World} {A : Around} {E : Value → Shared → Prop} {s : Shared}
theorem replace_miss_list {a : Addr} {o : Obj} {xs : Array Value} {k : Nat} {Q : Value → Shared → Prop}
    (hx : s.heap.get? a = some o) (hc : o.cls = .type "list") (hdat : o.data = .seq xs k) (hd : o.dict = none) (hA : A.handled = none)
    (h : ∀ h' tk e, Heap.NewAttrErr s.heap h' e (.ref a) (Str.ofString "replace") → E (.ref e) { s with heap := h', toks := tk }) :
    wpAny (model prog w) A (getAttr (.ref a) (Str.ofString "replace")) Q E s := by
  obtain ⟨c, dct, dat, sl⟩ := o
  simp only at hc hdat hd
  subst hc hdat hd
  obtain ⟨hp, g, d, tk, os⟩ := s
  have hT : ∀ tk', (⟨hp, g, d, tk', os⟩ : Shared).TypeIs (.ref a) "list" := fun _ => ⟨_, hx, rfl⟩
  have f1 := sub_AttributeError
  have f3 := F.slot_list_getattribute.lookup
  have f4 := F.slot_list_getattribute.bind (.ref a)
  have f5 := am_list_getattr_none
  unfold getAttr getAttrBy
  repeat (any_goals (first | assumption | exact hT _ | ((with_reducible show wpAny _ _ (call (Value.builtin "list.__getattribute__") _ _) _ _ _); refine call_meets F.slot_list_getattribute (hT _) am_entry_list_getattribute (F.args_list_getattribute_2 _ _) (meets_getattribute_miss_list a xs k sl (Str.ofString "replace") _ (by rw [typeLookup_type, builtinLookup_eq_fast]; kernel_rfl) (by decide +kernel) (by size_fits)) ⟨hx, hA, fun h' tk' e hx' => ?_⟩) | wp_step))
  obtain ⟨t', u', he⟩ := hx'.there
  show wpAny _ _ (getattributeRaised _ _ _ _ _ _ _) _ _ _
  unfold getattributeRaised
  repeat (any_goals (first | assumption | wp_step))
  exact h _ _ _ hx'
theorem replace_miss_tuple {a : Addr} {o : Obj} {xs : Array Value} {k : Nat} {Q : Value → Shared → Prop}
    (hx : s.heap.get? a = some o) (hc : o.cls = .type "tuple") (hdat : o.data = .seq xs k) (hd : o.dict = none) (hA : A.handled = none)
    (h : ∀ h' tk e, Heap.NewAttrErr s.heap h' e (.ref a) (Str.ofString "replace") → E (.ref e) { s with heap := h', toks := tk }) :
    wpAny (model prog w) A (getAttr (.ref a) (Str.ofString "replace")) Q E s := by
  obtain ⟨c, dct, dat, sl⟩ := o
  simp only at hc hdat hd
  subst hc hdat hd
  obtain ⟨hp, g, d, tk, os⟩ := s
  have hT : ∀ tk', (⟨hp, g, d, tk', os⟩ : Shared).TypeIs (.ref a) "tuple" := fun _ => ⟨_, hx, rfl⟩
  have f1 := sub_AttributeError
  have f3 := F.slot_tuple_getattribute.lookup
  have f4 := F.slot_tuple_getattribute.bind (.ref a)
  have f5 := am_tuple_getattr_none
  unfold getAttr getAttrBy
  repeat (any_goals (first | assumption | exact hT _ | ((with_reducible show wpAny _ _ (call (Value.builtin "tuple.__getattribute__") _ _) _ _ _); refine call_meets F.slot_tuple_getattribute (hT _) am_entry_tuple_getattribute (F.args_tuple_getattribute_2 _ _) (meets_getattribute_miss_tuple a xs k sl (Str.ofString "replace") _ (by rw [typeLookup_type, builtinLookup_eq_fast]; kernel_rfl) (by decide +kernel) (by size_fits)) ⟨hx, hA, fun h' tk' e hx' => ?_⟩) | wp_step))
  obtain ⟨t', u', he⟩ := hx'.there
  show wpAny _ _ (getattributeRaised _ _ _ _ _ _ _) _ _ _
  unfold getattributeRaised
  repeat (any_goals (first | assumption | wp_step))
  exact h _ _ _ hx'
theorem replace_miss_dict {a : Addr} {o : Obj} {es : Array DictEntry} {k : Nat} {Q : Value → Shared → Prop}
    (hx : s.heap.get? a = some o) (hc : o.cls = .type "dict") (hdat : o.data = .dict es k) (hd : o.dict = none) (hA : A.handled = none)
    (h : ∀ h' tk e, Heap.NewAttrErr s.heap h' e (.ref a) (Str.ofString "replace") → E (.ref e) { s with heap := h', toks := tk }) :
    wpAny (model prog w) A (getAttr (.ref a) (Str.ofString "replace")) Q E s := by
  obtain ⟨c, dct, dat, sl⟩ := o
  simp only at hc hdat hd
  subst hc hdat hd
  obtain ⟨hp, g, d, tk, os⟩ := s
  have hT : ∀ tk', (⟨hp, g, d, tk', os⟩ : Shared).TypeIs (.ref a) "dict" := fun _ => ⟨_, hx, rfl⟩
  have f1 := sub_AttributeError
  have f3 := F.slot_dict_getattribute.lookup
  have f4 := F.slot_dict_getattribute.bind (.ref a)
  have f5 := am_dict_getattr_none
  unfold getAttr getAttrBy
  repeat (any_goals (first | assumption | exact hT _ | ((with_reducible show wpAny _ _ (call (Value.builtin "dict.__getattribute__") _ _) _ _ _); refine call_meets F.slot_dict_getattribute (hT _) am_entry_dict_getattribute (F.args_dict_getattribute_2 _ _) (meets_getattribute_miss_dict a es k sl (Str.ofString "replace") _ (by rw [typeLookup_type, builtinLookup_eq_fast]; kernel_rfl) (by decide +kernel) (by size_fits)) ⟨hx, hA, fun h' tk' e hx' => ?_⟩) | wp_step))
  obtain ⟨t', u', he⟩ := hx'.there
  show wpAny _ _ (getattributeRaised _ _ _ _ _ _ _) _ _ _
  unfold getattributeRaised
  repeat (any_goals (first | assumption | wp_step))
  exact h _ _ _ hx'
end
end Mine
namespace Mine
set_option maxRecDepth 100000
/-- an exception of any form has just been made and raised -/
structure ThrG (T : String) (s : Shared) (ev : Value) (s' : Shared) : Prop where
  ex : ∃ e o vs, ev = .ref e ∧ s.heap.get? e = none ∧ s'.heap.get? e = some o ∧ o.cls = .type T ∧ o.data = .fields vs ∧ vs[1]? = some .none ∧ vs[2]? = some .none
  keep : Keeps s.heap s'.heap
  tok : s.toks ≤ s'.toks
  gens : s'.gens = s.gens
  os : s'.os = s.os
theorem Thrown.g {T : String} {s s' : Shared} {ev : Value} (h : Thrown T s ev s') : ThrG T s ev s' := by
  obtain ⟨⟨e, t, rfl, h1, h2⟩, k, a, b, d⟩ := h
  exact ⟨⟨e, _, _, rfl, h1, h2, rfl, rfl, by simp, by simp⟩, k, a, b, d⟩
theorem ThrG.gr {T : String} {s s₁ s' : Shared} {ev : Value} (h : ThrG T s₁ ev s') (g : Gr s s₁) : ThrG T s ev s' := by
  obtain ⟨⟨e, o, vs, rfl, h1, h2⟩, k, a, b, d⟩ := h
  refine ⟨⟨e, o, vs, rfl, ?_, h2⟩, g.keep.trans k, Nat.le_trans g.tok a, b.trans g.gens, d.trans g.os⟩
  cases q : s.heap.get? e with
  | none => rfl
  | some o => have := g.keep _ _ q; rw [h1] at this; cases this

section
variable {prog : Program} {w : World} {A : Around} {E : Value → Shared → Prop} {s : Shared}
theorem method_miss {T : String} {name : Str} {v : Value} {pl : Sem Bool} {Q : Value × List Value → Shared → Prop} (hT : s.TypeIs v T) (pa : PlainAttrs T) (hm : typeLookup (.type T) name = pure none)
    (h : wpAny (model prog w) A (getAttr v name) (fun r s' => Q (r, []) s') E s) : wpAny (model prog w) A (getMethod v name pl) Q E s := by
  obtain ⟨g, hg, hcan⟩ := pa.ga
  unfold getMethod
  refine wpAny_bind (wpAny_specialOf hT hg ?_)
  show wpAny _ A (if (Manifest.canonical g != "object.__getattribute__") = true then _ else _) Q E s
  rw [hcan, if_neg Bool.false_ne_true]
  refine wpAny_bind (wpAny_specialOf hT pa.noGetattr ?_)
  refine wpAny_bind (wpAny_specialOf hT hm ?_)
  exact wpAny_bind (wpAny_mono h (fun r s' q => wpAny_pure q) fun _ _ q => q)
end

section
variable {c : Cx}
/-- d has no replace -/
structure NoRep (c : Cx) (d : D) : Prop where
  run : ∀ A V s v pl, A.handled = none → Rep c V s d v → wpAny c.M A (getMethod v (Str.ofString "replace") pl) (fun _ _ => False) (ThrG "AttributeError" s) s
theorem attrErr_thr {s : Shared} {h' : Heap} {tk : Nat} {e : Addr} {a : Value} (x : Heap.NewAttrErr s.heap h' e a (Str.ofString "replace")) (ht : s.toks ≤ tk) : ThrG "AttributeError" s (.ref e) { s with heap := h', toks := tk } := by
  obtain ⟨k, hn, t, u, he⟩ := x
  exact ⟨⟨e, _, _, rfl, hn, he, rfl, rfl, by simp, by simp⟩, k, ht, rfl, rfl⟩
theorem NoRep.list {ds : List D} : NoRep c (.list ds) := .mk fun A V s v pl hh r => by
  replace r := r.inv
  obtain ⟨_, _, _, _, rfl, na, ho, hc, hd, hdt, r⟩ := r
  refine method_miss (T := "list") ⟨_, ho, hc⟩ PySem.F.plainAttrs_list (by rw [typeLookup_type, builtinLookup_eq_fast]; kernel_rfl) ?_
  exact wpAny_with_toks (Nat.le_refl _) (replace_miss_list ho hc hdt hd.1 hh fun h' tk e x ht => attrErr_thr x ht)
theorem NoRep.tuple {ds : List D} : NoRep c (.tuple ds) := .mk fun A V s v pl hh r => by
  replace r := r.inv
  obtain ⟨_, _, _, _, rfl, na, ho, hc, hd, hdt, r⟩ := r
  refine method_miss (T := "tuple") ⟨_, ho, hc⟩ PySem.F.plainAttrs_tuple (by rw [typeLookup_type, builtinLookup_eq_fast]; kernel_rfl) ?_
  exact wpAny_with_toks (Nat.le_refl _) (replace_miss_tuple ho hc hdt hd.1 hh fun h' tk e x ht => attrErr_thr x ht)
theorem NoRep.dict {kvs : List (List Nat × D)} : NoRep c (.dict kvs) := .mk fun A V s v pl hh r => by
  replace r := r.inv
  obtain ⟨_, _, _, _, rfl, na, hs, ho, hx, hdt, r⟩ := r
  refine method_miss (T := "dict") ⟨_, ho, hx.1⟩ PySem.F.plainAttrs_dict (by rw [typeLookup_type, builtinLookup_eq_fast]; kernel_rfl) ?_
  exact wpAny_with_toks (Nat.le_refl _) (replace_miss_dict ho hx.1 hdt hx.2.1 hh fun h' tk e x ht => attrErr_thr x ht)

/-- statements that raise TypeError or AttributeError -/
structure TrX (c : Cx) (n : Nat) (sc : Scope) (ρ : Sto) (ss : List Stmt) : Prop where
  run : ∀ A env V0 h0 Cs X s, Room c n A → A.handled = none → Fm c sc env V0 h0 Cs X ρ s → wpAny c.M A (execs ss env) (fun _ _ => False) (fun ev s' => ∃ T, (T = "TypeError" ∨ T = "AttributeError") ∧ ThrG T s ev s') s

section
variable {n : Nat} {sc : Scope} {ρ : Sto} {x z : String} {p p2 p3 p4 p5 p6 p7 p8 pos ap : Pos} {kk k1 k2 : Nat} {d : D} {body orelse rest : List Stmt}
theorem TrX.skip (h : InT c n d (cs z) false) (hx : ρ.lookup x = some (.val d)) (hr : TrX c n sc ρ rest) (hxd : x ≠ "__debug__" := by decide) :
    TrX c n sc ρ (.If (.Compare (.Constant (.str (Str.ofString z)) kk p) [.In] [.Name (Str.ofString x) p2] p3) body [] p4 :: rest) := .mk fun A env V0 h0 Cs X s hA hh F => by
  refine wpAny_execs_cons (wpAny_If (wpAny_mono ((Tst.inL (sc := sc) h hx hxd).run A env V0 h0 Cs X s hA F) (fun r s' q => ?_) fun _ _ q => q.elim))
  obtain ⟨g, rfl⟩ := q
  refine wpAny_execs_nil ?_
  exact wpAny_mono (hr.run A env V0 h0 Cs X s' hA hh (F.gr g)) (fun _ _ q => q) fun ev s'' q => let ⟨T, hT, th⟩ := q; ⟨T, hT, th.gr g⟩
theorem TrX.inX (h : InXS c d) (hx : ρ.lookup x = some (.val d)) (hxd : x ≠ "__debug__" := by decide) :
    TrX c n sc ρ (.If (.Compare (.Constant (.str (Str.ofString z)) kk p) [.In] [.Name (Str.ofString x) p2] p3) body orelse p4 :: rest) := .mk fun A env V0 h0 Cs X s hA hh F => by
  refine wpAny_execs_cons (wpAny_If (wpAny_isTrue_Compare1 ?_ (by with_unfolding_all rfl)))
  refine wpAny_mono ((Ev.lit (n := n) (k := false) (sc := sc) (ρ := ρ)).run A env V0 h0 Cs X s hA F) (fun u s₂ q₂ => ?_) fun _ _ q => q.elim
  refine wpAny_mono ((Ev.name (n := n) (k := false) (sc := sc) hx hxd).run A env V0 h0 Cs X s₂ hA (F.gr q₂.1)) (fun v s₃ q₃ => ?_) fun _ _ q => q.elim
  have g₃ := q₂.1.trans q₃.1
  obtain ⟨_, ru⟩ := q₂
  obtain ⟨tk, rfl⟩ := ru.inv
  exact wpAny_mono (h A _ s₃ v _ tk hh ((F.st false).gr g₃) q₃.2) (fun _ _ q => q.elim) fun ev s₄ th => ⟨_, .inl rfl, th.g.gr g₃⟩
theorem TrX.noRep (h : InT c n d (cs z) true) (hx : ρ.lookup "text" = some (.val d)) (hn : NoRep c d) {a1 a2 : Expr}
    (hfew : ∀ env : Env, methodCallForm 2 (backTo p7 (starEach [a1, a2] env)) (backToKw p7 (keywordEach [] env)) = true := by intro _; rfl)
    (hs : ∀ env : Env, env.scope = sc → swapsWith (.Call (.Attribute (.Name (Str.ofString "text") p5) (Str.ofString "replace") ap) [a1, a2] [] p7) (some (.Name (Str.ofString "text") p6)) p8.line env = pure false := by intro _ _; rfl) :
    TrX c n sc ρ (.If (.Compare (.Constant (.str (Str.ofString z)) kk p) [.In] [.Name (Str.ofString "text") p2] p3)
      [.Assign [.Name (Str.ofString "text") p6] (.Call (.Attribute (.Name (Str.ofString "text") p5) (Str.ofString "replace") ap) [a1, a2] [] p7) p8] [] p4 :: rest) := .mk fun A env V0 h0 Cs X s hA hh F => by
  refine wpAny_execs_cons (wpAny_If (wpAny_mono ((Tst.inL (sc := sc) h hx).run A env V0 h0 Cs X s hA F) (fun r s' q => ?_) fun _ _ q => q.elim))
  obtain ⟨g, rfl⟩ := q
  refine wpAny_execs_cons (wpAny_Assign_Name ?_ (hs env F.scope))
  rw [arm_eval_Call]
  rw [show attributeBase (.Name (Str.ofString "text") p5) (Str.ofString "replace") env (eval (.Name (Str.ofString "text") p5) env) = eval (.Name (Str.ofString "text") p5) env from rfl]
  refine wpAny_bind (wpAny_mono ((Ev.name (n := n) (k := false) (sc := sc) hx).run A env V0 h0 Cs X s' hA (F.gr g)) (fun v s₃ q₃ => ?_) fun _ _ q => q.elim)
  refine wpAny_bind (wpAny_standAt ?_)
  unfold methodCall calleeOf
  rw [show methodCallForm ([a1, a2].length + ([] : List Keyword).length) (backTo p7 (starEach [a1, a2] env)) (backToKw p7 (keywordEach [] env)) = true from hfew env]
  refine wpAny_bind (wpAny_holding (wpAny_mono (hn.run A _ s₃ v _ hh q₃.2) (fun _ _ q => q.elim) fun ev s₄ th => ?_))
  exact ⟨_, .inr rfl, th.gr (g.trans q₃.1)⟩
end
end
end Mine
namespace Mine
set_option maxRecDepth 100000
section
variable {M : Model} {A : Around} {E : Value → Shared → Prop} {s : Shared}
/-- an exception that was made in this very frame is noted and comes to the clauses -/
theorem note_madeG {B : Heap} {env : Env} {l : List Env} {L e : Addr} {oe : Obj} {vs : Array Value} {Q : Unit → Shared → Prop} (hfr : A.frames = some (env :: l)) (hl : s.heap.FunFrames B (env :: l)) (hf : env.frame = some L)
    (he : s.heap.get? e = some oe) (hdt : oe.data = .fields vs) (hv1 : vs[1]? = some .none) (hkb : B.StaysIn s.heap) (hen : B.get? e = none)
    (h : ∀ h' tb oT ts, B.StaysIn h' → h'.FunFrames B (env :: l) → h'.get? e = some (Obj.mapFields (·.setIfInBounds 1 (Value.ref tb)) oe) → B.get? tb = none → tb ≠ e → h'.get? tb = some oT → oT.data = .fields ts → 3 < ts.size → s.heap.UpToSlots h' → Q () { s with heap := h' }) :
    wpAny M A (noteFrame (.ref e) env) (fun _ s₂ => wpAny M A (setFlight (.ref e) none) Q E s₂) E s := by
  unfold noteFrame
  simp only [hf]
  refine wpAny_bind (wpAny_field he hdt hv1 ?_)
  rw [if_neg (by decide)]
  have hene : e ∉ (env :: l).filterMap (·.frame) := fun hm => by
    obtain ⟨_, o, ho, hnf⟩ := hl.mem hm
    rw [he] at ho; injection ho with ho; subst ho; exact hnf _ hdt
  refine wpAny_bind (wpAny_frameOf_fun hfr hl hf fun h₁ hs₁ => ?_)
  refine wpAny_bind (wpAny_entryPlaceOf fun pl hpl => ?_)
  unfold EntryCells.newEntry newFields
  refine wpAny_bind (wpAny_newObj_type ?_ (hpl.sizeOk5 _ _ _ _ _))
  have he₁ : h₁.get? e = some oe := (hs₁.2.1 e hene).trans he
  have kb₁ : B.StaysIn h₁ := fun b o hbo => (hs₁.2.1 b fun hm => by rw [(hl.mem hm).1] at hbo; cases hbo).trans (hkb b o hbo)
  generalize hoT : ({ cls := .type "traceback", dict := none, data := .fields ([Value.none, .ref L, .none, rawInt L, .none] ++ (if pl.isEmpty then List.replicate 6 Value.none else pl)).toArray } : Obj) = oT
  obtain ⟨ts, hts, hsz3⟩ : ∃ ts, oT.data = .fields ts ∧ 3 < ts.size := ⟨_, by rw [← hoT], by simp only [List.size_toArray, List.length_append, List.length_cons, List.length_nil]; omega⟩
  have hfT : oT.isFreed = false := by rw [← hoT]; rfl
  have he₂ : (h₁.push oT).get? e = some oe := Heap.get?_push_of_some _ he₁
  have hTe : h₁.objs.size ≠ e := Nat.ne_of_gt (Heap.lt_size he₁)
  refine wpAny_setField (i := 1) he₂ hdt (Array.getElem?_eq_some_iff.mp hv1).1 ?_
  have he₃ := Heap.get?_update_self (Obj.mapFields (·.setIfInBounds 1 (Value.ref h₁.objs.size))) he₂ (Obj.isFreed_of_fields (Obj.data_mapFields hdt _))
  have hT₃ := (Heap.get?_update_other (h₁.push oT) (Obj.mapFields (·.setIfInBounds 1 (Value.ref h₁.objs.size))) (Ne.symm hTe)).trans (Heap.get?_push_size h₁ hfT)
  unfold setFlight
  refine wpAny_bind (wpAny_field he₃ (Obj.data_mapFields hdt _) (x := .ref h₁.objs.size) (by simp [(Array.getElem?_eq_some_iff.mp hv1).1]) ?_)
  rw [if_pos (show (Value.ref h₁.objs.size != Value.none) = true from by simp)]
  refine wpAny_setField hT₃ hts hsz3 (h _ h₁.objs.size _ _ ?_ ?_ ?_ kb₁.fresh hTe (Heap.get?_update_self _ hT₃ (Obj.isFreed_of_fields (Obj.data_mapFields hts _))) (Obj.data_mapFields hts _) (by simpa using hsz3) ?_)
  all_goals
    have keep : ∀ b o, b ≠ e → h₁.get? b = some o →
      (((h₁.push oT).update e (Obj.mapFields (·.setIfInBounds 1 (Value.ref h₁.objs.size)))).update h₁.objs.size (Obj.mapFields (·.setIfInBounds 3 ((none : Option Addr).elim Value.none fun f => rawInt f)))).get? b = some o := fun b o hbe hb => by
      have hbT : h₁.objs.size ≠ b := Nat.ne_of_gt (Heap.lt_size hb)
      rw [Heap.get?_update_other _ _ hbT, Heap.get?_update_other _ _ (Ne.symm hbe)]
      exact Heap.get?_push_of_some _ hb
    have noRecord : ∀ b o, s.heap.get? b = some o → (∀ vs, o.data ≠ .fields vs) → b ≠ e := fun b o hb hnf q => by
      rw [q, he] at hb; injection hb with hb; subst hb; exact hnf _ hdt
  · exact fun b o hbo => keep b o (fun q => by rw [q, hen] at hbo; cases hbo) (kb₁ b o hbo)
  · exact hl.of_keeps fun b o hb hnf => let ⟨sl, hs⟩ := hs₁.2.2 b o hb; ⟨_, keep b _ (noRecord b o hb hnf) hs, rfl⟩
  · rw [Heap.get?_update_other _ _ hTe]; exact he₃
  · exact fun b o hb hnf => let ⟨sl, hs⟩ := hs₁.2.2 b o hb; ⟨sl, keep b _ (noRecord b o hb hnf) hs⟩

end
section
variable {c : Cx} {n : Nat} {sc : Scope} {ρ : Sto}
/-- an escape that meets what is no text -/
theorem esc_raisesG {a ra : Addr} {p4 p5 p6 p7 p8 p9 p10 p11 p12 : Pos} {kt : Nat} {ss : List Stmt} {d : D} {m : List Nat} (hn : c.hn)
    (hd : IsDefL c a sc ["text"] [.Try ss
      [.ExceptHandler (some (.Tuple [.Name (Str.ofString "TypeError") p4, .Name (Str.ofString "AttributeError") p5] kt p6)) none [.Expr (.Call (.Name (Str.ofString "_raise_serialization_error") p7) [.Name (Str.ofString "text") p8] [] p9) p10] p11] [] [] p12])
    (hin : TrX c n sc [("text", .val d)] ss) (hra : c.mg (Str.ofString "_raise_serialization_error") = some (.ref ra)) (hcal : Callee c (.ref ra))
    (hT : c.mg (Str.ofString "TypeError") = Option.none ∧ c.mb (Str.ofString "TypeError") = some (.type "TypeError")) (hAt : c.mg (Str.ofString "AttributeError") = Option.none ∧ c.mb (Str.ofString "AttributeError") = some (.type "AttributeError"))
    (hG : sc.names.lookup (Str.ofString "TypeError") = some .globalImplicit) (hG2 : sc.names.lookup (Str.ofString "AttributeError") = some .globalImplicit) (hG3 : sc.names.lookup (Str.ofString "_raise_serialization_error") = some .globalImplicit)
    (h : FnX c.h n (.ref ra) [d] "TypeError" m) : FnX c (n + 1) (.ref a) [d] "TypeError" m := .mk fun A V s vs B l hA hH K hV hS rv => by
  refine fn_enter hd rfl hA hS rv fun env X s₁ hf hnl g F hO hX => ?_
  have K₁ := F.stk hf hnl K g
  have hA₁ := hA.deeper env
  refine wpAny_execs_cons (wpAny_Try_except ?_)
  have g₃ : Gr s₁ s₁ := .refl s₁
  have F₃ := F
  have K₃ := K₁
  refine wpAny_mono (hin.run (A.deeper env) env V s.heap _ X s₁ hA₁ (hA₁.handled hn) F) (fun _ _ q => q.elim) fun ev s₄ th => ?_
  refine hideG fun G KG => ?_
  obtain ⟨T, hTT, ⟨⟨e, oe, vse, rfl, hen, heo, hecl, hedt, hv1, hv2⟩, hk, ht4, hg4, ho4⟩⟩ := th
  have hsz1 : 1 < vse.size := (Array.getElem?_eq_some_iff.mp hv1).1
  obtain ⟨b1, b2, hs1, hs2, hbb⟩ : ∃ b1 b2, isSubtype (.type T) (.type "TypeError") = pure b1 ∧ isSubtype (.type T) (.type "AttributeError") = pure b2 ∧ (b1 || b2) = true := by
    rcases hTT with rfl | rfl
    · exact ⟨true, false, by rw [isSubtype_type]; kernel_rfl, by rw [isSubtype_type]; kernel_rfl, rfl⟩
    · exact ⟨false, true, by rw [isSubtype_type]; kernel_rfl, by rw [isSubtype_type]; kernel_rfl, rfl⟩
  have K₄ : Stk c (A.deeper env) B (env :: l) s₄.heap := K₃.gr ⟨hk, ht4, hg4, ho4⟩
  have hfl₃ := frames_hidden K₃.frames
  have hfl₄ : s₄.heap.FunFrames (hideAll s₁.heap ((env :: l).filterMap (·.frame))) (env :: l) := hfl₃.of_keeps fun b o e _ => ⟨o, hk b o e, rfl⟩
  have hst₄ : (hideAll s₁.heap ((env :: l).filterMap (·.frame))).StaysIn s₄.heap := fun b o e => hk b o (of_hideAll _ e)
  refine KG ?_
  refine note_madeG (B := hideAll s₁.heap ((env :: l).filterMap (·.frame))) K₁.stack hfl₄ hf heo hedt hv1 hst₄ (by
    cases q : (hideAll s₁.heap ((env :: l).filterMap (·.frame))).get? e with
    | none => rfl
    | some o => have := of_hideAll _ q; rw [hen] at this; cases this) fun h₅ tb oT ts k1 k2 k3 k4 k5 k6 k7 k8 k9 => ?_
  -- the frame behind the raise
  have hfrV : ∀ b ∈ (env :: l).filterMap (·.frame), V b ∨ b = env.locals := fun b hb => by
    rw [List.filterMap_cons, hf] at hb
    rcases List.mem_cons.mp hb with q | q
    · exact .inr q
    · exact .inl (hV b q)
  have hdf : ∀ b o, b ∈ (env :: l).filterMap (·.frame) → s₁.heap.get? b = some o → ∀ vs, o.data ≠ .fields vs := fun b o hb e => by
    obtain ⟨_, o', ho', hd'⟩ := K₃.frames.mem hb
    rw [e] at ho'; cases ho'; exact hd'
  have htb3 : s₁.heap.get? tb = Option.none := by
    cases q : s₁.heap.get? tb with
    | none => rfl
    | some o =>
      by_cases hb : tb ∈ (env :: l).filterMap (·.frame)
      · obtain ⟨_, o', ho', hd'⟩ := k2.mem hb
        rw [k6] at ho'; cases ho'; exact absurd k7 (hd' ts)
      · rw [hideAll_get _ q hb] at k4; cases k4
  have hBX : ∀ b ∈ X, B.get? b = Option.none := fun b hb => by
    cases q : B.get? b with
    | none => rfl
    | some o => have := K.stays _ _ q; rw [hX b hb] at this; cases this
  have hBH := hidden_stays K₃.stays K₃.frames
  have sl₅ : Slt ((env :: l).filterMap (·.frame)) s₁ { s₄ with heap := h₅ } := Slt.of_hide k1 ((Heap.UpToSlots.of_keeps hk).trans k9) hdf ht4 hg4 ho4
  have F₅ := F₃.noted sl₅ hfrV K.base (fun b o e => k1 b o (hBH b o e)) hBX rfl
  refine wpAny_handleBy_tup2 (T1 := "TypeError") (T2 := "AttributeError") (X := T) (b1 := b1) (b2 := b2) PySem.F.isExc_TypeError PySem.F.notTuple_TypeError isExc_AttributeError notTuple_AttributeError hs1 hs2 ?_
  have hA₅ : Room c.h n ((A.deeper env).mark (some (.ref e))) := hA₁.h _
  have htup : Ev c.h n sc true [("text", .val d)] (.Tuple [.Name (Str.ofString "TypeError") p4, .Name (Str.ofString "AttributeError") p5] kt p6) (.tuple [.val (.type "TypeError"), .val (.type "AttributeError")]) :=
    .tuple (.cons (.blt hT.1 hT.2 hG) (.cons (.blt hAt.1 hAt.2 hG2) .nil)) (by rw [sizeLine_eq]; show 2 ≤ _; decide)
  refine wpAny_mono (htup.run _ env V B _ X _ hA₅ F₅.h) (fun cv s₆ q₆ => ?_) fun _ _ q => q.elim
  refine hideG fun G KG => ?_
  obtain ⟨g₆, r₆⟩ := q₆
  replace r₆ := r₆.inv
  obtain ⟨tup, o, tvs, nn, rfl, na, ho, hcl, hdd, hdt, rr⟩ := r₆
  obtain ⟨tvs⟩ := tvs
  cases rr with
  | cons ra1 rr => cases rr with
  | cons ra2 rr =>
  cases rr; cases ra1.inv; cases ra2.inv
  have he₆ := g₆.keep _ _ k3
  have htb₆ := g₆.keep _ _ k6
  refine KG ?_
  refine ⟨tup, rfl, ⟨o, ho, hcl, nn, hdt⟩, ⟨_, he₆, by rw [show (Obj.mapFields (fun x => x.setIfInBounds 1 (Value.ref tb)) oe).cls = oe.cls by unfold Obj.mapFields; split <;> rfl]; exact hecl⟩, ?_⟩
  rw [if_pos hbb]
  refine wpAny_setFlight_none he₆ (Obj.data_mapFields hedt _) (by simp [hsz1]) htb₆ k7 k8 ?_
  have sl₇ : Slt ((env :: l).filterMap (·.frame)) s₁ { s₆ with heap := s₆.heap.update tb (Obj.mapFields (·.setIfInBounds 3 .none)) } := by
    have s56 := sl₅.trans (Slt.of_gr (s' := s₆) g₆)
    have off : ∀ b o, s₁.heap.get? b = some o → ∀ o', s₆.heap.get? b = some o' → (s₆.heap.update tb (Obj.mapFields (·.setIfInBounds 3 .none))).get? b = some o' := fun b o e o' e' =>
      (Heap.get?_update_other _ _ (fun q => by rw [← q, htb3] at e; cases e)).trans e'
    exact ⟨fun b o hb e => off b o e o (s56.keep b o hb e), fun b o hb e => let ⟨sl, e'⟩ := s56.up b o hb e; ⟨sl, off b o e _ e'⟩, s56.tok, s56.gens, s56.os⟩
  have hfrB : ∀ b ∈ (env :: l).filterMap (·.frame), B.get? b = Option.none := fun b hb => (K₃.frames.mem hb).1
  have K₇ : Stk c.h ((A.deeper env).mark (some (.ref e))) B (env :: l) _ := (Stk.slt (c := c.h) ⟨K₃.stack, K₃.base, K₃.stays, K₃.frames⟩ sl₇ hfrB).mark _
  have F₇ := (F₃.noted sl₇ hfrV K.base K₇.stays hBX rfl).h
  have hH₇ : Hnd ((A.deeper env).mark (some (.ref e))) (s₆.heap.update tb (Obj.mapFields (·.setIfInBounds 3 .none))) :=
    .inr ⟨e, _, _, rfl, (Heap.get?_update_other _ _ k5).trans he₆, Obj.data_mapFields hedt _, by simp [hv2]⟩
  have hint : interactive env = false := by
    unfold interactive
    rw [F.scope, F.kind]; rfl
  have hVX : ∀ b ∈ (env :: l).filterMap (·.frame), Vol V X b := fun b hb => (hfrV b hb).imp id fun q => by
    obtain ⟨_, _, _, h2, _⟩ := F.sto
    rw [h2, q]; exact .head _
  refine wpAny_execs_cons (wpAny_Expr_any (wpAny_mono (call_raises (c := c.h) (n := n) (ρ := [("text", .val d)]) hA₅ hH₇ F₇ K₇ hVX (.glob hra hG3) hcal.h (.cons (.name rfl) .nil) h) (fun _ _ q => q.elim) fun ev s₈ fly => ?_) hint rfl)
  refine hideG fun G KG => ?_
  obtain ⟨⟨e2, t2, tk2, rfl, hfl, htup2, ht2⟩, hu8, htk8, hg8, ho8⟩ := fly
  refine KG ?_
  refine wpAny_looks_onW K₇.stack hf hfl fun h₉ hh9 hu9 => held_back hf hh9 fun h₁₀ hh10 hu10 => leave_held hf hh10 fun h₁₁ hfl11 hu11 htk => ?_
  refine ⟨⟨e2, t2, tk2, rfl, hfl11, ((htup2.of_slots hu9).of_slots hu10).of_slots hu11, ht2⟩, ?_, htk, (hg8.trans sl₇.gens).trans (g.trans g₃).gens, (ho8.trans sl₇.os).trans (g.trans g₃).os⟩
  exact (((((Heap.UpToSlots.of_keeps (g.trans g₃).keep).trans sl₇.upto).trans hu8).trans hu9).trans hu10).trans hu11
end
end Mine
namespace Mine
set_option maxRecDepth 100000
/-- d is written r, with n frames of room -/
structure ReprN (c : Cx) (n : Nat) (d : D) (r : List Nat) : Prop where
  len : r.length ≤ 1000000
  run : ∀ A V s v, Room c n A → St c V s → Rep c V s d v → wpAny c.M A (pyReprObj v) (fun o s' => (∃ t', o = .str (S r) t') ∧ Gr s s') (fun _ _ => False) s
section
variable {c : Cx} {n : Nat} {sc : Scope} {k : Bool} {ρ : Sto}
theorem ReprOf.toN {d : D} {r : List Nat} {T : String} (h : ReprOf c d r T) : ReprN c n d r := ⟨h.len, fun A V s v hA => h.run A V s v hA.zero⟩
/-- {e!r} -/
theorem Ev.fmtRN {e : Expr} {pos : Pos} {d : D} {r : List Nat} (he : Ev c n sc k ρ e d) (h : ReprN c n d r) : Ev c n sc k ρ (.FormattedValue e 114 Option.none pos) (sd r) := .mk fun A env V0 h0 Cs X s hA F => by
  refine wpAny_FormattedValue_repr (wpAny_mono (he.run A env V0 h0 Cs X s hA F) (fun v s₁ q => ?_) fun _ _ q => q)
  obtain ⟨g, rv⟩ := q
  refine wpAny_mono (h.run A _ s₁ v hA ((F.st k).gr g) rv) (fun o s₂ q => ?_) fun _ _ q => q
  obtain ⟨⟨t', rfl⟩, g₂⟩ := q
  exact wp_gr (g.trans g₂) (wp_end (formatField_str (fun t' tk => ⟨fun _ _ e => e, rfl, rfl, fun _ => .str _ _⟩) (by rw [S_length, sizeLine_eq]; exact Nat.le_trans h.len (by decide))))
/-- the def that raises TypeError('cannot serialize %r (type %s)' % (text, type(text).__name__)) -/
theorem raise_fnG {a : Addr} {p1 p2 p3 p4 p5 p6 p7 p8 p9 p10 p11 p12 p13 p14 : Pos} {k1 k2 k3 : Nat} {d : D} {r tn : List Nat}
    (hd : IsDefL c a sc ["text"] [.Raise (some (.Call (.Name (Str.ofString "TypeError") p1) [.JoinedStr [.Constant (.str (Str.ofString "cannot serialize ")) k1 p2, .FormattedValue (.Name (Str.ofString "text") p3) 114 none p12, .Constant (.str (Str.ofString " (type ")) k2 p13, .FormattedValue (.Attribute (.Call (.Name (Str.ofString "type") p4) [.Name (Str.ofString "text") p5] [] p6) (Str.ofString "__name__") p7) 115 none p8, .Constant (.str (Str.ofString ")")) k3 p14] p9] [] p10)) none p11])
    (hT : c.mg (Str.ofString "TypeError") = Option.none ∧ c.mb (Str.ofString "TypeError") = some (.type "TypeError"))
    (hG : sc.names.lookup (Str.ofString "TypeError") = some .globalImplicit)
    (h : ReprN c n d r) (hty : Ev c n sc true [("text", .val d)] (.Attribute (.Call (.Name (Str.ofString "type") p4) [.Name (Str.ofString "text") p5] [] p6) (Str.ofString "__name__") p7) (sd tn)) (h2 : tn.length ≤ 1000) : FnX c (n + 1) (.ref a) [d] "TypeError" (wordsOf r tn) := .mk fun A V s vs B l hA hH K hV hS rv => by
  refine fn_enter hd rfl hA hS rv fun env X s₁ hf hn g F hO hX => ?_
  have K₁ := F.stk hf hn K g
  have hH₁ : Hnd (A.deeper env) s₁.heap := hH.keeps g.keep
  refine wpAny_execs_cons ?_
  have hw : Ev c n sc true [("text", .val d)] (.JoinedStr [.Constant (.str (Str.ofString "cannot serialize ")) k1 p2, .FormattedValue (.Name (Str.ofString "text") p3) 114 none p12, .Constant (.str (Str.ofString " (type ")) k2 p13, .FormattedValue (.Attribute (.Call (.Name (Str.ofString "type") p4) [.Name (Str.ofString "text") p5] [] p6) (Str.ofString "__name__") p7) 115 none p8, .Constant (.str (Str.ofString ")")) k3 p14] p9) (sd (wordsOf r tn)) := by
    have e1 : (cs "cannot serialize ").length = 17 := by decide
    have e2 : (cs " (type ").length = 7 := by decide
    have e3 : (cs ")").length = 1 := by decide
    have h1 := h.len
    refine .to (.joined (.cons .lit (.cons (.fmtRN (.name rfl) h) (.cons .lit (.cons (.fmtS hty (by omega)) (.cons .lit .nil))))) ?_) ?_
    · simp only [List.length_append, e1, e2, e3, List.length_nil]; omega
    · unfold wordsOf; simp only [List.append_assoc, List.append_nil]
  refine Raise_callH PySem.F.excCall_TypeError PySem.F.excRaise_TypeError (noStar_all rfl) (wpAny_mono ((Ev.blt (n := n) (ρ := [("text", .val d)]) (k := true) hT.1 hT.2 hG).run (A.deeper env) env V s.heap _ X s₁ (hA.deeper env) F) (fun f s₂ q => ?_) fun _ _ q => q.elim)
  refine hideG fun G KG => ?_
  obtain ⟨g₂, r₂⟩ := q
  cases r₂.inv
  refine KG ?_
  refine ⟨rfl, evalArgs_of rfl (wpAny_mono ((EvL.cons hw .nil).run (A.deeper env) env V s.heap _ X s₂ p10 (hA.deeper env) (F.gr g₂)) (fun vs' s₃ q => ?_) fun _ _ q => q.elim)⟩
  refine hideG fun G KG => ?_
  obtain ⟨g₃, r₃⟩ := q
  cases r₃ with
  | cons rs rn =>
      cases rn
      obtain ⟨tk, rfl⟩ := rs.inv
      have g' := g₂.trans g₃
      have K₃ := K₁.gr g'
      refine KG ?_
      refine ⟨rfl, by rw [sizeLine_eq]; show 1 ≤ _; decide, hH₁.keeps g'.keep, fun e0 q => ?_, fun h' e t cx hk he ht' heo hto => ?_⟩
      · rcases hH₁.keeps g'.keep with q' | ⟨e1, o, _, q', ho, _⟩
        · rw [q'] at q; cases q
        · rw [q'] at q; cases q; exact ⟨o, ho⟩
      · have fresh : ∀ b, s₃.heap.get? b = Option.none → B.get? b = Option.none := fun b hb => by
          cases q : B.get? b with
          | none => rfl
          | some o' => have := K₃.stays _ _ q; rw [hb] at this; cases this
        refine wpAny_leaving_firstW (a0 := .ref t) K₁.stack (K₃.frames.of_keeps fun b o e _ => ⟨o, hk b o e, rfl⟩) hf heo (fun b o e => hk b o (K₃.stays b o e)) (fresh e he) rfl rfl rfl fun h'' hL htk => ?_
        refine hideG fun G KG => ?_
        obtain ⟨k1, ⟨_, _, k2⟩, k3, k4⟩ := hL
        refine KG ?_
        refine ⟨⟨e, t, tk, rfl, ⟨k1, fresh e he, k2, k3⟩, Heap.TupAt.of_slots ⟨_, _, hto, rfl, rfl⟩ k4, fresh t ht'⟩, ?_, htk, (g.trans g').gens, (g.trans g').os⟩
        exact ((Heap.UpToSlots.of_keeps (g.trans g').keep).trans (Heap.UpToSlots.of_keeps hk)).trans k4

/-- type(text).__name__ is t -/
noncomputable def TyN (c : Cx) (n : Nat) (d : D) (t : List Nat) : Prop := ∀ {e : Expr} {p1 p2 p3 : Pos} {sc : Scope} {ρ : Sto} (he : Ev c n sc true ρ e d)
    (hg : sc.names.lookup (Str.ofString "type") = some .globalImplicit) (hp : plainE e = true)
    (hc : ∀ env : Env, PySem.eval (.Call (.Name (Str.ofString "type") p1) [e] [] p2) env = (do callWith p2 (← PySem.eval (.Name (Str.ofString "type") p1) env) [] (backTo p2 (starEach [e] env)) (backToKw p2 (keywordEach [] env))))
    (ha : ∀ env : Env, PySem.eval (.Attribute (.Call (.Name (Str.ofString "type") p1) [e] [] p2) (Str.ofString "__name__") p3) env = (do
      let o ← PySem.eval (.Call (.Name (Str.ofString "type") p1) [e] [] p2) env
      standAt p3.atName
      let r ← holding [o] (getAttr o (Str.ofString "__name__") true)
      letTemporaryGo (.Call (.Name (Str.ofString "type") p1) [e] [] p2) o r
      pure r)), Ev c n sc true ρ (.Attribute (.Call (.Name (Str.ofString "type") p1) [e] [] p2) (Str.ofString "__name__") p3) (sd t)
structure TypeOk (c : Cx) (d : D) (T : String) : Prop where
  ty : ∀ V s v, Rep c V s d v → s.TypeIs v T
  nm : NameOk T
theorem TyN.blt {d : D} {T : String} (hb : c.mg (Str.ofString "type") = Option.none ∧ c.mb (Str.ofString "type") = some (.type "type")) (h : TypeOk c d T) : TyN c n d (cs T) := by
  intro e p1 p2 p3 sc ρ he hg hp hc ha
  constructor
  intro A env V0 h0 Cs X s hA F
  have hf : FnR c n (.type "type") [d] (.val (.type T)) := .mk fun A V s vs hA hS rs => by
    cases rs with
    | cons r rs => cases rs; exact call_type_of (h.ty _ _ _ r) h.nm.nb ⟨.refl s, .val _⟩
  have hcall := Ev.call (k := true) (Ev.blt (k := true) hb.1 hb.2 hg) (.type "type") (.cons he .nil hp) hf (by simp [hp]) hc
  refine Attribute_any_ (wpAny_mono (hcall.run A env V0 h0 Cs X s hA F) (fun tv s₁ q => ?_) fun _ _ q => q) (ha env)
  obtain ⟨g, r⟩ := q
  cases r.inv
  refine wp_gr g (wp_end (tyname_wp h.nm.km h.nm.st h.nm.fc h.nm.q ?_ fun tk u => ⟨fun _ _ e => e, rfl, rfl, fun _ => ?_⟩))
  · rw [ofString_S, S_length, sizeLine_eq]; exact Nat.le_trans h.nm.z (by decide)
  · rw [ofString_S]; exact .str _ _
theorem TyN.qn {x : List Nat} {K : Frag} (hb : c.mg (Str.ofString "type") = Option.none ∧ c.mb (Str.ofString "type") = some (.type "type")) (Y : QC c K) : TyN c n (.qn x) (cs "QName") := by
  intro e p1 p2 p3 sc ρ he hg hp hc ha
  constructor
  intro A env V0 h0 Cs X s hA F
  have hf : FnR c n (.type "type") [.qn x] (.val (.ref c.qc)) := .mk fun A V s vs hA hS rs => by
    cases rs with
    | cons r rs =>
      cases rs
      obtain ⟨a, dx, t', k, m, rfl, I, hm⟩ := r.inst
      obtain ⟨o, I', _⟩ := I.inst
      exact kto_own I' ⟨.refl s, .val _⟩
  have hcall := Ev.call (k := true) (Ev.blt (k := true) hb.1 hb.2 hg) (.type "type") (.cons he .nil hp) hf (by simp [hp]) hc
  refine Attribute_any_ (wpAny_mono (hcall.run A env V0 h0 Cs X s hA F) (fun tv s₁ q => ?_) fun _ _ q => q) (ha env)
  obtain ⟨g, r⟩ := q
  cases r.inv
  have F₁ := F.gr g
  obtain ⟨oc, od, cd, sl, t', hC, hs⟩ := Y.cls
  exact clsname_attr (Y.X.keeps (F₁.base.trans F₁.keep)) hC Y.ty hs Y.rd Y.fc rfl ⟨g.trans (Gr.toks (Nat.le_succ _)), .str _ _⟩
end
end Mine
namespace Mine
set_option maxRecDepth 100000
theorem IsDefL.h {c : Cx} {a : Addr} {sc : Scope} {ps : List String} {body : List Stmt} (hd : IsDefL c a sc ps body) : IsDefL c.h a sc ps body := ⟨hd.toDefOk, hd.ex.to rfl⟩
structure BX (c : Cx) : Prop where
  ty : c.mg (Str.ofString "TypeError") = none ∧ c.mb (Str.ofString "TypeError") = some (.type "TypeError")
  at' : c.mg (Str.ofString "AttributeError") = none ∧ c.mb (Str.ofString "AttributeError") = some (.type "AttributeError")
  type : c.mg (Str.ofString "type") = none ∧ c.mb (Str.ofString "type") = some (.type "type")
  hra : IsDef c 99 (sc08 2) ["text"] (bd08 2)
  gra : c.mg (Str.ofString "_raise_serialization_error") = some (.ref 99)

/-- why an escape refuses d -/
inductive Refuse (c : Cx) (n : Nat) (d : D) (zs : List String) : Prop where
  | noIn : InXS c d → Refuse c n d zs
  | sign (has : String → Bool) : NoRep c d → (∀ z ∈ zs, InT c n d (cs z) (has z)) → zs.any has = true → Refuse c n d zs

section
variable {c : Cx} {n : Nat} {sc : Scope} {d : D} {r tn : List Nat}
theorem TrX.step {z : String} {ρ : Sto} {b : Bool} {p p2 p3 p4 p5 p6 p7 p8 ap : Pos} {kk : Nat} {rest : List Stmt} {a1 a2 : Expr} (h : InT c n d (cs z) b) (hx : ρ.lookup "text" = some (.val d)) (hn : NoRep c d) (hr : b = false → TrX c n sc ρ rest)
    (hfew : ∀ env : Env, methodCallForm 2 (backTo p7 (starEach [a1, a2] env)) (backToKw p7 (keywordEach [] env)) = true := by intro _; rfl)
    (hs : ∀ env : Env, env.scope = sc → swapsWith (.Call (.Attribute (.Name (Str.ofString "text") p5) (Str.ofString "replace") ap) [a1, a2] [] p7) (some (.Name (Str.ofString "text") p6)) p8.line env = pure false := by intro _ _; rfl) :
    TrX c n sc ρ (.If (.Compare (.Constant (.str (Str.ofString z)) kk p) [.In] [.Name (Str.ofString "text") p2] p3)
      [.Assign [.Name (Str.ofString "text") p6] (.Call (.Attribute (.Name (Str.ofString "text") p5) (Str.ofString "replace") ap) [a1, a2] [] p7) p8] [] p4 :: rest) := by
  cases b with
  | true => exact .noRep h hx hn hfew hs
  | false => exact .skip h hx (hr rfl)

theorem words_fn (B : BX c) (h : ReprN c.h n d r) (ht : TyN c.h n d tn) (hl : tn.length ≤ 1000) : FnX c.h (n + 1) (.ref 99) [d] "TypeError" (wordsOf r tn) :=
  raise_fnG (c := c.h) (sc := sc08 2) B.hra.toIsDefL.h B.ty rfl h (ht (.name rfl) rfl rfl (by intro _; rfl) (by intro _; rfl)) hl

theorem cdata_X (hn : c.hn) (B : BX c) (hd : IsDef c 106 (sc08 3) ["text"] (bd08 3)) (hre : Refuse c (n + 1) d ["&", "<", ">"]) (h : ReprN c.h n d r) (ht : TyN c.h n d tn) (hl : tn.length ≤ 1000) : FnX c (n + 2) (.ref 106) [d] "TypeError" (wordsOf r tn) := by
  refine esc_raisesG hn hd.toIsDefL ?_ B.gra B.hra.callee B.ty B.at' rfl rfl rfl (words_fn B h ht hl)
  cases hre with
  | noIn hi => exact .inX hi rfl
  | sign has hnr hin hany =>
    refine .step (hin "&" (by decide)) rfl hnr fun h1 => .step (hin "<" (by decide)) rfl hnr fun h2 => .step (hin ">" (by decide)) rfl hnr fun h3 => ?_
    simp [h1, h2, h3] at hany
theorem attrib_X (hn : c.hn) (B : BX c) (hd : IsDef c 113 (sc08 4) ["text"] (bd08 4)) (hre : Refuse c (n + 1) d ["&", "<", ">", "\"", "\r", "\n", "\t"]) (h : ReprN c.h n d r) (ht : TyN c.h n d tn) (hl : tn.length ≤ 1000) : FnX c (n + 2) (.ref 113) [d] "TypeError" (wordsOf r tn) := by
  refine esc_raisesG hn hd.toIsDefL ?_ B.gra B.hra.callee B.ty B.at' rfl rfl rfl (words_fn B h ht hl)
  cases hre with
  | noIn hi => exact .inX hi rfl
  | sign has hnr hin hany =>
    refine .step (hin "&" (by decide)) rfl hnr fun h1 => .step (hin "<" (by decide)) rfl hnr fun h2 => .step (hin ">" (by decide)) rfl hnr fun h3 => .step (hin "\"" (by decide)) rfl hnr fun h4 => .step (hin "\r" (by decide)) rfl hnr fun h5 => .step (hin "\n" (by decide)) rfl hnr fun h6 => .step (hin "\t" (by decide)) rfl hnr fun h7 => ?_
    simp [h1, h2, h3, h4, h5, h6, h7] at hany
theorem html_X (hn : c.hn) (B : BX c) (hd : IsDef c 120 (sc08 5) ["text"] (bd08 5)) (hre : Refuse c (n + 1) d ["&", ">", "\""]) (h : ReprN c.h n d r) (ht : TyN c.h n d tn) (hl : tn.length ≤ 1000) : FnX c (n + 2) (.ref 120) [d] "TypeError" (wordsOf r tn) := by
  refine esc_raisesG hn hd.toIsDefL ?_ B.gra B.hra.callee B.ty B.at' rfl rfl rfl (words_fn B h ht hl)
  cases hre with
  | noIn hi => exact .inX hi rfl
  | sign has hnr hin hany =>
    refine .step (hin "&" (by decide)) rfl hnr fun h1 => .step (hin ">" (by decide)) rfl hnr fun h2 => .step (hin "\"" (by decide)) rfl hnr fun h3 => ?_
    simp [h1, h2, h3] at hany
theorem cc_X (hn : c.hn) (B : BX c) (hd : IsDef c 127 (sc08 6) ["text"] (bd08 6)) (hre : Refuse c (n + 1) d ["&", "<", ">", "\r"]) (h : ReprN c.h n d r) (ht : TyN c.h n d tn) (hl : tn.length ≤ 1000) : FnX c (n + 2) (.ref 127) [d] "TypeError" (wordsOf r tn) := by
  refine esc_raisesG hn hd.toIsDefL ?_ B.gra B.hra.callee B.ty B.at' rfl rfl rfl (words_fn B h ht hl)
  cases hre with
  | noIn hi => exact .inX hi rfl
  | sign has hnr hin hany =>
    refine .step (hin "&" (by decide)) rfl hnr fun h1 => .step (hin "<" (by decide)) rfl hnr fun h2 => .step (hin ">" (by decide)) rfl hnr fun h3 => .step (hin "\r" (by decide)) rfl hnr fun h4 => ?_
    simp [h1, h2, h3, h4] at hany
theorem ac_X (hn : c.hn) (B : BX c) (hd : IsDef c 134 (sc08 7) ["text"] (bd08 7)) (hre : Refuse c (n + 1) d ["&", "<", "\"", "\t", "\n", "\r"]) (h : ReprN c.h n d r) (ht : TyN c.h n d tn) (hl : tn.length ≤ 1000) : FnX c (n + 2) (.ref 134) [d] "TypeError" (wordsOf r tn) := by
  refine esc_raisesG hn hd.toIsDefL ?_ B.gra B.hra.callee B.ty B.at' rfl rfl rfl (words_fn B h ht hl)
  cases hre with
  | noIn hi => exact .inX hi rfl
  | sign has hnr hin hany =>
    refine .step (hin "&" (by decide)) rfl hnr fun h1 => .step (hin "<" (by decide)) rfl hnr fun h2 => .step (hin "\"" (by decide)) rfl hnr fun h3 => .step (hin "\t" (by decide)) rfl hnr fun h4 => .step (hin "\n" (by decide)) rfl hnr fun h5 => .step (hin "\r" (by decide)) rfl hnr fun h6 => ?_
    simp [h1, h2, h3, h4, h5, h6] at hany
end
end Mine
namespace Mine
open Builtin Builtin.List
set_option maxRecDepth 100000
/-- the value x is written t, from s₀ on -/
noncomputable def ItmR (c : Cx) (A : Around) (s₀ : Shared) (x : Value) (t : Str) : Prop :=
  ∀ base s', base + t.length ≤ sizeLine → Gr s₀ s' → wpAny c.M A (pyReprUnder base x) (fun o s'' => o = t ∧ Gr s' s'') (fun _ _ => False) s'

section
variable {c : Cx} {A : Around} {s₀ : Shared} {R : Result → Shared → Prop}
theorem reprLoop {a P : Addr} {items : Array Value} {ts : List Str} {base na : Nat} {oa : Obj} (hlen : ts.length = items.size)
    (hit : ∀ (rest : List Value) (i : Nat) (x : Value), items[i]? = some x → ∃ t, ts[i]? = some t ∧ ItmR c (A.under (.builtin "list.__repr__.loop" ⟨.ref a :: rest, []⟩)) s₀ x t)
    (hsz : base + (listText ts).length ≤ sizeLine) (ha : s₀.heap.get? a = some oa) (hda : oa.data = .seq items na) (hP : s₀.heap.get? P = none) :
    ∀ (k i : Nat) (s : Shared) (acc : Array Value) (cc : Nat) (done : List (Str × Tok)), items.size - i = k → i ≤ items.size → Gr s₀ s →
    s.heap.get? P = some { cls := .type "list", dict := none, data := .seq acc cc, slots := #[] } → acc.toList = strValues done → done.map (·.1) = ts.take i →
    (∀ s' u, Gr s₀ s' → R (.ok (.ret (.str (listText ts) u))) s') →
    codeAny c.M A (.builtin "list.__repr__.loop" ⟨[.ref a, rawInt i, .ref P, rawInt ((base + piled (ts.take i) : Nat) : Int)], []⟩) R s := by
  have hL := textFrom_len ts 0 "["
  have hX : (listText ts).length = (textFrom 0 "[" ts).length + 1 := by
    show (textFrom 0 "[" ts ++ "]").length = _
    rw [strLen_append]; rfl
  have hn1 : items.size ≤ sizeLine := by
    have := hL.1
    rw [if_neg (Nat.lt_irrefl 0)] at this
    omega
  have hn2 : ∀ t ∈ ts, t.length ≤ sizeLine := fun t ht => by
    have := hL.2.1 t ht
    omega
  have hp3 := piled_le_listText ts
  have hne : a ≠ P := fun e => by rw [e, hP] at ha; cases ha
  intro k
  induction k with
  | zero =>
    intro i s acc cc done hk hi g hPs hacc hdone hR
    have hin : i = items.size := by omega
    refine codeAny_builtin F.entry_list_repr_loop ?_
    show wpAny _ _ («list.__repr__.loop» ⟨[.ref a, .int i 0, .ref P, .int ((base + piled (ts.take i) : Nat) : Int) 0], []⟩) _ _ s
    rw [repr_loop_tree]
    refine wpAny_bind (wpAny_listItems (g.keep _ _ ha) hda ?_)
    have hnone : items[(i : Int).toNat]? = none := by simp [hin]
    simp only [hnone]
    unfold reprEnd
    refine wpAny_bind (wpAny_listItems hPs rfl ?_)
    rw [hacc, repr_fold]
    refine wpAny_bind (wpAny_pure ?_)
    have hall : done.map (·.1) = ts := by rw [hdone, hin, ← hlen, List.take_length]
    rw [hall]
    refine wpAny_bind (wpAny_mkStr (wpAny_pure ?_) (by show (listText ts).length ≤ sizeLine; omega))
    exact hR _ _ (g.trans (Gr.toks (Nat.le_succ _)))
  | succ k ih =>
    intro i s acc cc done hk hi g hPs hacc hdone hR
    have hlt : i < items.size := by omega
    obtain ⟨t, ht, hrep⟩ := hit _ i items[i] (by simp [hlt])
    have hp1 := piled_take_succ ht
    have hp2 := piled_take_le ts (i + 1)
    refine codeAny_builtin F.entry_list_repr_loop ?_
    show wpAny _ _ («list.__repr__.loop» ⟨[.ref a, .int i 0, .ref P, .int ((base + piled (ts.take i) : Nat) : Int) 0], []⟩) _ _ s
    rw [repr_loop_tree]
    refine wpAny_bind (wpAny_listItems (g.keep _ _ ha) hda ?_)
    have hsome : items[(i : Int).toNat]? = some items[i] := by simp [hlt]
    simp only [hsome]
    rw [Int.toNat_natCast]
    refine wpAny_bind (wpAny_holding (wpAny_mono (hrep (base + piled (ts.take i) + 1) s (by omega) g) (fun o s₁ q => ?_) fun _ _ q => q.elim))
    obtain ⟨rfl, g₁⟩ := q
    refine wpAny_bind (wpAny_mkStr ?_ (hn2 _ (List.mem_of_getElem? ht)))
    refine wpAny_bind ?_
    show wpAny _ _ (updateSeq P _) _ _ _
    have hasz : acc.size ≤ sizeLine := by
      have e1 : acc.toList.length = acc.size := by simp
      have e2 : (strValues done).length = done.length := by simp [strValues]
      have e3 : done.length = (ts.take i).length := by rw [← hdone, List.length_map]
      have e4 : (ts.take i).length ≤ i := by rw [List.length_take]; omega
      rw [hacc] at e1; omega
    have hP₁ := g₁.keep _ _ hPs
    refine wpAny_updateSeq hP₁ rfl (wpAny_pure ⟨F.quiet_list_repr_loop _, ?_⟩) hasz
    have e1 : ((i : Int) + 1) = ((i + 1 : Nat) : Int) := by omega
    have e2 : base + piled (ts.take i) + (o.length + 2) = base + piled (ts.take (i + 1)) := by omega
    rw [e1, e2]
    refine ih (i + 1) _ (acc.push (.str o s₁.toks)) _ (done ++ [(o, s₁.toks)]) (by omega) hlt ?_ (Heap.get?_update_self _ hP₁ rfl) (by simp [hacc, strValues]) (by rw [List.map_append, hdone, List.take_add_one, ht]; rfl) hR
    exact ⟨fun b ob e => (Heap.get?_update_other _ _ (fun h : P = b => by rw [← h, hP] at e; cases e)).trans ((g.trans g₁).keep _ _ e), Nat.le_succ_of_le (g.trans g₁).tok, (g.trans g₁).gens, (g.trans g₁).os⟩
end
end Mine
namespace Mine
open Builtin Builtin.List
set_option maxRecDepth 100000
section
variable {c : Cx} {A : Around} {s₀ : Shared}
theorem tupLoop {A' : Around} : ∀ (l : List Value) (ts : List Str) (acc : Array Str) (k : Nat) (s : Shared), ts.length = l.length → (∀ (i : Nat) (x : Value), l[i]? = some x → ∃ t, ts[i]? = some t ∧ ItmR c A' s₀ x t) →
    k + piled ts ≤ sizeLine → Gr s₀ s → wpAny c.M A' (forIn l (⟨acc, k⟩ : (Array Str × Nat)) tupBody) (fun r s' => r = ⟨acc ++ ts.toArray, k + piled ts⟩ ∧ Gr s s') (fun _ _ => False) s := by
  intro l
  induction l with
  | nil =>
    intro ts acc k s hl hit hz g
    have : ts = [] := by simpa using hl
    subst this
    simp only [List.forIn_nil]
    exact wpAny_pure ⟨by simp [piled], .refl s⟩
  | cons x l ih =>
    intro ts acc k s hl hit hz g
    cases ts with
    | nil => simp at hl
    | cons t ts =>
      obtain ⟨t', ht', h⟩ := hit 0 x rfl
      simp only [List.getElem?_cons_zero, Option.some.injEq] at ht'
      subst ht'
      rw [piled_cons] at hz
      rw [List.forIn_cons]
      refine wpAny_bind (wpAny_bind (wpAny_mono (h (k + 1) s (by omega) g) (fun o s₁ q => ?_) fun _ _ q => q.elim))
      obtain ⟨rfl, g₁⟩ := q
      refine wpAny_pure ?_
      refine wpAny_mono (ih ts (acc.push o) (k + (o.length + 2)) s₁ (by simpa using hl) (fun i y hy => by simpa using hit (i + 1) y (by simpa using hy)) (by omega) (g.trans g₁)) (fun r s₂ q => ?_) fun _ _ q => q
      obtain ⟨rfl, g₂⟩ := q
      refine ⟨?_, g₁.trans g₂⟩
      rw [piled_cons]
      simp [Nat.add_assoc]

theorem list_at {a : Addr} {items : Array Value} {ts : List Str} {base na : Nat} {oa : Obj} {g : List Code} {R : Result → Shared → Prop} (hlen : ts.length = items.size)
    (hit : ∀ (rest : List Value) (i : Nat) (x : Value), items[i]? = some x → ∃ t, ts[i]? = some t ∧ ItmR c (A.under (.builtin "list.__repr__.loop" ⟨.ref a :: rest, []⟩)) s₀ x t)
    (hsz : base + (listText ts).length ≤ sizeLine) (ha : s₀.heap.get? a = some oa) (hda : oa.data = .seq items na) (hne : items.size ≠ 0) (hg : A.guards = some g) (hcl : Clear g a)
    (hR : ∀ s' u, Gr s₀ s' → R (.ok (.ret (.str (listText ts) u))) s') :
    wpAny c.M A.in1 (Builtin.listReprAt base ⟨[.ref a], []⟩) (fun fin s' => match fin with | .done f => R (.ok f) s' | .again c' => c'.quiet = true ∧ codeAny c.M A c' R s') (fun e s' => R (.error e) s') s₀ := by
  have hPf : s₀.heap.get? s₀.heap.objs.size = none := by
    cases e : s₀.heap.get? s₀.heap.objs.size with
    | none => rfl
    | some o => exact absurd (Heap.lt_size e) (Nat.lt_irrefl _)
  obtain ⟨il⟩ := items
  cases il with
  | nil => simp at hne
  | cons x l =>
    refine wpAny_list_repr_head (A := A.in1) hg (fun v rest kw hm => listSameRef_of_ne (hcl _ _ _ _ hm)) ha hda ?_
    refine wpAny_bind (m := newList []) (wpAny_newObj_type ?_)
    refine wpAny_pure ⟨F.quiet_list_repr_loop _, ?_⟩
    exact reprLoop (P := s₀.heap.objs.size) hlen hit hsz ha hda hPf _ 0 _ #[] _ [] rfl (Nat.zero_le _) (Gr.push _) (Heap.get?_push_size _ rfl) rfl (by simp) hR

theorem tuple_at {a : Addr} {items : Array Value} {ts : List Str} {base na : Nat} {oa : Obj} {g : List Code} {R : Result → Shared → Prop} {id : String} {rest : List Value} (hlen : ts.length = items.size)
    (hit : ∀ (i : Nat) (x : Value), items[i]? = some x → ∃ t, ts[i]? = some t ∧ ItmR c (A.under (.builtin id ⟨.ref a :: rest, []⟩)) s₀ x t)
    (hsz : base + (tupleText ts).length ≤ sizeLine) (ha : s₀.heap.get? a = some oa) (hda : oa.data = .seq items na) (hg : A.guards = some g) (hcl : Clear g a)
    (hR : ∀ s' u, Gr s₀ s' → R (.ok (.ret (.str (tupleText ts) u))) s') :
    wpOwn c.M A (.builtin id ⟨.ref a :: rest, []⟩) (Builtin.tupleReprAt base ⟨[.ref a], []⟩) (fun fin s' => match fin with | .done f => R (.ok f) s' | .again c' => c'.quiet = true ∧ codeAny c.M A c' R s') (fun e s' => R (.error e) s') s₀ := by
  have hp := piled_le_tupleText ts
  have hsz0 : (tupleText ts).length ≤ sizeLine := by omega
  rw [tuple_repr_tree, tupleReprUnderWay_eq]
  refine wpOwn_bind (wpOwn_stackTailAny hg (tupGuardF_off _) (tupGuardF_pos _) ?_)
  have hn : (g.any fun c => tupGuardF (.ref a) (c, default)) = false := by
    rw [List.any_eq_false]
    intro c hcm
    rw [tupGuardF_of_clear hcl c hcm]
    exact Bool.false_ne_true
  rw [hn]
  refine wpOwn_of_wpAny ?_
  show wpAny _ _ (tupleReprRest base (.ref a)) _ _ s₀
  unfold tupleReprRest Builtin.Tuple.tupleItemsOf
  refine wpAny_bind (wpAny_bind (wpAny_seqItems ha hda (wpAny_pure ?_)))
  rw [← Array.forIn_toList]
  refine wpAny_bind (wpAny_mono (tupLoop _ ts _ _ _ (by simpa using hlen) (fun i x hx => hit i x (by simpa using hx)) (by omega) (.refl s₀)) (fun r s₁ q => ?_) fun _ _ q => q.elim)
  obtain ⟨rfl, g₁⟩ := q
  refine wpAny_bind (wpAny_mkStr (wpAny_pure ?_) (by simpa [tupleText, hlen] using hsz0))
  have h1 := hR { s₁ with toks := s₁.toks + 1 } s₁.toks (g₁.trans (Gr.toks (Nat.le_succ _)))
  simpa [tupleText, hlen] using h1
end
end Mine
namespace Mine
set_option maxRecDepth 100000
mutual
/-- how deep lists and tuples lie in one another -/
noncomputable def D.dep : D → Nat
  | .list ds => D.deps ds + 1
  | .tuple ds => D.deps ds + 1
  | _ => 0
noncomputable def D.deps : List D → Nat
  | [] => 0
  | d :: r => max d.dep (D.deps r)
end
mutual
/-- nothing but texts, numbers, None, truth values, bytes, QName objects, lists and tuples of such, tables of flat things -/
noncomputable def D.pure : D → Bool
  | .val _ => false
  | .range _ _ _ => false
  | .list ds => D.pures ds
  | .tuple ds => D.pures ds
  | .dict kvs => kvs.all fun p => p.2.flat
  | _ => true
noncomputable def D.pures : List D → Bool
  | [] => true
  | d :: r => d.pure && D.pures r
end
/-- how deep a value lies, looked at k steps far -/
noncomputable def depV : Nat → Heap → Value → Nat
  | 0, _, _ => 0
  | k + 1, h, .ref a => match h.get? a with
    | some o => match o.cls with
      | .type T => if (T == "list" || T == "tuple") = true then (match o.data with | .seq vs _ => (vs.toList.map (depV k h)).foldr max 0 + 1 | _ => 0) else 0
      | _ => 0
    | none => 0
  | _ + 1, _, _ => 0
section
variable {c : Cx} {V : Addr → Prop} {s : Shared}
theorem depV_seq {k : Nat} {h : Heap} {a : Addr} {o : Obj} {vs : Array Value} {n : Nat} {T : String} (ho : h.get? a = some o) (hc : o.cls = .type T) (hT : (T == "list" || T == "tuple") = true) (hd : o.data = .seq vs n) : depV (k + 1) h (.ref a) = (vs.toList.map (depV k h)).foldr max 0 + 1 := by
  unfold depV
  simp only [ho, hc, hT, hd, if_true]
theorem depV_type {k : Nat} {h : Heap} {a : Addr} {o : Obj} {T : String} (ho : h.get? a = some o) (hc : o.cls = .type T) (hT : (T == "list" || T == "tuple") = false) : depV k h (.ref a) = 0 := by
  cases k with
  | zero => rfl
  | succ k =>
    unfold depV
    simp only [ho, hc, hT, Bool.false_eq_true, if_false]
theorem depV_obj {k : Nat} {h : Heap} {a b : Addr} {o : Obj} (ho : h.get? a = some o) (hc : o.cls = .ref b) : depV k h (.ref a) = 0 := by
  cases k with
  | zero => rfl
  | succ k =>
    unfold depV
    simp only [ho, hc]
theorem depV_flat {k : Nat} {h : Heap} {v : Value} (hv : ∀ a, v ≠ .ref a) : depV k h v = 0 := by
  cases k with
  | zero => rfl
  | succ k =>
    cases v with
    | ref a => exact absurd rfl (hv a)
    | _ => rfl
theorem Rep.depV {d : D} {v : Value} (r : Rep c V s d v) : d.pure = true → ∀ k, d.dep < k → Mine.depV k s.heap v = d.dep := by
  have seq : ∀ {T : String} {a : Addr} {o : Obj} {vs : Array Value} {n : Nat} {ds : List D}, (T == "list" || T == "tuple") = true → s.heap.get? a = some o → o.cls = .type T → o.data = .seq vs n → (∀ k, D.deps ds < k → (vs.toList.map (Mine.depV k s.heap)).foldr max 0 = D.deps ds) → ∀ k, D.deps ds + 1 < k → Mine.depV k s.heap (.ref a) = D.deps ds + 1 := fun hT ho hc hd ih k hk => by
    cases k with
    | zero => exact absurd hk (Nat.not_lt_zero _)
    | succ k => rw [depV_seq ho hc hT hd, ih k (Nat.lt_of_succ_lt_succ hk)]
  exact Rep.rec (c := c) (V := V) (s := s) (motive_1 := fun d v _ => d.pure = true → ∀ k, d.dep < k → Mine.depV k s.heap v = d.dep)
    (motive_2 := fun ds vs _ => D.pures ds = true → ∀ k, D.deps ds < k → (vs.map (Mine.depV k s.heap)).foldr max 0 = D.deps ds) (motive_3 := fun _ _ _ => True)
    (fun _ _ _ => depV_flat nofun) (fun _ _ _ _ => depV_flat nofun) (fun _ _ _ _ _ => depV_flat nofun) (fun _ _ _ _ _ => depV_flat nofun) (fun _ _ _ _ _ => depV_flat nofun) (fun _ p => nomatch p) (fun _ _ p => nomatch p)
    (fun _ ho hc _ hd _ ih p => seq rfl ho hc hd (ih p)) (fun _ ho hc _ hd _ ih p => seq rfl ho hc hd (ih p)) (fun _ _ ho hx _ _ _ _ _ _ => depV_type ho hx.1 rfl) (fun _ _ ho _ _ _ _ _ => depV_obj ho rfl)
    (fun _ _ _ => rfl) (fun {d v ds vs} _ _ ih1 ih2 p k hk => by
      have p' := (Bool.and_eq_true _ _).mp p
      have h1 : d.dep < k := Nat.lt_of_le_of_lt (Nat.le_max_left _ _) hk
      have h2 : D.deps ds < k := Nat.lt_of_le_of_lt (Nat.le_max_right _ _) hk
      show max _ ((vs.map _).foldr max 0) = max _ _
      rw [ih1 p'.1 k h1, ih2 p'.2 k h2]) trivial (fun _ _ _ _ _ _ => trivial) r

/-- no thing lies in what lies less deep -/
theorem Rep.low {n k : Nat} {d : D} {v : Value} (r : Rep c V s d v) : d.pure = true → d.dep < n → d.dep < k → Rep c (fun b => V b ∨ n ≤ Mine.depV k s.heap (.ref b)) s d v := by
  have z : ∀ {a : Addr}, 0 < n → ¬ V a → Mine.depV k s.heap (.ref a) = 0 → ¬ (V a ∨ n ≤ Mine.depV k s.heap (.ref a)) := fun hn na e q => q.elim na fun q => by rw [e] at q; exact absurd q (Nat.not_le_of_lt hn)
  exact Rep.rec (c := c) (V := V) (s := s) (motive_1 := fun d v _ => d.pure = true → d.dep < n → d.dep < k → Rep c (fun b => V b ∨ n ≤ Mine.depV k s.heap (.ref b)) s d v)
    (motive_2 := fun ds vs _ => D.pures ds = true → D.deps ds < n → D.deps ds < k → RepL c (fun b => V b ∨ n ≤ Mine.depV k s.heap (.ref b)) s ds vs) (motive_3 := fun kvs es _ => (kvs.all fun p => p.2.flat) = true → RepD c (fun b => V b ∨ n ≤ Mine.depV k s.heap (.ref b)) s kvs es)
    (fun _ _ _ => .none) (fun b _ _ _ => .bool b) (fun i t _ _ _ => .int i t) (fun x t _ _ _ => .str x t) (fun b t _ _ _ => .bytes b t) (fun _ p => nomatch p) (fun _ _ p => nomatch p)
    (fun na ho hc hd hdt r ih p h1 h2 => .list (fun q => q.elim na fun q => absurd ((Rep.list na ho hc hd hdt r).depV p k h2 ▸ q) (Nat.not_le_of_lt h1)) ho hc hd hdt (ih p (Nat.lt_of_succ_lt h1) (Nat.lt_of_succ_lt h2)))
    (fun na ho hc hd hdt r ih p h1 h2 => .tuple (fun q => q.elim na fun q => absurd ((Rep.tuple na ho hc hd hdt r).depV p k h2 ▸ q) (Nat.not_le_of_lt h1)) ho hc hd hdt (ih p (Nat.lt_of_succ_lt h1) (Nat.lt_of_succ_lt h2)))
    (fun na hs ho hx hdt _ ih p h1 h2 => .dict (z h1 na (depV_type ho hx.1 rfl)) hs ho hx hdt (ih p))
    (fun na nd ho hk hm p h1 h2 => .qn (z h1 na (depV_obj ho rfl)) (z h1 nd (by obtain ⟨es, ep, h, _⟩ := hk; exact depV_type h rfl rfl)) ho hk hm)
    (fun _ _ _ => .nil) (fun {d v ds vs} _ _ ih1 ih2 p h1 h2 => by
      have p' := (Bool.and_eq_true _ _).mp p
      exact .cons (ih1 p'.1 (Nat.lt_of_le_of_lt (Nat.le_max_left _ _) h1) (Nat.lt_of_le_of_lt (Nat.le_max_left _ _) h2)) (ih2 p'.2 (Nat.lt_of_le_of_lt (Nat.le_max_right _ _) h1) (Nat.lt_of_le_of_lt (Nat.le_max_right _ _) h2)))
    (fun _ => .nil) (fun hk hh r _ _ ih p => by
      have p' := (Bool.and_eq_true _ _).mp p
      exact .cons hk hh (r.flat p'.1) (ih p'.2)) r
theorem RepL.low {n k : Nat} : ∀ {ds : List D} {vs : List Value}, RepL c V s ds vs → D.pures ds = true → D.deps ds < n → D.deps ds < k → RepL c (fun b => V b ∨ n ≤ Mine.depV k s.heap (.ref b)) s ds vs
  | _, _, .nil, _, _, _ => .nil
  | _, _, .cons r rs, p, h1, h2 => by
    have p' := (Bool.and_eq_true _ _).mp p
    exact .cons (r.low p'.1 (Nat.lt_of_le_of_lt (Nat.le_max_left _ _) h1) (Nat.lt_of_le_of_lt (Nat.le_max_left _ _) h2)) (rs.low p'.2 (Nat.lt_of_le_of_lt (Nat.le_max_right _ _) h1) (Nat.lt_of_le_of_lt (Nat.le_max_right _ _) h2))
end
end Mine
namespace Mine
set_option maxRecDepth 100000
/-- d is written r, wherever it lies, with n frames of room -/
structure RpU (c : Cx) (n : Nat) (d : D) (r : List Nat) : Prop where
  pure : d.pure = true
  run : ∀ base A V g s v, base + r.length ≤ 16777216 → Room c n A → A.guards = some g → (∀ b, ¬ V b → Clear g b) → St c V s → Rep c V s d v →
    wpAny c.M A (pyReprUnder base v) (fun o s' => o = S r ∧ Gr s s') (fun _ _ => False) s
noncomputable def listL (rs : List (List Nat)) : List Nat := (listText (rs.map S)).cps.toList
noncomputable def tupL (rs : List (List Nat)) : List Nat := (tupleText (rs.map S)).cps.toList
theorem listL_S (rs : List (List Nat)) : S (listL rs) = listText (rs.map S) := (S_of _).symm
theorem tupL_S (rs : List (List Nat)) : S (tupL rs) = tupleText (rs.map S) := (S_of _).symm
theorem listL_len (rs : List (List Nat)) : (listText (rs.map S)).length = (listL rs).length := by rw [← listL_S, S_length]
theorem tupL_len (rs : List (List Nat)) : (tupleText (rs.map S)).length = (tupL rs).length := by rw [← tupL_S, S_length]

structure RpL (c : Cx) (n : Nat) (ds : List D) (rs : List (List Nat)) : Prop where
  len : rs.length = ds.length
  each : ∀ (i : Nat) d, ds[i]? = some d → ∃ r, rs[i]? = some r ∧ RpU c n d r
theorem pures_of {c : Cx} {n : Nat} : ∀ {ds : List D} {rs : List (List Nat)}, RpL c n ds rs → D.pures ds = true
  | [], _, _ => rfl
  | d :: ds, rs, h => by
    obtain ⟨r, _, hr⟩ := h.each 0 d rfl
    have : RpL c n ds rs.tail := ⟨by have := h.len; simp [this], fun i d' q => by
      obtain ⟨r', h1, h2⟩ := h.each (i + 1) d' (by simpa using q)
      exact ⟨r', by simpa using h1, h2⟩⟩
    simp only [D.pures, hr.pure, pures_of this, Bool.and_self]

section
variable {c : Cx} {n : Nat}
theorem weight_rep {id : String} {args : Args} (h1 : id ≠ "type.__call__") (h2 : id ≠ "claim.caller") (h3 : (Code.builtin id args).frames = 0) : (Code.builtin id args).weight ≤ 1 := by
  have e1 : (Code.builtin id args).isCreation = false := by
    unfold Code.isCreation
    split
    · rename_i q; injection q with q _; exact absurd q h1
    · rfl
  have e2 : (Code.builtin id args).isCaller = false := by
    unfold Code.isCaller
    split
    · rename_i q; injection q with q _; exact absurd q h2
    · rfl
  unfold Code.weight
  rw [h3, e1, e2]
  cases (Code.builtin id args).isGuard <;> decide
theorem Room.rep {A : Around} {id : String} {args : Args} {g : List Code} (hgn : ¬ c.gn) (hA : Room c (n + 1) A) (hg : A.guards = some g) (hw : (Code.builtin id args).weight ≤ 1) (hu : (A.under (.builtin id args)).units = A.units + 1) (hG : (Code.builtin id args).isGuard = true) :
    Room c n (A.under (.builtin id args)) ∧ (A.under (.builtin id args)).guards = some (.builtin id args :: g) := by
  have hgg := guards_under_guard hG hg
  refine ⟨⟨hA.handled, ?_, ?_, _, hgg, fun q => absurd q hgn⟩, hgg⟩
  · have := hA.depth
    show A.depth + (Code.builtin id args).weight + n < 900
    omega
  · have := hA.units
    rw [hu]; omega
/-- the items of a list or tuple at a -/
theorem RpL.itm {a : Addr} {o : Obj} {ds : List D} {rs : List (List Nat)} {V : Addr → Prop} {A' : Around} {g : List Code} {s : Shared} {items : Array Value} {id : String} {rest : List Value} (h : RpL c n ds rs)
    (hR : Room c n A' ∧ A'.guards = some (.builtin id ⟨.ref a :: rest, []⟩ :: g)) (hcl : ∀ b, ¬ V b → Clear g b) (hS : St c V s) (ho : s.heap.get? a = some o) {d₀ : D} (r₀ : Rep c V s d₀ (.ref a)) (hp : d₀.pure = true) (h0 : d₀.dep = D.deps ds + 1)
    (r : RepL c V s ds items.toList) (i : Nat) (x : Value) (hx : items[i]? = some x) : ∃ t, (rs.map S)[i]? = some t ∧ ItmR c A' s x t := by
  have hav := (RepL.low (k := D.deps ds + 2) r (pures_of h) (Nat.lt_succ_self _) (by omega)).weak (V' := fun b => V b ∨ b = a) fun b q => q.imp (fun q => q) fun q => by
    rw [q, r₀.depV hp (D.deps ds + 2) (by omega), h0]; exact Nat.le_refl _
  have hli := r.length
  have hi : i < ds.length := by
    have := (Array.getElem?_eq_some_iff.mp hx).1
    simp at hli; omega
  obtain ⟨rr, h1, h2⟩ := h.each i _ (List.getElem?_eq_getElem hi)
  obtain ⟨v, hv, rv⟩ := hav.get (List.getElem?_eq_getElem hi)
  have e : v = x := by
    rw [Array.getElem?_toList] at hv
    rw [hv] at hx; injection hx
  subst e
  refine ⟨S rr, by simp [h1], fun base s' hz gr => ?_⟩
  refine h2.run base A' (fun b => V b ∨ b = a) _ s' v (by rw [S_length, sizeLine_eq] at hz; exact hz) hR.1 hR.2 (fun b hb => ?_) ⟨hS.good, hS.keep.trans gr.keep, fun e => hS.tok (Nat.le_zero.mp (e ▸ gr.tok)), fun b hb => ?_⟩ (rv.gr gr)
  · exact (hcl b fun q => hb (.inl q)).cons fun q => hb (.inr q.symm)
  · rcases hb with hb | hb
    · obtain ⟨o', e'⟩ := hS.live b hb; exact ⟨o', gr.keep _ _ e'⟩
    · subst hb; exact ⟨o, gr.keep _ _ ho⟩

theorem RpU.list {ds : List D} {rs : List (List Nat)} (hgn : ¬ c.gn) (h : RpL c n ds rs) : RpU c (n + 1) (.list ds) (listL rs) := by
  refine ⟨pures_of h, fun base A V g s v hb hA hg hcl hS r => ?_⟩
  have r₀ := r
  replace r := r.inv
  obtain ⟨a, o, vs, k, rfl, na, ho, hc, hd, hdt, r⟩ := r
  have hb' : base + (listText (rs.map S)).length ≤ sizeLine := by rw [listL_len, sizeLine_eq]; exact hb
  have hlr := r.length
  refine wpAny_mono (Q := fun o s' => o = listText (rs.map S) ∧ Gr s s') (E := fun _ _ => False) ?_ (fun o s' q => ⟨by rw [q.1, listL_S], q.2⟩) fun _ _ q => q
  by_cases hn : vs.size = 0
  · have hvs : vs = #[] := by simpa using hn
    subst hvs
    have hrs : rs = [] := by have := h.len; simp at hlr; simpa [hlr] using this
    subst hrs
    exact wpAny_with_toks (Nat.le_refl _) (ReprK.listEmpty (prog := c.prog) (w := c.w) (as := []) (h₀ := s.heap) (d := 0) ho hc hdt base hb' A g _ s _ hg (fun _ q => nomatch q) hA.cl (fun _ _ e => e) fun h' tk hk ht => ⟨rfl, hk, ht, rfl, rfl⟩)
  · have hT : s.TypeIs (.ref a) "list" := ⟨o, ho, hc⟩
    refine wpAny_pyReprUnder_ref (by omega) (wpAny_pyReprObjUnder_twin (twin := "list.__repr__.under") hT PySem.F.slot_list_repr.toG rfl hA.cl ?_)
    refine call_twin_plain PySem.F.plain_list_repr_under PySem.F.entry_list_repr_under PySem.F.check_list_repr_under hT PySem.F.slot_list_repr.toG (PySem.F.args_list_repr_1 _) ?_
    refine list_at (by have := h.len; simp at hlr ⊢; omega) (fun rest i x hx => ?_) hb' ho hdt hn hg (hcl a na) fun s' u gr => ⟨⟨_, _, rfl⟩, _, _, rfl, rfl, gr⟩
    exact h.itm (Room.rep hgn hA hg (weight_rep (by decide) (by decide) rfl) (units_under_list_loop _ _) (isGuard_list_loop _)) hcl hS ho r₀ (pures_of h) rfl r i x hx
theorem RpU.tuple {ds : List D} {rs : List (List Nat)} (hgn : ¬ c.gn) (h : RpL c n ds rs) : RpU c (n + 1) (.tuple ds) (tupL rs) := by
  refine ⟨pures_of h, fun base A V g s v hb hA hg hcl hS r => ?_⟩
  have r₀ := r
  replace r := r.inv
  obtain ⟨a, o, vs, k, rfl, na, ho, hc, hd, hdt, r⟩ := r
  have hb' : base + (tupleText (rs.map S)).length ≤ sizeLine := by rw [tupL_len, sizeLine_eq]; exact hb
  have hlr := r.length
  refine wpAny_mono (Q := fun o s' => o = tupleText (rs.map S) ∧ Gr s s') (E := fun _ _ => False) ?_ (fun o s' q => ⟨by rw [q.1, tupL_S], q.2⟩) fun _ _ q => q
  have hT : s.TypeIs (.ref a) "tuple" := ⟨o, ho, hc⟩
  refine wpAny_pyReprUnder_ref (by omega) (wpAny_pyReprObjUnder_twin (twin := "tuple.__repr__.under") hT PySem.F.slot_tuple_repr rfl hA.cl ?_)
  refine call_twin_own (PySem.F.quiet_tuple_repr_under _) PySem.F.entry_tuple_repr_under PySem.F.check_tuple_repr_under hT PySem.F.slot_tuple_repr (PySem.F.args_tuple_repr_1 _) ?_
  refine tuple_at (by have := h.len; simp at hlr ⊢; omega) (fun i x hx => ?_) hb' ho hdt hg (hcl a na) fun s' u gr => ⟨⟨_, _, rfl⟩, _, _, rfl, rfl, gr⟩
  exact h.itm (Room.rep hgn hA hg (weight_rep (by decide) (by decide) rfl) (units_under_tuple_repr_under _ _) (isGuard_tuple_repr_under _)) hcl hS ho r₀ (pures_of h) rfl r i x hx
end
end Mine
namespace Mine
set_option maxRecDepth 100000
theorem nameOk_bool : NameOk "bool" := ⟨by decide, by decide +kernel, by decide +kernel, by rfl, by decide +kernel, by decide +kernel⟩
theorem gives_bytes0 (t : Tok) : Gives (Builtin.«bytes.__repr__» ⟨[.bytes #[] t], []⟩) (.str "b''") := .of_eq (by kernel_rfl)
theorem gives_bytes2 (t : Tok) : Gives (Builtin.«bytes.__repr__» ⟨[.bytes #[38, 60] t], []⟩) (.str "b'&<'") := .of_eq (by kernel_rfl)
/-- the written form of a table of one text and one number -/
noncomputable def dictL (k r : List Nat) : List Nat := (dictText [reprText (S k) ++ ": " ++ S r]).cps.toList
theorem dictL_S (k r : List Nat) : S (dictL k r) = dictText [reprText (S k) ++ ": " ++ S r] := (S_of _).symm

section
variable {c : Cx} {n : Nat} {K : Frag}
theorem ReprOf.bool {b : Bool} : ReprOf c (.bool b) (cs (if b then "True" else "False")) "bool" :=
  ⟨fun V s v r => by cases r.inv; exact rfl, nameOk_bool, by cases b <;> decide +kernel, fun A V s v _ _ r => by
    cases r.inv
    exact wpAny_with_toks (Nat.le_refl _) (pyReprObj_bool fun ht => ⟨⟨s.toks, by cases b <;> simp [ofString_S]⟩, Keeps.refl _, ht, rfl, rfl⟩)⟩
theorem ReprOf.bytes0 : ReprOf c (.bytes []) (cs "b''") "bytes" :=
  ⟨fun V s v r => by obtain ⟨_, rfl⟩ := r.inv; exact rfl, nameOk_bytes, by decide +kernel, fun A V s v _ _ r => by
    obtain ⟨_, rfl⟩ := r.inv
    exact wpAny_with_toks (Nat.le_refl _) (wpAny_pyReprObj_gives (T := "bytes") rfl slot_bytes_repr entry_bytes_repr (args_bytes_repr _) (gives_bytes0 _) (fun ht => ⟨⟨_, by rw [ofString_S]⟩, Keeps.refl _, ht, rfl, rfl⟩) rfl (by decide +kernel))⟩
theorem ReprOf.bytes2 : ReprOf c (.bytes [38, 60]) (cs "b'&<'") "bytes" :=
  ⟨fun V s v r => by obtain ⟨_, rfl⟩ := r.inv; exact rfl, nameOk_bytes, by decide +kernel, fun A V s v _ _ r => by
    obtain ⟨_, rfl⟩ := r.inv
    exact wpAny_with_toks (Nat.le_refl _) (wpAny_pyReprObj_gives (T := "bytes") rfl slot_bytes_repr entry_bytes_repr (args_bytes_repr _) (gives_bytes2 _) (fun ht => ⟨⟨_, by rw [ofString_S]⟩, Keeps.refl _, ht, rfl, rfl⟩) rfl (by decide +kernel))⟩

theorem RpU.leaf {d : D} {r : List Nat} {T : String} (h : ReprOf c d r T) (hp : d.pure = true) (hl : ∀ V s v, Rep c V s d v → ∀ a, v ≠ .ref a) : RpU c n d r := by
  refine ⟨hp, fun base A V g s v hb hA hg hcl hS rv => ?_⟩
  rw [pyReprUnder_leaf (by rw [sizeLine_eq]; omega) (hl V s v rv)]
  unfold pyRepr
  refine wpAny_bind (wpAny_mono (h.run A V s v hA.zero hS rv) (fun o s' q => ?_) fun _ _ q => q)
  obtain ⟨⟨t, rfl⟩, g'⟩ := q
  exact wpAny_pure ⟨rfl, g'⟩
theorem RpU.none : RpU c n .none (cs "None") := .leaf .none rfl fun V s v r a => by (first | obtain ⟨_, rfl⟩ := r.inv | cases r.inv); exact nofun
theorem RpU.bool {b : Bool} : RpU c n (.bool b) (cs (if b then "True" else "False")) := .leaf .bool rfl fun V s v r a => by (first | obtain ⟨_, rfl⟩ := r.inv | cases r.inv); exact nofun
theorem RpU.int {i : Int} (hi : i.natAbs.log2 < 1920) : RpU c n (.int i) (intL i) := .leaf (.int hi) rfl fun V s v r a => by (first | obtain ⟨_, rfl⟩ := r.inv | cases r.inv); exact nofun
theorem RpU.bytes0 : RpU c n (.bytes []) (cs "b''") := .leaf .bytes0 rfl fun V s v r a => by (first | obtain ⟨_, rfl⟩ := r.inv | cases r.inv); exact nofun
theorem RpU.bytes2 : RpU c n (.bytes [38, 60]) (cs "b'&<'") := .leaf .bytes2 rfl fun V s v r a => by (first | obtain ⟨_, rfl⟩ := r.inv | cases r.inv); exact nofun
theorem RpU.str {x : List Nat} (hz : (reprL x).length ≤ 1000000) : RpU c n (sd x) (reprL x) := .leaf (.str hz) rfl fun V s v r a => by (first | obtain ⟨_, rfl⟩ := r.inv | cases r.inv); exact nofun

section
variable {prog : Program} {w : World} {A : Around} {E : Value → Shared → Prop} {s : Shared} {x C f : Addr} {ox : Obj} {od : Option Obj}
theorem ifBoundBy_K {M : Model} {last : Value → List Value → Sem Value} {name : Str} {Q : Option Value → Shared → Prop} (X : K.In s.heap) (I : InstAt s.heap x ox C od) (hs : findIn K (.ref C) name = some (some (.ref f))) (hf : isFn K (.ref f) = true)
    (h : wpAny M A (last (.ref f) [.ref x]) (fun v => Q (some v)) E s) : wpAny M A (callSpecialIfBoundBy? last (.ref x) name) Q E s := by
  simp only [callSpecialIfBoundBy?, bindSpecialIfBound?]
  refine wpAny_holding (wpAny_bind (wpAny_bind (wpAny_bind (I.type.here ((looks_findIn X hs).here ?_)))))
  refine wpAny_bind (wpAny_askSetting (wpAny_ite ?_))
  have fin : wpAny M A (last (.ref f) [.ref x] >>= fun v => pure (some v)) Q E s := wpAny_bind (wpAny_mono h (fun v s' h' => wpAny_pure h') fun _ _ h' => h')
  split
  · exact wpAny_bind ((bind_fn X _ (beq_iff_eq.mp hf)).here (wpAny_pure (by exact fin)))
  · exact wpAny_tryCatch (wpAny_bind ((bind_fn X _ (beq_iff_eq.mp hf)).here (wpAny_pure (by exact fin))))
end
/-- the method __repr__ of the class QName -/
structure QR (c : Cx) (K : Frag) (f : Addr) : Prop where
  find : findIn K (.ref c.qc) "__repr__" = some (some (.ref f))
  fn : isFn K (.ref f) = true
theorem RpU.qn {x : List Nat} {f : Addr} {r : List Nat} (Y : QC c K) (Z : QR c K f) (H : FnR c n (.ref f) [.qn x] (sd r)) : RpU c n (.qn x) r := by
  refine ⟨rfl, fun base A V g s v hb hA hg hcl hS rv => ?_⟩
  obtain ⟨a, dx, t', k, m, rfl, I, hm⟩ := rv.inst
  obtain ⟨o, I', _⟩ := I.inst
  have X := Y.X.keeps hS.keep
  refine wpAny_pyReprUnder_ref (by rw [sizeLine_eq]; omega) ?_
  unfold pyReprObjUnder pyReprObjBy
  refine wpAny_bind (wpAny_cRoomFor hA.cl ?_)
  refine wpAny_bind (special_K X I' Z.find ?_)
  refine wpAny_bind (ifBoundBy_K X I' Z.find Z.fn ?_)
  dsimp only [reprUnder?]
  refine wpAny_mono (H.run A V s _ hA hS (.cons rv .nil)) (fun o' s' q => ?_) fun _ _ q => q.elim
  obtain ⟨g', r'⟩ := q
  obtain ⟨t, rfl⟩ := r'.inv
  exact wpAny_bind (wpAny_isInstance (T := "str") (b := true) (typeIs_str _ _ _) isSubtype_str_str (wpAny_pure ⟨_, _, rfl, rfl, g'⟩))
theorem ReprN.qn {x : List Nat} {f : Addr} {r : List Nat} (Y : QC c K) (Z : QR c K f) (hz : r.length ≤ 1000000) (H : FnR c n (.ref f) [.qn x] (sd r)) : ReprN c n (.qn x) r := by
  refine ⟨hz, fun A V s v hA hS rv => ?_⟩
  obtain ⟨a, dx, t', k, m, rfl, I, hm⟩ := rv.inst
  obtain ⟨o, I', _⟩ := I.inst
  have X := Y.X.keeps hS.keep
  unfold pyReprObj
  refine wpAny_bind (wpAny_cRoomFor hA.cl ?_)
  refine wpAny_bind (special_K X I' Z.find ?_)
  refine wpAny_bind (m := callSpecialIfBound? (.ref a) (Str.ofString "__repr__")) (ifBound_K X I' Z.find Z.fn (wpAny_mono (H.run A V s _ hA hS (.cons rv .nil)) (fun o' s' q => ?_) fun _ _ q => q.elim))
  obtain ⟨g', r'⟩ := q
  obtain ⟨t, rfl⟩ := r'.inv
  exact wpAny_bind (wpAny_isInstance (T := "str") (b := true) (typeIs_str _ _ _) isSubtype_str_str (wpAny_pure ⟨⟨_, rfl⟩, g'⟩))
end
end Mine
namespace Mine
set_option maxRecDepth 100000
/-- the same law, with guards on the stack -/
noncomputable abbrev Cx.u (c : Cx) : Cx := { c with hn := False, gn := False }
section
variable {c : Cx} {n : Nat}
theorem Room.u {A : Around} {g : List Code} (h : Room c n A) (hg : A.guards = some g) : Room c.u n A := ⟨fun q => q.elim, h.depth, h.units, g, hg, fun q => q.elim⟩
theorem St.u {V : Addr → Prop} {s : Shared} (h : St c V s) : St c.u V s := h.cx ⟨h.good.g, h.good.b, h.good.lim⟩ h.keep
theorem Room.nog {A : Around} (h : Room c n A) (hgn : c.gn) : A.guards = some [] := by
  obtain ⟨g, hg, h0⟩ := h.guards
  rw [hg, h0 hgn]

theorem dict_entries {k : List Nat} {i : Int} {V : Addr → Prop} {s : Shared} {l : List DictEntry} (hi : i.natAbs.log2 < 1920) (hk : (reprL k).length ≤ 1000000) (rd : RepD c V s [(k, .int i)] l) (h₀ : Heap) :
    ReprEntriesK c.prog c.w [] h₀ 0 l [reprText (S k) ++ ": " ++ S (intL i)] := by
  have e1 : S (intL i) = (Str.ofString (toString i)) := by rw [ofString_S]
  cases rd with
  | cons hke hh r rs =>
    cases rs
    obtain ⟨_, hv⟩ := r.inv
    refine .cons ?_ ?_ .nil
    · rw [hke]; exact ReprK.of_is (ReprIs.str _ _ (by
        have : (reprText (S k)).length = (reprL k).length := by show (reprText (S k)).cps.size = _; simp [reprL]
        rw [this, sizeLine_eq]; omega)) _ _ _
    · rw [hv, e1]; exact ReprK.of_is (ReprIs.int _ hi) _ _ _
theorem RpU.dict {k : List Nat} {i : Int} (hi : i.natAbs.log2 < 1920) (hk : (reprL k).length ≤ 1000000) : RpU c n (.dict [(k, .int i)]) (dictL k (intL i)) := by
  refine ⟨rfl, fun base A V g s v hb hA hg hcl hS r => ?_⟩
  replace r := r.inv
  obtain ⟨a, o, es, m, rfl, na, hsm, ho, hx, hdt, rd⟩ := r
  have hE := dict_entries hi hk rd s.heap
  have hz : base + (dictText [reprText (S k) ++ ": " ++ S (intL i)]).length ≤ sizeLine := by
    rw [← dictL_S, S_length, sizeLine_eq]; exact hb
  refine wpAny_mono (Q := fun o s' => o = dictText [reprText (S k) ++ ": " ++ S (intL i)] ∧ Gr s s') (E := fun _ _ => False) ?_ (fun o s' q => ⟨by rw [q.1, dictL_S], q.2⟩) fun _ _ q => q
  refine wpAny_with_toks (Nat.le_refl _) (ReprK.dict ho hx.1 hdt hsm (List.not_mem_nil) hE base hz A g _ s _ hg (fun b q => ?_) (by have := hA.units; omega) (fun _ _ e => e) fun h' tk hk ht => ⟨rfl, hk, ht, rfl, rfl⟩)
  have : b = a := by simpa using q
  subst this; exact hcl _ na

theorem ReprN.list {ds : List D} {rs : List (List Nat)} (hgn : c.gn) (h : RpL c.u n ds rs) (hz : (listL rs).length ≤ 1000000) : ReprN c (n + 1) (.list ds) (listL rs) := by
  refine ⟨hz, fun A V s v hA hS r => ?_⟩
  have hg := hA.nog hgn
  have hA' : Room c.u (n + 1) A := hA.u hg
  have hS' := hS.u
  have r₀ : Rep c.u V s (.list ds) v := Rep.cx (c := c) (c' := c.u) ⟨rfl, rfl⟩ r
  clear r
  have r₁ := r₀
  replace r₁ := r₁.inv
  obtain ⟨a, o, vs, k, rfl, na, ho, hc, hd, hdt, r⟩ := r₁
  have hb' : 0 + (listText (rs.map S)).length ≤ sizeLine := by rw [listL_len, sizeLine_eq]; omega
  have hlr := r.length
  have hT : s.TypeIs (.ref a) "list" := ⟨o, ho, hc⟩
  by_cases hn : vs.size = 0
  · have hvs : vs = #[] := by simpa using hn
    subst hvs
    have hrs : rs = [] := by have := h.len; simp at hlr; simpa [hlr] using this
    subst hrs
    exact wpAny_with_toks (Nat.le_refl _) (wpAny_pyReprObj_list_empty hT hA.cl ho hdt fun ht => ⟨⟨_, by rw [listL_S]; rfl⟩, Keeps.refl _, ht, rfl, rfl⟩)
  · unfold pyReprObj
    refine wpAny_bind (wpAny_cRoomFor hA.cl ?_)
    refine wpAny_bind (wpAny_specialOf (name := Str.ofString "__repr__") hT PySem.F.slot_list_repr.lookup ?_)
    refine wpAny_bind (m := callSpecialIfBound? (.ref a) (Str.ofString "__repr__")) (wpAny_callSpecialIfBound?_slot (name := Str.ofString "__repr__") hT PySem.F.slot_list_repr (wpAny_mono (Q := fun v s' => (∃ u, v = .str (listText (rs.map S)) u) ∧ Gr s s') (E := fun _ _ => False) ?_ (fun v s' q => ?_) fun _ _ q => q))
    · refine wpAny_call (codeAny_call_builtin PySem.F.slot_list_repr.plain PySem.F.entry_list_repr (PySem.F.slot_list_repr.check _ _ _ _ _ _ _ _ hT (PySem.F.args_list_repr_1 _) ?_))
      refine list_at (c := c.u) (base := 0) (R := callEnd _ _) (by have := h.len; simp at hlr ⊢; omega) (fun rest i x hx => ?_) hb' ho hdt hn hg (Clear.nil _) fun s' u gr => ⟨⟨_, rfl⟩, gr⟩
      exact h.itm (Room.rep id hA' hg (weight_rep (by decide) (by decide) rfl) (units_under_list_loop _ _) (isGuard_list_loop _)) (fun b _ => Clear.nil b) hS' ho r₀ (pures_of h) rfl r i x hx
    · obtain ⟨⟨u, rfl⟩, gr⟩ := q
      exact wpAny_bind (wpAny_isInstance (T := "str") (b := true) rfl isSubtype_str_str (wpAny_pure ⟨⟨u, by rw [listL_S]⟩, gr⟩))
theorem ReprN.tuple {ds : List D} {rs : List (List Nat)} (hgn : c.gn) (h : RpL c.u n ds rs) (hz : (tupL rs).length ≤ 1000000) : ReprN c (n + 1) (.tuple ds) (tupL rs) := by
  refine ⟨hz, fun A V s v hA hS r => ?_⟩
  have hg := hA.nog hgn
  have hA' : Room c.u (n + 1) A := hA.u hg
  have hS' := hS.u
  have r₀ : Rep c.u V s (.tuple ds) v := Rep.cx (c := c) (c' := c.u) ⟨rfl, rfl⟩ r
  clear r
  have r₁ := r₀
  replace r₁ := r₁.inv
  obtain ⟨a, o, vs, k, rfl, na, ho, hc, hd, hdt, r⟩ := r₁
  have hb' : 0 + (tupleText (rs.map S)).length ≤ sizeLine := by rw [tupL_len, sizeLine_eq]; omega
  have hlr := r.length
  have hT : s.TypeIs (.ref a) "tuple" := ⟨o, ho, hc⟩
  unfold pyReprObj
  refine wpAny_bind (wpAny_cRoomFor hA.cl ?_)
  refine wpAny_bind (wpAny_specialOf (name := Str.ofString "__repr__") hT PySem.F.slot_tuple_repr.lookup ?_)
  refine wpAny_bind (m := callSpecialIfBound? (.ref a) (Str.ofString "__repr__")) (wpAny_callSpecialIfBound?_slotG (name := Str.ofString "__repr__") hT PySem.F.slot_tuple_repr (wpAny_mono (Q := fun v s' => (∃ u, v = .str (tupleText (rs.map S)) u) ∧ Gr s s') (E := fun _ _ => False) ?_ (fun v s' q => ?_) fun _ _ q => q))
  · refine wpAny_call (codeAny_call_builtin_own (Code.quiet_builtin _ (by decide +kernel)) PySem.F.entry_tuple_repr (PySem.F.slot_tuple_repr.check _ _ _ _ _ _ _ _ hT (PySem.F.args_tuple_repr_1 _) ?_))
    refine tuple_at (c := c.u) (base := 0) (R := callEnd _ _) (by have := h.len; simp at hlr ⊢; omega) (fun i x hx => ?_) hb' ho hdt hg (Clear.nil _) fun s' u gr => ⟨⟨_, rfl⟩, gr⟩
    exact h.itm (Room.rep id hA' hg (weight_rep (by decide) (by decide) rfl) (units_under_tuple_repr _ _) (isGuard_tuple_repr _)) (fun b _ => Clear.nil b) hS' ho r₀ (pures_of h) rfl r i x hx
  · obtain ⟨⟨u, rfl⟩, gr⟩ := q
    exact wpAny_bind (wpAny_isInstance (T := "str") (b := true) rfl isSubtype_str_str (wpAny_pure ⟨⟨u, by rw [tupL_S]⟩, gr⟩))
theorem ReprN.dict {k : List Nat} {i : Int} (hgn : c.gn) (hi : i.natAbs.log2 < 1920) (hk : (reprL k).length ≤ 1000000) (hz : (dictL k (intL i)).length ≤ 1000000) : ReprN c n (.dict [(k, .int i)]) (dictL k (intL i)) := by
  refine ⟨hz, fun A V s v hA hS r => ?_⟩
  have hg := hA.nog hgn
  replace r := r.inv
  obtain ⟨a, o, es, m, rfl, na, hsm, ho, hx, hdt, rd⟩ := r
  refine wpAny_with_toks (Nat.le_refl _) (wpAny_pyReprObj_dictK (prog := c.prog) (w := c.w) (as := []) (h₀ := s.heap) (d := 0) ho hx.1 hdt hsm (List.not_mem_nil) (dict_entries hi hk rd _) hg (fun b _ => Clear.nil b) (by have := hA.units; omega) (fun _ _ e => e) (fun h' u tk hk ht => ⟨⟨u, by rw [dictL_S]⟩, hk, ht, rfl, rfl⟩) (by rw [← dictL_S, S_length, sizeLine_eq]; omega))
end
end Mine
namespace Mine
open Builtin
set_option maxRecDepth 100000
section
variable {c : Cx} {n : Nat}
/-- repr of a list -/
theorem FnR.reprL {ds : List D} {rs : List (List Nat)} (hgn : c.gn) (h : RpL c.u n ds rs) (hz : (listL rs).length ≤ 1000000) : FnR c (n + 2) (.builtin "repr") [.list ds] (sd (listL rs)) := .mk fun A V s vs' hA2 hS rv => by
  cases rv with
  | @cons _ v _ _ r rv =>
  cases rv
  have hA1 := hA2.in1
  have hg := hA1.nog hgn
  have hA' : Room c.u (n + 1) A.in1 := hA1.u hg
  have hS' := hS.u
  have r₀ : Rep c.u V s (.list ds) v := Rep.cx (c := c) (c' := c.u) ⟨rfl, rfl⟩ r
  clear r
  have r₁ := r₀
  replace r₁ := r₁.inv
  obtain ⟨a, o, vs, k, rfl, na, ho, hc, hd, hdt, r⟩ := r₁
  have hb' : 0 + (listText (rs.map S)).length ≤ sizeLine := by rw [listL_len, sizeLine_eq]; omega
  have hlr := r.length
  have hT : s.TypeIs (.ref a) "list" := ⟨o, ho, hc⟩
  refine Calls.call_function_entry PySem.F.kind_repr PySem.F.plain_repr PySem.F.entry_repr (PySem.F.args_repr1 _) ?_
  unfold Builtin.«repr»
  refine wpAny_bind (m := oneArg "repr" _) (wpAny_pure ?_)
  refine wpAny_bind (wpAny_cRoomFor hA1.cl ?_)
  refine wpAny_bind (wpAny_specialOf (name := Str.ofString "__repr__") hT PySem.F.slot_list_repr.lookup ?_)
  refine wpAny_bind (m := callSpecialIfBound? (.ref a) (Str.ofString "__repr__")) (wpAny_callSpecialIfBound?_slot (name := Str.ofString "__repr__") hT PySem.F.slot_list_repr (wpAny_mono (Q := fun v s' => (∃ u, v = .str (listText (rs.map S)) u) ∧ Gr s s') (E := fun _ _ => False) ?_ (fun v s' q => ?_) fun _ _ q => q.elim))
  · by_cases hn : vs.size = 0
    · have hvs : vs = #[] := by simpa using hn
      subst hvs
      have hrs : rs = [] := by have := h.len; simp at hlr; simpa [hlr] using this
      subst hrs
      exact wpAny_with_toks (Nat.le_refl _) (call_list_repr_empty hT ho hdt fun ht => ⟨⟨_, rfl⟩, Keeps.refl _, ht, rfl, rfl⟩)
    refine wpAny_call (codeAny_call_builtin PySem.F.slot_list_repr.plain PySem.F.entry_list_repr (PySem.F.slot_list_repr.check _ _ _ _ _ _ _ _ hT (PySem.F.args_list_repr_1 _) ?_))
    refine list_at (c := c.u) (base := 0) (R := callEnd _ _) (by have := h.len; simp at hlr ⊢; omega) (fun rest i x hx => ?_) hb' ho hdt hn hg (Clear.nil _) fun s' u gr => ⟨⟨_, rfl⟩, gr⟩
    exact h.itm (Room.rep id hA' hg (weight_rep (by decide) (by decide) rfl) (units_under_list_loop _ _) (isGuard_list_loop _)) (fun b _ => Clear.nil b) hS' ho r₀ (pures_of h) rfl r i x hx
  · obtain ⟨⟨u, rfl⟩, gr⟩ := q
    refine wpAny_bind (wpAny_isInstance (T := "str") (b := true) rfl isSubtype_str_str ?_)
    exact wpAny_pure ⟨_, rfl, gr, by rw [← listL_S]; exact .str _ _⟩
end
end Mine
namespace Mine
set_option maxRecDepth 100000
/-- is it a text -/
noncomputable def D.isStr : D → Bool
  | .str _ => true
  | _ => false
/-- what isinstance(x, str) asks of the class QName -/
structure QS (c : Cx) (K : Frag) : Prop where
  no : kin_notT K c.qc "str" = true
  pg : plainGet K c.qc "__class__" = true
  hd : hasDictIn K c.qc = true
section
variable {c : Cx} {n : Nat} {K : Frag}
theorem FnR.isStrOf {d : D} {b : Bool} (h : ∀ A V s v, St c V s → Rep c V s d v → wpAny c.M A (call (.builtin "isinstance") [v, .type "str"]) (fun v s' => Gr s s' ∧ v = .bool b) (fun _ _ => False) s) : FnR c n (.builtin "isinstance") [d, .val (.type "str")] (.bool b) := .mk fun A V s vs hA hS rs => by
  cases rs with
  | cons r rs => cases rs with
    | cons r' rs =>
      cases rs; cases r'.inv
      exact wpAny_mono (h A V s _ hS r) (fun v s' q => ⟨q.1, by rw [q.2]; exact .bool _⟩) fun _ _ q => q
theorem FnR.isStr_str {x : List Nat} : FnR c n (.builtin "isinstance") [sd x, .val (.type "str")] (.bool true) := .isStrOf fun A V s v _ r => by (first | obtain ⟨_, rfl⟩ := r.inv | cases r.inv); exact IsiPair.str_str ⟨.refl s, rfl⟩
theorem FnR.isStr_int {i : Int} : FnR c n (.builtin "isinstance") [.int i, .val (.type "str")] (.bool false) := .isStrOf fun A V s v _ r => by (first | obtain ⟨_, rfl⟩ := r.inv | cases r.inv); exact IsiPair.int_str ⟨Gr.toks (Nat.le_succ _), rfl⟩
theorem FnR.isStr_bool {b : Bool} : FnR c n (.builtin "isinstance") [.bool b, .val (.type "str")] (.bool false) := .isStrOf fun A V s v _ r => by (first | obtain ⟨_, rfl⟩ := r.inv | cases r.inv); exact IsiPair.bool_str ⟨Gr.toks (Nat.le_succ _), rfl⟩
theorem FnR.isStr_none : FnR c n (.builtin "isinstance") [.none, .val (.type "str")] (.bool false) := .isStrOf fun A V s v _ r => by (first | obtain ⟨_, rfl⟩ := r.inv | cases r.inv); exact IsiPair.NoneType_str ⟨Gr.toks (Nat.le_succ _), rfl⟩
theorem FnR.isStr_list {ds : List D} : FnR c n (.builtin "isinstance") [.list ds, .val (.type "str")] (.bool false) := .isStrOf fun A V s v _ r => by
  replace r := r.inv
  obtain ⟨_, _, _, _, rfl, na, ho, hc, _, _, _⟩ := r
  exact IsiPair.list_str ho hc ⟨Gr.toks (Nat.le_succ _), rfl⟩
theorem FnR.isStr_tuple {ds : List D} : FnR c n (.builtin "isinstance") [.tuple ds, .val (.type "str")] (.bool false) := .isStrOf fun A V s v _ r => by
  replace r := r.inv
  obtain ⟨_, _, _, _, rfl, na, ho, hc, _, _, _⟩ := r
  exact IsiPair.tuple_str ho hc ⟨Gr.toks (Nat.le_succ _), rfl⟩
theorem FnR.isStr_dict {kvs : List (List Nat × D)} : FnR c n (.builtin "isinstance") [.dict kvs, .val (.type "str")] (.bool false) := .isStrOf fun A V s v _ r => by
  replace r := r.inv
  obtain ⟨_, _, _, _, rfl, na, hs, ho, hx, _, _⟩ := r
  exact IsiPair.dict_str ho hx.1 ⟨Gr.toks (Nat.le_succ _), rfl⟩
theorem FnR.isStr_bytes {b : List Nat} : FnR c n (.builtin "isinstance") [.bytes b, .val (.type "str")] (.bool false) := .isStrOf fun A V s v _ r => by
  obtain ⟨_, rfl⟩ := r.inv
  obtain ⟨h, g, d, t, os⟩ := s
  refine call_isinstance_of (isinstance_nested_false_bytes (by decide) (by kernel_rfl) PySem.F.sub_bytes_str ?_)
  exact ⟨Gr.toks (Nat.le_succ _), rfl⟩
theorem FnR.isStr_qn {x : List Nat} (Y : QC c K) (Z : QS c K) : FnR c n (.builtin "isinstance") [.qn x, .val (.type "str")] (.bool false) := .isStrOf fun A V s v hS r => by
  obtain ⟨a, dx, t', k, m, rfl, I, hm⟩ := r.inst
  obtain ⟨o, I', _⟩ := I.inst
  exact kin_callT (Y.X.keeps hS.keep) I' Z.no (by kernel_rfl) Z.pg Z.hd Y.fk Y.sg Y.tk Y.mo ⟨Gr.toks (Nat.le_succ _), rfl⟩
end
end Mine
namespace Mine
set_option maxRecDepth 100000
/-- texts with a text between each two -/
noncomputable def joinL (p : List Nat) : List (List Nat) → List Nat
  | [] => []
  | [x] => x
  | x :: y :: r => x ++ p ++ joinL p (y :: r)
theorem joinL_S (p : List Nat) : ∀ ls : List (List Nat), Str.join (S p) (ls.map S) = S (joinL p ls)
  | [] => rfl
  | [x] => by simp [Str.join, joinL]
  | x :: y :: r => by
    show S x ++ S p ++ Str.join (S p) ((y :: r).map S) = _
    rw [joinL_S p (y :: r), S_append, S_append]; rfl
section
variable {c : Cx} {n : Nat}
theorem FnR.joinP {p : List Nat} {ls : List (List Nat)} (hz : ls.flatten.length + ls.length * p.length ≤ 16777216) : FnR c n (.builtin "str.join") [sd p, .list (ls.map sd)] (sd (joinL p ls)) := .mk fun A V s vs hA hS r => by
  cases r with
  | cons r rs => cases rs with
    | cons r' rs =>
        cases rs
        obtain ⟨t, rfl⟩ := r.inv
        replace r' := r'.inv
        obtain ⟨a, o, ws, nn, rfl, na, ho, hcl, hd, hdt, r⟩ := r'
        obtain ⟨l, h1, h2⟩ := repL_strs r
        refine wp_end (SC.join (D := a) (l := l) (texts := ls.map S) ⟨o, ho, hcl, nn, by rw [hdt, ← h1]⟩ h2 ?_ fun t' k => ⟨fun _ _ e => e, rfl, rfl, fun _ => ?_⟩)
        · unfold JoinOk
          rw [Bool.not_eq_true', StrLaws.joinTotal]
          unfold Builtin.Str.tooLong
          rw [sizeLine_eq]
          have e : ((ls.map S).map (·.length)).sum = ls.flatten.length := by
            rw [List.map_map, List.length_flatten]
            congr 1
          rw [e, S_length, List.length_map]
          exact decide_eq_false (by rw [Nat.not_lt]; exact hz)
        · have : Txt.join (S p) (ls.map S) = S (joinL p ls) := (StrLaws.glued_eq_join _ _).trans (joinL_S p ls)
          rw [this]; exact .str _ _
/-- tuple(items) -/
theorem FnR.tupleOf {ds : List D} (hz : ds.length ≤ 16777216) : FnR c n (.type "tuple") [.list ds] (.tuple ds) := .mk fun A V s vs hA hS r => by
  cases r with
  | cons r rs =>
      cases rs
      replace r := r.inv
      obtain ⟨a, o, ws, nn, rfl, na, ho, hcl, hd, hdt, r⟩ := r
      have hl := r.length
      refine call_tuple_list ⟨o, ho, hcl, nn, hdt⟩ (fun h' hk => ?_) (by rw [sizeLine_eq]; simp at hl; omega)
      have g : Gr s { s with heap := h'.push { cls := .type "tuple", data := .seq ws } } := ⟨fun b ob e => Heap.get?_push_of_some _ (hk b ob e), Nat.le_refl _, rfl, rfl⟩
      refine ⟨g, .tuple (fun q => ?_) (Heap.get?_push_size _ rfl) rfl ⟨rfl, rfl⟩ rfl (r.gr g)⟩
      obtain ⟨ob, e⟩ := hS.live _ q
      exact absurd (Heap.lt_size (hk _ _ e)) (Nat.lt_irrefl _)
end
end Mine
namespace Mine
section
variable {c : Cx} {n : Nat} {sc : Scope} {k : Bool} {ρ ρ' : Sto} {P P' : AF → Sto → Prop} {env : Env} {V0 : Addr → Prop} {h0 : Heap} {Cs : List (Str × Addr)} {X : List Addr} {s s₁ : Shared} {A : Around}

theorem Fm.opnO {x : String} {q : Option Addr} {sl : List Slot} (F : Fm c sc env V0 h0 Cs X ρ s) (h : ρ.lookup x = some (.ownO q sl)) : ∃ a fpi fps', Opn c env V0 Cs X ρ x sl a fpi fps' s ∧ ∀ b, q = some b → b = a := by
  obtain ⟨m, fps, h1, h2, h3, h4, h6, h5⟩ := F.sto
  obtain ⟨v, fp, fps', rest, l, rx, r, hp⟩ := h5.take h
  obtain ⟨a, o, vs, nn, fpi, rfl, rfl, hq, ho, hcl, hd, hdt, rs⟩ := rx.inv
  have hx1 : (env.locals :: (Cs.map (·.2) ++ fps)).Nodup := h2 ▸ h3
  have hpm : (rest ++ (env.locals :: (Cs.map (·.2) ++ ((a :: fpi) ++ fps')))).Perm (env.locals :: (Cs.map (·.2) ++ fps)) := by
    refine List.perm_middle.trans (List.Perm.cons _ ?_)
    exact (List.perm_append_comm_assoc rest _ _).trans (hp.append_left _)
  refine ⟨a, fpi, fps', ⟨⟨m, h1, l, r⟩, ⟨vs, nn, ?_, rs⟩, (List.nodup_append.mp (hpm.nodup_iff.mpr hx1)).2.1, fun b hb => h2 ▸ hpm.subset (List.mem_append_right _ hb)⟩, hq⟩
  rw [← obj_eq hcl hd hdt]; exact ho

theorem Opn.nd2 {x : String} {sl : List Slot} {a : Addr} {fpi fps' : List Addr} (O : Opn c env V0 Cs X ρ x sl a fpi fps' s) : (a :: fpi).Nodup :=
  (List.nodup_append.mp (List.nodup_append.mp (List.nodup_cons.mp O.nd).2).2.1).1

/-- an own list, or one in it, is turned (and takes in new places or lets go of some), and all is said again -/
theorem Opn.closeG {x : String} {q : Option Addr} {sl sl' : List Slot} {a b : Addr} {fpi fpi' fps' : List Addr} {h' : Heap} {vs' : Array Value} {n' tk : Nat} (F : Fm c sc env V0 h0 Cs X ρ s) (O : Opn c env V0 Cs X ρ x sl a fpi fps' s) (hq : ∀ b, q = some b → b = a) (g : Gr s s₁)
    (hb : b ∈ a :: fpi) (hbo : ∃ ob xs nn, s.heap.get? b = some ob ∧ ob.data = .seq xs nn) (hbn : ∃ o', h'.get? b = some o') (hs : Heap.SameBut b s₁.heap h') (htk : s₁.toks ≤ tk)
    (ho : h'.get? a = some { cls := .type "list", data := .seq vs' n' }) (hf : ∀ y ∈ fpi', y ∈ fpi ∨ s.heap.get? y = none) (hfn : fpi'.Nodup)
    (hr : RepSL c (Vol V0 (X ++ fpi')) { s₁ with heap := h', toks := tk } sl' vs'.toList fpi') :
    Stp X s (env.locals :: (Cs.map (·.2) ++ ((a :: fpi') ++ fps'))) { s₁ with heap := h', toks := tk } ∧
      Fm c sc env V0 h0 Cs (env.locals :: (Cs.map (·.2) ++ ((a :: fpi') ++ fps'))) (setS ρ x (.ownO q sl')) { s₁ with heap := h', toks := tk } := by
  obtain ⟨m, h1, h2, h3⟩ := O.ns
  obtain ⟨ob, xs, nn, hob, hdb⟩ := hbo
  have hob1 := g.keep _ _ hob
  have hbX : b ∈ X := O.sub b (.tail _ (List.mem_append_right _ (List.mem_append_left _ hb)))
  have hnd := List.nodup_cons.mp O.nd
  have hnd2 := List.nodup_append.mp hnd.2
  have hndp := List.nodup_append.mp hnd2.2.1
  have haL : env.locals ≠ b := fun q => hnd.1 (q ▸ List.mem_append_right _ (List.mem_append_left _ hb))
  have haC : ∀ p ∈ Cs, p.2 ≠ b := fun p hp q => hnd2.2.2 _ (List.mem_map_of_mem hp) b (List.mem_append_left _ hb) q
  obtain ⟨_, _, _, _, _, hlv, hcl, _⟩ := F.sto
  have halv : ∀ y ∈ X, ∃ o, s.heap.get? y = some o := hlv
  have hsub : ∀ y ∈ env.locals :: (Cs.map (·.2) ++ ((a :: fpi') ++ fps')), y ∈ X ∨ (y ∈ fpi' ∧ s.heap.get? y = none) := fun y hy => by
    rcases List.mem_cons.mp hy with e | hy
    · exact .inl (O.sub y (e ▸ .head _))
    · rcases List.mem_append.mp hy with hy | hy
      · exact .inl (O.sub y (.tail _ (List.mem_append_left _ hy)))
      · rcases List.mem_append.mp hy with hy | hy
        · rcases List.mem_cons.mp hy with e | hy
          · exact .inl (e ▸ O.aX)
          · rcases hf y hy with e | e
            · exact .inl (O.sub y (.tail _ (List.mem_append_right _ (List.mem_append_left _ (.tail _ e)))))
            · exact .inr ⟨hy, e⟩
        · exact .inl (O.sub y (.tail _ (List.mem_append_right _ (List.mem_append_right _ hy))))
  have hXf : ∀ y, y ∈ X → (∃ o, s.heap.get? y = some o) := halv
  -- what is told apart from the new places
  have hoff : ∀ y ∈ fpi', ∀ z ∈ X, (z = y → z ∈ fpi) := fun y hy z hz e => by
    rcases hf y hy with e' | e'
    · exact e ▸ e'
    · obtain ⟨o, e2⟩ := halv z hz; rw [e, e'] at e2; cases e2
  have hndn : (env.locals :: (Cs.map (·.2) ++ ((a :: fpi') ++ fps'))).Nodup := by
    have LX : env.locals ∈ X := O.sub _ (.head _)
    refine List.nodup_cons.mpr ⟨fun e => ?_, List.nodup_append.mpr ⟨hnd2.1, List.nodup_append.mpr ⟨List.nodup_cons.mpr ⟨fun e => ?_, hfn⟩, hndp.2.1, fun y hy z hz e => ?_⟩, fun y hy z hz e => ?_⟩⟩
    · rcases List.mem_append.mp e with e | e
      · exact hnd.1 (List.mem_append_left _ e)
      · rcases List.mem_append.mp e with e | e
        · rcases List.mem_cons.mp e with e | e
          · exact hnd.1 (e ▸ List.mem_append_right _ (List.mem_append_left _ (.head _)))
          · exact hnd.1 (List.mem_append_right _ (List.mem_append_left _ (.tail _ (hoff _ e _ LX rfl))))
        · exact hnd.1 (List.mem_append_right _ (List.mem_append_right _ e))
    · exact (List.nodup_cons.mp hndp.1).1 (hoff _ e _ O.aX rfl)
    · have zX : z ∈ X := O.sub z (.tail _ (List.mem_append_right _ (List.mem_append_right _ hz)))
      rcases List.mem_cons.mp hy with e' | e'
      · exact hndp.2.2 _ (.head _) z hz (e' ▸ e)
      · exact hndp.2.2 z (.tail _ (hoff y e' z zX e.symm)) z hz rfl
    · have yX : y ∈ X := O.sub y (.tail _ (List.mem_append_left _ hy))
      rcases List.mem_append.mp hz with hz | hz
      · rcases List.mem_cons.mp hz with e' | e'
        · exact hnd2.2.2 y hy _ (List.mem_append_left _ (.head _)) (e' ▸ e)
        · exact hnd2.2.2 y hy y (List.mem_append_left _ (.tail _ (hoff z e' y yX e))) rfl
      · exact hnd2.2.2 y hy z (List.mem_append_right _ hz) e
  have hcm : Calm (Vol V0 (X ++ fpi')) s₁ { s₁ with heap := h', toks := tk } := calm_at hs (.inr (List.mem_append_left _ hbX)) htk
  have hv : ∀ b, Vol V0 (env.locals :: (Cs.map (·.2) ++ ((a :: fpi') ++ fps'))) b → Vol V0 (X ++ fpi') b := fun y e => e.imp id fun e => by
    rcases hsub y e with e | e
    · exact List.mem_append_left _ e
    · exact List.mem_append_right _ e.1
  have ha0 : ∀ d o, h0.get? d = some o → d ≠ b := fun d o e q => by rw [q, F.new _ hbX] at e; cases e
  have haf : b ∉ fps' := fun q => hndp.2.2 b hb b q rfl
  have halive : ∀ d o, s.heap.get? d = some o → ∃ o', h'.get? d = some o' := fun d o e => by
    by_cases q : d = b
    · exact q ▸ hbn
    · exact ⟨o, (hs.2 d q).trans (g.keep _ _ e)⟩
  have hralive := hr.alive
  refine ⟨⟨fun d o hd e => (hs.2 d fun q => hd (q ▸ hbX)).trans (g.keep _ _ e), Nat.le_trans g.tok htk, g.gens, g.os, fun d hd => (hsub d hd).imp id (·.2), fun d _ o e => halive d o e⟩,
    ⟨F.good, F.scope, F.kind, F.globals, F.builtins, F.base, fun d o e => (hs.2 d (ha0 d o e)).trans (g.keep _ _ (F.keep d o e)), fun e => F.tok (Nat.le_zero.mp (e ▸ Nat.le_trans g.tok htk)), (fun d q => ?_), F.ccells, fun d hd => ?_, F.cells, F.cinj,
      ⟨m, _, (h1.keeps g.keep).sameBut hs haL, rfl, hndn, fun d hd => ?_, fun p hp => ?_, .cons (v := .ref a) ?_ (.ownO hq ho rfl ⟨rfl, rfl⟩ rfl (hr.calm (Gr.calm (.refl _) _) hv fun _ _ _ e => e)) ?_⟩⟩⟩
  · obtain ⟨⟨o, e⟩, hx⟩ := F.live0 d q
    exact ⟨halive d o e, fun q' => (hsub d q').elim hx fun q'' => by rw [q''.2] at e; cases e⟩
  · rcases hsub d hd with e | e
    · exact F.new d e
    · cases e' : h0.get? d with
      | none => rfl
      | some o => have := F.keep _ _ e'; rw [e.2] at this; cases this
  · rcases hsub d hd with e | e
    · obtain ⟨o, e⟩ := hlv d e; exact halive d o e
    · exact hralive d e.1
  · obtain ⟨v₀, q⟩ := hcl p hp; exact ⟨v₀, (q.keeps g.keep).sameBut hs (haC p hp)⟩
  · refine (h2.calm (s' := s₁) (fun _ => rfl) fun d o w _ e _ => g.keep _ _ e).calm (fun _ => rfl) fun d o w _ e hw => (hs.2 d fun q => ?_).trans e
    rw [q, hob1] at e; cases e; rw [hdb] at hw; cases hw
  · have h3' : StoR c env (Vol V0 (X ++ fpi')) s₁ m (delS x ρ) fps' := ((h3.ext (W := fun y => y ∈ fpi' ∧ s.heap.get? y = none) fun y q => q.2).gr g).weak fun y q => by
      rcases q with q | q
      · exact .inl (.inl q)
      · rcases List.mem_append.mp q with q | q
        · exact .inl (.inr q)
        · rcases hf y q with e | e
          · exact .inl (.inr (O.sub y (.tail _ (List.mem_append_right _ (List.mem_append_left _ (.tail _ e))))))
          · exact .inr ⟨q, e⟩
    refine StoR.weak hv (h3'.change hcm (fun d hd o e => (hs.2 d fun q => haf (q ▸ hd)).trans e) (fun _ _ _ => rfl) fun p hp d o w _ e hw => (hs.2 d fun q => ?_).trans e)
    rw [q, hob1] at e; cases e; rw [hdb] at hw; cases hw

end
end Mine
namespace Mine
section
variable {c : Cx} {n : Nat} {sc : Scope} {k : Bool} {ρ ρ' : Sto} {P P' : AF → Sto → Prop} {env : Env} {V0 : Addr → Prop} {h0 : Heap} {Cs : List (Str × Addr)} {X : List Addr} {s s₁ : Shared} {A : Around}

theorem RepSL.snocS {V : Addr → Prop} {s : Shared} {d : Slot} {v : Value} {fp' : List Addr} (rv : RepS c V s d v fp') : ∀ {sl vs fp}, RepSL c V s sl vs fp → RepSL c V s (sl ++ [d]) (vs ++ [v]) (fp ++ fp')
  | _, _, _, .nil => by have := RepSL.cons rv (.nil (c := c) (V := V) (s := s)); simpa using this
  | _, _, _, .cons (fp := fp) r rs => by
    have := RepSL.cons r (RepSL.snocS rv rs)
    rw [← List.append_assoc] at this; exact this

/-- x.append(e), e a value or a fresh own list -/
theorem Sx.appendG {x : String} {q : Option Addr} {e : Expr} {p ap pos epos : Pos} {sl : List Slot} {d : Slot} (hx : ρ.lookup x = some (.ownO q sl)) (h : EvS c n sc ρ e d) (hz : sl.length ≤ 16777216) (hp : plainE e = true := by rfl) (hline : (ap.endLine == pos.line) = true := by rfl) (hxd : x ≠ "__debug__" := by decide)
    (hbase : ∀ env : Env, attributeBase (.Name (Str.ofString x) p) (Str.ofString "append") env (eval (.Name (Str.ofString x) p) env) = eval (.Name (Str.ofString x) p) env := by intro _; rfl)
    (hs : ∀ env : Env, swapsWith (.Call (.Attribute (.Name (Str.ofString x) p) (Str.ofString "append") ap) [e] [] pos) none epos.line env = pure false := by intro _; rfl) :
    Sn c n sc ρ (.Expr (.Call (.Attribute (.Name (Str.ofString x) p) (Str.ofString "append") ap) [e] [] pos) epos) (setS ρ x (.ownO q (sl ++ [d]))) := .mk fun A env V0 h0 Cs X s hA hO F => by
  refine hideG fun G KG => ?_
  obtain ⟨a, fpi, fps', O, hq⟩ := F.opnO hx
  have hi : interactive env = false := by
    unfold interactive
    rw [F.scope, F.kind]; rfl
  refine KG ?_
  refine wpAny_Expr ?_ hi (hs env)
  refine wpAny_Call_method (T := "list") (id := "list.append") (hbase env) ?_ hline PySem.F.plainAttrs_list PySem.F.slot_list_append PySem.F.type_list_append ?_
  · rw [starEach_cons hp]; rfl
  refine O.load F hxd ?_
  refine hideG fun G KG => ?_
  obtain ⟨vs, nn, h4, h5⟩ := O.lst
  refine KG ?_
  refine ⟨⟨_, h4, rfl⟩, fun b hb => by cases hb; exact ⟨_, h4, rfl⟩, (Callee.builtin (c := c) "list.append").wp (first := [.ref a]) (by simp [hp]) ?_⟩
  refine wpAny_items_cons (wpAny_mono (h.run A env V0 h0 Cs X s hA F) (fun v s₁ q₁ => wpAny_items_nil ⟨(F.gr q₁.1).base.trans (F.gr q₁.1).keep, ?_⟩) fun _ _ q => q.elim) (starEach_cons hp)
  refine hideG fun G KG => ?_
  obtain ⟨g, fp, rv, hfn, hf⟩ := q₁
  have hl := h5.length
  refine KG ?_
  refine append_wp (g.keep _ _ h4) rfl ⟨rfl, rfl⟩ rfl (fun h' o' n' e1 e2 e3 e4 e5 => ?_) (by simp at hl; omega)
  have haf : a ∉ fpi ∧ fpi.Nodup := List.nodup_cons.mp O.nd2
  have hold : ∀ y ∈ fpi, y ∈ X := fun y hy => O.sub y (.tail _ (List.mem_append_right _ (List.mem_append_left _ (.tail _ hy))))
  have hafp : a ∉ fp := fun e => by rw [hf a e] at h4; cases h4
  have hfx : ∀ y ∈ fpi, y ∉ fp := fun y hy e => by
    obtain ⟨o, e2⟩ := h5.alive y hy
    rw [hf y e] at e2; cases e2
  have hcm : Calm (Vol V0 (X ++ fp)) s₁ { s₁ with heap := h' } := calm_at (tk := s₁.toks) e5 (.inr (List.mem_append_left _ O.aX)) (Nat.le_refl _)
  have h5' : RepSL c (Vol V0 (X ++ fp)) s₁ sl vs.toList fpi := ((h5.ext (W := fun y => y ∈ fp) hf).gr g).calm (Gr.calm (.refl _) _) (fun y e => by
    rcases e with e | e
    · exact .inl (.inl e)
    · rcases List.mem_append.mp e with e | e
      · exact .inl (.inr e)
      · exact .inr e) fun _ _ _ e => e
  obtain ⟨t, F'⟩ := O.closeG F hq g (sl' := sl ++ [d]) (vs' := vs.push v) (n' := n') (fpi' := fpi ++ fp) (tk := s₁.toks) (h' := h') (.head _) ⟨_, _, _, h4, rfl⟩ ⟨_, e1⟩ e5 (Nat.le_refl _) (by rw [← obj_eq e2 e3 e4]; exact e1)
    (fun y hy => (List.mem_append.mp hy).imp id (hf y)) (List.nodup_append.mpr ⟨haf.2, hfn, fun y hy z hz e => hfx y hy (e ▸ hz)⟩) (by
    rw [Array.toList_push]
    have hvv : ∀ y, Vol V0 (X ++ (fpi ++ fp)) y → Vol V0 (X ++ fp) y := fun y e => e.imp id fun e => by
      rcases List.mem_append.mp e with e | e
      · exact List.mem_append_left _ e
      · exact (List.mem_append.mp e).elim (fun e => List.mem_append_left _ (hold y e)) fun e => List.mem_append_right _ e
    exact (RepSL.snocS rv h5').calm hcm hvv fun b hb o e => (e5.2 b fun q => by
      rcases List.mem_append.mp hb with hb | hb
      · exact haf.1 (q ▸ hb)
      · exact hafp (q ▸ hb)).trans e)
  exact ⟨_, _, .next, t, F', .next, rfl, rfl⟩

theorem Fm.addL {s s' : Shared} (fp : List Addr) (F : Fm c sc env V0 h0 Cs X ρ s) (hn : ∀ a ∈ fp, s.heap.get? a = none) (g : Gr s s') (hl : ∀ a ∈ fp, ∃ o, s'.heap.get? a = some o) : Fm c sc env (fun b => V0 b ∨ b ∈ fp) h0 Cs X ρ s' := by
  have F' := F.gr g
  refine ⟨F'.good, F'.scope, F'.kind, F'.globals, F'.builtins, F'.base, F'.keep, F'.tok, fun b q => ?_, F'.ccells, F'.new, F'.cells, F'.cinj, ?_⟩
  · rcases q with q | hb
    · exact F'.live0 b q
    · refine ⟨hl b hb, fun q => ?_⟩
      obtain ⟨_, _, _, _, _, h4, _, _⟩ := F.sto
      obtain ⟨o, e⟩ := h4 _ q
      rw [hn b hb] at e; cases e
  · obtain ⟨m, fps, h1, h2, h3, h4, h6, h5⟩ := F.sto
    obtain ⟨_, _, _, _, _, h4', h6', _⟩ := F'.sto
    exact ⟨m, fps, h1.keeps g.keep, h2, h3, h4', h6', ((h5.ext (W := fun b => b ∈ fp) hn).gr g).weak fun b q => by
      rcases q with (q | q) | q
      · exact .inl (.inl q)
      · exact .inr q
      · exact .inl (.inr q)⟩

/-- expressions with slots for values -/
structure EvSL (c : Cx) (n : Nat) (sc : Scope) (ρ : Sto) (es : List Expr) (sls : List Slot) : Prop where
  run : ∀ A env V0 h0 Cs X s pos, Room c n A → Fm c sc env V0 h0 Cs X ρ s →
    wpAny c.M A (spliced (backTo pos (starEach es env))) (fun vs s' => Gr s s' ∧ ∃ fp, RepSL c (Vol V0 (X ++ fp)) s' sls vs fp ∧ fp.Nodup ∧ ∀ a ∈ fp, s.heap.get? a = none) NoE s
theorem EvSL.nil : EvSL c n sc ρ [] [] := .mk fun A env V0 h0 Cs X s pos hA F => wpAny_items_nil ⟨.refl s, [], .nil, .nil, fun _ q => nomatch q⟩
theorem EvSL.cons {e : Expr} {es : List Expr} {sl : Slot} {sls : List Slot} (h : EvS c n sc ρ e sl) (hs : EvSL c n sc ρ es sls) (hp : plainE e = true := by rfl) : EvSL c n sc ρ (e :: es) (sl :: sls) := .mk fun A env V0 h0 Cs X s pos hA F =>
  wpAny_items_cons (wpAny_mono (h.run A env V0 h0 Cs X s hA F) (fun v s₁ q₁ => by
    obtain ⟨g, fp, rv, hfn, hf⟩ := q₁
    have halive := rv.alive
    refine wpAny_mono (hs.run A env _ h0 Cs X s₁ pos hA (F.addL fp hf g halive)) (fun vs s₂ q₂ => ?_) fun _ _ q => q
    obtain ⟨g₂, fp₂, r₂, hfn₂, hf₂⟩ := q₂
    refine ⟨g.trans g₂, fp ++ fp₂, .cons ?_ ?_, List.nodup_append.mpr ⟨hfn, hfn₂, fun y hy z hz e => ?_⟩, fun y hy => ?_⟩
    · refine ((rv.ext (W := fun y => y ∈ fp₂) hf₂).gr g₂).weak fun y q => ?_
      rcases q with q | q
      · exact .inl (.inl q)
      · rcases List.mem_append.mp q with q | q
        · exact .inl (.inr (List.mem_append_left _ q))
        · exact (List.mem_append.mp q).elim (fun q => .inl (.inr (List.mem_append_right _ q))) .inr
    · refine r₂.calm (Gr.calm (.refl _) _) (fun y q => ?_) fun _ _ _ e => e
      rcases q with q | q
      · exact .inl (.inl q)
      · rcases List.mem_append.mp q with q | q
        · exact .inr (List.mem_append_left _ q)
        · exact (List.mem_append.mp q).elim (fun q => .inl (.inr q)) fun q => .inr (List.mem_append_right _ q)
    · obtain ⟨o, e2⟩ := halive y hy
      rw [e, hf₂ z hz] at e2; cases e2
    · rcases List.mem_append.mp hy with hy | hy
      · exact hf y hy
      · cases e : s.heap.get? y with
        | none => rfl
        | some o => have := g.keep _ _ e; rw [hf₂ y hy] at this; cases this) fun _ _ q => q.elim) (starEach_cons hp)

/-- a fresh list of slots -/
theorem EvS.lst {es : List Expr} {pos : Pos} {sls : List Slot} (h : EvSL c n sc ρ es sls) (hsz : sls.length ≤ sizeLine) : EvS c n sc ρ (.List es pos) (.own sls) := .mk fun A env V0 h0 Cs X s hA F =>
  wpAny_List (wpAny_mono (h.run A env V0 h0 Cs X s pos hA F) (fun vs s₁ q => by
    obtain ⟨g, fp, r, hfn, hf⟩ := q
    have hnew := get_size s₁.heap
    have hal := r.alive
    have hnfp : s₁.heap.objs.size ∉ fp := fun e => by obtain ⟨o, e2⟩ := hal _ e; rw [hnew] at e2; cases e2
    refine ⟨r.length ▸ hsz, g.trans (.push _), s₁.heap.objs.size :: fp, .own (Heap.get?_push_size _ rfl) rfl ⟨rfl, rfl⟩ rfl ?_, List.nodup_cons.mpr ⟨hnfp, hfn⟩, fun y hy => ?_⟩
    · have r2 := (r.ext (W := fun y => y = s₁.heap.objs.size) fun y e => e ▸ hnew)
      refine r2.calm ((Gr.push _).calm _) (fun y q => ?_) fun b _ o e => Heap.get?_push_of_some _ e
      rcases q with q | q
      · exact .inl (.inl q)
      · rcases List.mem_append.mp q with q | q
        · exact .inl (.inr (List.mem_append_left _ q))
        · rcases List.mem_cons.mp q with q | q
          · exact .inr q
          · exact .inl (.inr (List.mem_append_right _ q))
    · rcases List.mem_cons.mp hy with q | q
      · rw [q]
        cases e : s.heap.get? s₁.heap.objs.size with
        | none => rfl
        | some o => have := g.keep _ _ e; rw [hnew] at this; cases this
      · exact hf y q) fun _ _ q => q)
end
end Mine
namespace Mine
section
variable {c : Cx} {n : Nat} {sc : Scope} {k : Bool} {ρ ρ' ρ₂ : Sto} {P P' : AF → Sto → Prop} {env : Env} {V0 : Addr → Prop} {h0 : Heap} {Cs : List (Str × Addr)} {X : List Addr} {s s₁ : Shared} {A : Around}

inductive LastR (c : Cx) (V : Addr → Prop) (s : Shared) (d : Slot) (sl : List Slot) (vs : List Value) (fp : List Addr) : Prop
  | mk (ws : List Value) (v : Value) (fp1 fp2 : List Addr) (e : vs = ws ++ [v]) (ef : fp = fp1 ++ fp2) (r : RepSL c V s sl ws fp1) (rv : RepS c V s d v fp2) : LastR c V s d sl vs fp
theorem RepSL.lastS {V : Addr → Prop} {s : Shared} {d : Slot} {sl : List Slot} : ∀ {vs : List Value} {fp : List Addr}, RepSL c V s (sl ++ [d]) vs fp → LastR c V s d sl vs fp := by
  induction sl with
  | nil => intro vs fp r0; obtain ⟨v, vs', f1, f2, rfl, rfl, r, rs⟩ := r0.inv; obtain ⟨rfl, rfl⟩ := rs.inv; exact ⟨[], v, [], f1, rfl, List.append_nil _, .nil, r⟩
  | cons _ sl ih => intro vs fp r0; obtain ⟨v, vs', f1, f2, rfl, rfl, r, rs⟩ := r0.inv; obtain ⟨ws, w, g1, g2, rfl, rfl, h1, h2⟩ := ih rs; exact ⟨v :: ws, w, f1 ++ g1, g2, rfl, (List.append_assoc ..).symm, .cons r h1, h2⟩

theorem pop_last {prog : Program} {w : World} {A : Around} {E : Value → Shared → Prop} {s : Shared} {l : Addr} {ws : List Value} {y : Value} {nn : Nat} {Q : Value → Shared → Prop} (ho : s.heap.get? l = some { cls := .type "list", data := .seq (ws ++ [y]).toArray nn }) (hz : ws.length ≤ 1000000)
    (hQ : ∀ h' n', h'.get? l = some { cls := .type "list", data := .seq ws.toArray n' } → Heap.SameBut l s.heap h' → Q y { s with heap := h' }) : wpAny (model prog w) A (call (.builtin "list.pop") [.ref l]) Q E s := by
  have hsz : (ws ++ [y]).toArray.size - 1 = ws.length := by simp
  have hy : (ws ++ [y]).toArray[(ws ++ [y]).toArray.size - 1]? = some y := by rw [hsz]; simp
  refine call_meets PySem.F.slot_list_pop ⟨_, ho, rfl⟩ PySem.F.entry_list_pop (PySem.F.args_list_pop_1 _) (MeetsSeq.list_pop_last l (ws ++ [y]).toArray nn y hy (by rw [sizeLine_eq]; simp; omega)) ⟨ho, ?_⟩
  obtain ⟨n', hd'⟩ := Obj.data_mapSeq (o := { cls := .type "list", data := .seq (ws ++ [y]).toArray nn }) rfl (·.eraseIdxIfInBounds ((ws ++ [y]).toArray.size - 1))
  have hfin := Heap.get?_update_self (Obj.mapSeq (·.eraseIdxIfInBounds ((ws ++ [y]).toArray.size - 1))) ho (Obj.isFreed_of_seq hd')
  have hd2 := Obj.dict_mapSeq { cls := .type "list", data := .seq (ws ++ [y]).toArray nn } (·.eraseIdxIfInBounds ((ws ++ [y]).toArray.size - 1))
  rw [obj_eq ((Obj.cls_mapSeq ..).trans rfl) ⟨hd2.1, hd2.2⟩ hd'] at hfin
  have he : (ws ++ [y]).toArray.eraseIdxIfInBounds ((ws ++ [y]).toArray.size - 1) = ws.toArray := by
    rw [hsz]
    apply Array.ext'
    simp only [Array.toList_eraseIdxIfInBounds]
    rw [List.eraseIdx_append_of_length_le (Nat.le_refl _)]
    simp
  rw [he] at hfin
  exact hQ _ n' hfin (Heap.SameBut.update ..)

/-- targets of a list -/
theorem assign_TupleL {prog : Program} {w : World} {E : Value → Shared → Prop} {elts : List Expr} {x1} {pos : Pos} {t : Addr} {items : Array Value} {Q : Unit → Shared → Prop} (hh : A.handled = none) (ht : s.heap.IsList t items)
    (hn : (assignEach elts env).length = items.size) (hstar : (assignEach elts env).findIdx? (·.1) = none)
    (h : ∀ h', Heap.ExtBut s.heap.objs.size s.heap h' → wpAny (model prog w) A (assignInOrder ((assignEach elts env).map (·.2)) items.toList) Q E { s with heap := h' }) :
    wpAny (model prog w) A (assign (.Tuple elts x1 pos) env (.ref t)) Q E s := by
  rw [arm_assign_Tuple]
  refine wpAny_bind (wpAny_standAt ?_)
  unfold unpack
  rw [hn, hstar]
  exact wpAny_bind (wpAny_holding (kun_itemsOf hh ht h))
theorem TgtG.list {w : Bool} {ts : List Expr} {k : Nat} {p : Pos} {ds : List D} {ρ' : Sto} (h : TgtsR w c sc ts ds ρ ρ') (hn : c.hn := by assumption) : TgtG w c sc (.Tuple ts k p) (.list ds) ρ ρ' := .mk fun A env V0 h0 Cs X s v hA hO F r => by
  replace r := r.inv
  obtain ⟨a, o, vs, nn, rfl, na, ho, hcl, hd, hdt, r⟩ := r
  have hl := h.length env
  refine assign_TupleL (items := vs) (hA.handled hn) ⟨o, ho, hcl, _, hdt⟩ (by rw [hl.1, r.length]; simp) hl.2 fun h' he => ?_
  have g := Gr.ext he
  exact wpAny_mono (h.wp hA hO (F.gr g) (r.gr g)) (fun _ s'' q => let ⟨X'', g', F''⟩ := q; ⟨X'', (Stp.of_gr g).trans g', F''⟩) fun _ _ q => q

/-- a, b, .. = x.pop(), of an own list of own lists -/
theorem Sx.popT {x : String} {q : Option Addr} {sl ins : List Slot} {ts : List Expr} {kk : Nat} {tp p ap pos apos : Pos} (hx : ρ.lookup x = some (.ownO q (sl ++ [.own ins]))) (ht : TgtR c sc (.Tuple ts kk tp) (.list (Slot.ds ins)) (setS ρ x (.ownO q sl)) ρ₂) (hz : sl.length ≤ 1000000) (hline : (ap.endLine == pos.line) = true := by rfl) (hxd : x ≠ "__debug__" := by decide)
    (hbase : ∀ env : Env, attributeBase (.Name (Str.ofString x) p) (Str.ofString "pop") env (eval (.Name (Str.ofString x) p) env) = eval (.Name (Str.ofString x) p) env := by intro _; rfl)
    (hs : ∀ env : Env, swapsWithSole [.Tuple ts kk tp] (.Call (.Attribute (.Name (Str.ofString x) p) (Str.ofString "pop") ap) [] [] pos) apos.line env = pure false := by intro _; rfl)
    (hw : ∀ env : Env, swappedStores [.Tuple ts kk tp] (.Call (.Attribute (.Name (Str.ofString x) p) (Str.ofString "pop") ap) [] [] pos) env = pure none := by intro _; rfl) :
    Sn c n sc ρ (.Assign [.Tuple ts kk tp] (.Call (.Attribute (.Name (Str.ofString x) p) (Str.ofString "pop") ap) [] [] pos) apos) ρ₂ := .mk fun A env V0 h0 Cs X s hA hO F => by
  refine hideG fun G KG => ?_
  obtain ⟨a, fpi, fps', O, hq⟩ := F.opnO hx
  refine KG ?_
  refine Assign_Tuple ?_ (hs env) (hw env)
  refine wpAny_Call_method (T := "list") (id := "list.pop") (hbase env) rfl hline PySem.F.plainAttrs_list PySem.F.slot_list_pop PySem.F.type_list_pop ?_
  refine O.load F hxd ?_
  refine hideG fun G KG => ?_
  obtain ⟨vs, mm, g4, g5⟩ := O.lst
  refine KG ?_
  refine ⟨⟨_, g4, rfl⟩, fun b hb => by cases hb; exact ⟨_, g4, rfl⟩, (Callee.builtin (c := c) "list.pop").wp (first := [.ref a]) rfl ?_⟩
  refine wpAny_items_nil ⟨F.base.trans F.keep, ?_⟩
  refine hideG fun G KG => ?_
  obtain ⟨ws, v, fp1, fp2, hvs, hfp, g6, rv⟩ := g5.lastS
  have hvs' : vs = (ws ++ [v]).toArray := by rw [← hvs]
  have hlw : sl.length = ws.length := g6.length
  have g4' := g4
  rw [hvs'] at g4'
  refine KG ?_
  refine pop_last g4' (by omega) fun h' n' hfin hsb => ?_
  have hnd2 := O.nd2
  rw [hfp] at hnd2
  have hn3 := List.nodup_cons.mp hnd2
  have hn4 := List.nodup_append.mp hn3.2
  have hcm : Calm (Vol V0 X) s { s with heap := h' } := calm_at (tk := s.toks) hsb (.inr O.aX) (Nat.le_refl _)
  have h1f : ∀ y ∈ fp1, y ∈ fpi := fun y hy => hfp ▸ List.mem_append_left _ hy
  have h2f : ∀ y ∈ fp2, y ∈ fpi := fun y hy => hfp ▸ List.mem_append_right _ hy
  have hold : ∀ y ∈ fpi, y ∈ X := fun y hy => O.sub y (.tail _ (List.mem_append_right _ (List.mem_append_left _ (.tail _ hy))))
  refine hideG fun G KG => ?_
  obtain ⟨t, F'⟩ := O.closeG F hq (.refl s) (sl' := sl) (vs' := ws.toArray) (n' := n') (fpi' := fp1) (tk := s.toks) (h' := h') (.head _) ⟨_, _, _, g4, rfl⟩ ⟨_, hfin⟩ hsb (Nat.le_refl _) hfin
    (fun y hy => .inl (h1f y hy)) hn4.1 (by
      exact g6.calm hcm (fun y e => e.imp id fun e => (List.mem_append.mp e).elim id fun e => hold y (h1f y e)) fun b hb o e => (hsb.2 b fun q => hn3.1 (q ▸ List.mem_append_left _ hb)).trans e)
  -- what was popped
  have hnd := List.nodup_cons.mp O.nd
  have hndb := List.nodup_append.mp hnd.2
  have hndc := List.nodup_append.mp hndb.2.1
  have hsubX : ∀ y ∈ env.locals :: (Cs.map (·.2) ++ ((a :: fp1) ++ fps')), y ∈ X ∧ y ∉ fp2 := fun y hy => by
    have inn : ∀ z ∈ fp2, z ∈ (a :: fpi) ++ fps' := fun z hz => List.mem_append_left _ (.tail _ (h2f z hz))
    rcases List.mem_cons.mp hy with e | hy
    · exact ⟨O.sub y (e ▸ .head _), fun e2 => hnd.1 (e ▸ List.mem_append_right _ (inn y e2))⟩
    · rcases List.mem_append.mp hy with hy | hy
      · exact ⟨O.sub y (.tail _ (List.mem_append_left _ hy)), fun e2 => hndb.2.2 y hy y (inn y e2) rfl⟩
      · rcases List.mem_append.mp hy with hy | hy
        · rcases List.mem_cons.mp hy with e | hy
          · exact ⟨e ▸ O.aX, fun e2 => hn3.1 (e ▸ List.mem_append_right _ e2)⟩
          · exact ⟨hold y (h1f y hy), fun e2 => hn4.2.2 y hy y e2 rfl⟩
        · exact ⟨O.sub y (.tail _ (List.mem_append_right _ (List.mem_append_right _ hy))), fun e2 => hndc.2.2 y (.tail _ (h2f y e2)) y hy rfl⟩
  have rz : Rep c (Vol V0 (env.locals :: (Cs.map (·.2) ++ ((a :: fp1) ++ fps')))) s (.list (Slot.ds ins)) v := rv.freeze (fun y e => e.imp id fun e => (hsubX y e).1) fun y hy e => by
    rcases e with e | e
    · exact (F.live0 y e).2 (hold y (h2f y hy))
    · exact (hsubX y e).2 hy
  have rz' : Rep c (Vol V0 (env.locals :: (Cs.map (·.2) ++ ((a :: fp1) ++ fps')))) { s with heap := h' } (.list (Slot.ds ins)) v :=
    rz.calm (calm_at (tk := s.toks) hsb (.inr (.tail _ (List.mem_append_right _ (List.mem_append_left _ (.head _))))) (Nat.le_refl _)) fun _ q => q
  refine KG ?_
  refine wpAny_mono (ht.run A env V0 h0 Cs _ _ v hA.zero (fun _ => hO.own) F' rz') (fun _ s₂ q₂ => ?_) fun _ _ q => q
  obtain ⟨X', g, F₂⟩ := q₂
  exact ⟨X', ρ₂, .next, t.trans g, F₂, .next, rfl, rfl⟩

/-- an own list at a place of an own list -/
inductive InnR (c : Cx) (V : Addr → Prop) (s : Shared) (inner sl : List Slot) (vs : List Value) (fp : List Addr) (j : Nat) : Prop
  | mk (b : Addr) (ws : Array Value) (nn : Nat) (fpj : List Addr) (h1 : vs[j]? = some (.ref b)) (h2 : b ∈ fp) (h3 : s.heap.get? b = some { cls := .type "list", data := .seq ws nn }) (h4 : RepSL c V s inner ws.toList fpj) (h5 : (b :: fpj).Nodup) (h6 : ∀ x ∈ fpj, x ∈ fp)
      (h7 : ∀ (s' : Shared) (inner' : List Slot) (ws' : Array Value) (nn' : Nat), Calm V s s' → (∀ x ∈ fp, x ∉ b :: fpj → ∀ o, s.heap.get? x = some o → s'.heap.get? x = some o) → s'.heap.get? b = some { cls := .type "list", data := .seq ws' nn' } → RepSL c V s' inner' ws'.toList fpj → RepSL c V s' (sl.set j (.own inner')) vs fp) : InnR c V s inner sl vs fp j
/-- the own list at a place of an own list; what lies in it may turn -/
theorem RepSL.innerG {V : Addr → Prop} {s : Shared} {inner sl : List Slot} : ∀ {vs fp} {j : Nat}, RepSL c V s sl vs fp → fp.Nodup → sl[j]? = some (.own inner) → InnR c V s inner sl vs fp j := by
  induction sl with
  | nil => intro vs fp j _ _ h; cases h
  | cons s0 sl ih =>
    intro vs fp j r0 hn h
    refine hideG fun G KG => ?_
    obtain ⟨v, vs', fp0, fps, rfl, rfl, r, rs⟩ := r0.inv
    have hn1 := List.nodup_append.mp hn
    cases j with
    | zero =>
      cases h
      obtain ⟨a, o, vs, nn, fpi, rfl, rfl, _, ho, hcl, hd, hdt, rs'⟩ := r.inv
      refine KG ⟨a, vs, nn, fpi, rfl, List.mem_append_left _ (.head _), by rw [← obj_eq hcl hd hdt]; exact ho, rs', hn1.1, fun x hx => List.mem_append_left _ (.tail _ hx), fun s' inner' ws' nn' hc hk hb hr => ?_⟩
      exact .cons (.own hb rfl ⟨rfl, rfl⟩ rfl hr) (rs.calm hc (fun _ q => q) fun x hx o e => hk x (List.mem_append_right _ hx) (fun q => hn1.2.2 x q x hx rfl) o e)
    | succ j =>
      obtain ⟨b, ws, nn, fpj, h1, h2, h3, h4, h5, h6, h7⟩ := ih (j := j) rs hn1.2.1 h
      refine KG ⟨b, ws, nn, fpj, h1, List.mem_append_right _ h2, h3, h4, h5, fun x hx => List.mem_append_right _ (h6 x hx), fun s' inner' ws' nn' hc hk hb hr => ?_⟩
      refine .cons (r.calm hc (fun _ q => q) fun x hx o e => hk x (List.mem_append_left _ hx) (fun q => ?_) o e) (h7 s' inner' ws' nn' hc (fun x hx => hk x (List.mem_append_right _ hx)) hb hr)
      exact (List.mem_cons.mp q).elim (fun q => hn1.2.2 x hx b h2 q) fun q => hn1.2.2 x hx x (h6 x q) rfl
end
end Mine
namespace Mine
section
variable {c : Cx} {n : Nat} {sc : Scope} {k : Bool} {ρ ρ' ρ₂ : Sto} {P P' : AF → Sto → Prop} {env : Env} {V0 : Addr → Prop} {h0 : Heap} {Cs : List (Str × Addr)} {X : List Addr} {s s₁ : Shared} {A : Around}

/-- x[-1][j].append(e), all own lists -/
theorem Sx.append3 {x : String} {q : Option Addr} {ie je e : Expr} {p sp sp2 ap pos epos : Pos} {sl ins inner : List Slot} {j : Nat} {d : D} (hx : ρ.lookup x = some (.ownO q (sl ++ [.own ins]))) (hi : Ev c n sc true ρ ie (.int (-1))) (hji : Ev c n sc true ρ je (.int j)) (hj : ins[j]? = some (.own inner)) (h : Ev c n sc true ρ e d) (hz : inner.length ≤ 16777216) (hzo : sl.length ≤ 1000000) (hzi : ins.length ≤ 1000000) (hp : plainE e = true := by rfl) (hline : (ap.endLine == pos.line) = true := by rfl) (hxd : x ≠ "__debug__" := by decide)
    (hbase : ∀ env : Env, attributeBase (.Subscript (.Subscript (.Name (Str.ofString x) p) ie sp) je sp2) (Str.ofString "append") env (eval (.Subscript (.Subscript (.Name (Str.ofString x) p) ie sp) je sp2) env) = eval (.Subscript (.Subscript (.Name (Str.ofString x) p) ie sp) je sp2) env := by intro _; rfl)
    (hsub : ∀ o i, subscripted ie false o i = operate [o, i] (getItem o i) := by intro _ _; rfl) (hsub2 : ∀ o i, subscripted je false o i = operate [o, i] (getItem o i) := by intro _ _; rfl)
    (hs : ∀ env : Env, swapsWith (.Call (.Attribute (.Subscript (.Subscript (.Name (Str.ofString x) p) ie sp) je sp2) (Str.ofString "append") ap) [e] [] pos) none epos.line env = pure false := by intro _; rfl) :
    Sn c n sc ρ (.Expr (.Call (.Attribute (.Subscript (.Subscript (.Name (Str.ofString x) p) ie sp) je sp2) (Str.ofString "append") ap) [e] [] pos) epos) (setS ρ x (.ownO q (sl ++ [.own (ins.set j (.own (inner ++ [.val d])))]))) := .mk fun A env V0 h0 Cs X s hA hO F => by
  refine hideG fun G KG => ?_
  obtain ⟨a, fpi, fps', O, hq⟩ := F.opnO hx
  have hint : interactive env = false := by
    unfold interactive
    rw [F.scope, F.kind]; rfl
  have hjl : j < ins.length := (List.getElem?_eq_some_iff.mp hj).1
  have hout : (sl ++ [Slot.own ins])[sl.length]? = some (.own ins) := by simp
  refine KG ?_
  refine wpAny_Expr ?_ hint (hs env)
  refine wpAny_Call_method (T := "list") (id := "list.append") (hbase env) ?_ hline PySem.F.plainAttrs_list PySem.F.slot_list_append PySem.F.type_list_append ?_
  · rw [starEach_cons hp]; rfl
  have hnd : fpi.Nodup := (List.nodup_cons.mp O.nd2).2
  refine Subscript_ (Subscript_ (O.load F hxd (wpAny_mono (hi.run A env V0 h0 Cs X s hA F) (fun iv s₁ q₁ => ?_) fun _ _ q => q)))
  refine hideG fun G KG => ?_
  obtain ⟨g₁, r₁⟩ := q₁
  obtain ⟨_, rfl⟩ := r₁.inv
  obtain ⟨vs, nn, h4, h5⟩ := (O.gr g₁).lst
  obtain ⟨b, ws, nb, fpb, i1, i2, i3, i4, i5, i6, i7⟩ := h5.innerG hnd hout
  have hlv : vs.size = sl.length + 1 := by have := h5.length; simp at this; omega
  refine KG ?_
  refine tail_any ⟨_, h4, rfl⟩ slot_list_getitem.lookup ?_ (hsub _ _)
  refine wpAny_getItem_list_neg ⟨_, h4, rfl, _, rfl⟩ (by omega) (by omega) (by omega) (x := .ref b) (by
    rw [show (-1 + (vs.size : Int)).toNat = sl.length by omega, ← Array.getElem?_toList]; exact i1) ?_
  -- the second index
  refine wpAny_mono (hji.run A env V0 h0 Cs X s₁ hA (F.gr g₁)) (fun jv s₂ q₂ => ?_) fun _ _ q => q
  refine hideG fun G KG => ?_
  obtain ⟨g₂, r₂⟩ := q₂
  obtain ⟨_, rfl⟩ := r₂.inv
  have gg := g₁.trans g₂
  have i3' := g₂.keep _ _ i3
  have i4' := i4.gr g₂
  obtain ⟨d2, ws2, nd2, fpd, j1, j2, j3, j4, j5, j6, j7⟩ := i4'.innerG (List.nodup_cons.mp i5).2 hj
  refine KG ?_
  refine tail_any ⟨_, i3', rfl⟩ slot_list_getitem.lookup ?_ (hsub2 _ _)
  have hlw : ws.size = ins.length := by have := i4.length; simpa using this.symm
  refine wpAny_getItem_list ⟨_, i3', rfl, _, rfl⟩ (by omega) (by omega) (by rw [Int.toNat_natCast, ← Array.getElem?_toList]; exact j1) ?_
  refine ⟨⟨_, j3, rfl⟩, fun y hy => by cases hy; exact ⟨_, j3, rfl⟩, (Callee.builtin (c := c) "list.append").wp (first := [.ref d2]) (by simp [hp]) ?_⟩
  refine wpAny_items_cons (wpAny_mono (h.run A env V0 h0 Cs X s₂ hA (F.gr gg)) (fun v s₃ q₃ => wpAny_items_nil ⟨(F.gr (gg.trans q₃.1)).base.trans (F.gr (gg.trans q₃.1)).keep, ?_⟩) fun _ _ q => q.elim) (starEach_cons hp)
  refine hideG fun G KG => ?_
  obtain ⟨g₃, rv⟩ := q₃
  have g := gg.trans g₃
  have hl := j4.length
  have k3 := g₃.keep _ _ j3
  refine KG ?_
  refine append_wp k3 rfl ⟨rfl, rfl⟩ rfl (fun h' o' n' e1 e2 e3 e4 e5 => ?_) (by simp at hl; omega)
  have hold : ∀ y ∈ fpi, y ∈ X := fun y hy => O.sub y (.tail _ (List.mem_append_right _ (List.mem_append_left _ (.tail _ hy))))
  have hd2b : d2 ∈ fpb := j2
  have hd2f : d2 ∈ fpi := i6 _ hd2b
  have hcm : Calm (Vol V0 X) s₃ { s₃ with heap := h' } := calm_at (tk := s₃.toks) e5 (.inr (hold _ hd2f)) (Nat.le_refl _)
  have hbd : b ≠ d2 := fun e => (List.nodup_cons.mp i5).1 (e ▸ hd2b)
  have had : a ≠ d2 := fun e => (List.nodup_cons.mp O.nd2).1 (e ▸ hd2f)
  -- at what time things lay where
  refine hideG fun G KG => ?_
  obtain ⟨vs0, nn0, h40, h50⟩ := O.lst
  have hvv : vs0 = vs := by
    have e := g₁.keep _ _ h40
    rw [h4] at e; cases e; rfl
  have c12 : Calm (Vol V0 X) s₁ { s₃ with heap := h' } := ⟨Nat.le_trans (g₂.trans g₃).tok (Nat.le_refl _), fun y o ny e hd => hcm.2 y o ny ((g₂.trans g₃).keep _ _ e) hd⟩
  have c23 : Calm (Vol V0 X) s₂ { s₃ with heap := h' } := ⟨Nat.le_trans g₃.tok (Nat.le_refl _), fun y o ny e hd => hcm.2 y o ny (g₃.keep _ _ e) hd⟩
  have hinner : RepSL c (Vol V0 X) { s₃ with heap := h' } (inner ++ [.val d]) (ws2.push v).toList fpd := by
    rw [Array.toList_push]
    exact (RepSL.snoc (rv.weak fun _ q => ⟨rfl, q⟩) (j4.gr g₃)).calm hcm (fun _ q => q) fun y hy o e => (e5.2 y fun q => (List.nodup_cons.mp j5).1 (q ▸ hy)).trans e
  have hmid : RepSL c (Vol V0 X) { s₃ with heap := h' } (ins.set j (.own (inner ++ [.val d]))) ws.toList fpb :=
    j7 _ _ (ws2.push v) n' c23 (fun y hy hny o e => (e5.2 y fun q => hny (q ▸ .head _)).trans (g₃.keep _ _ e)) (by rw [← obj_eq e2 e3 e4]; exact e1) hinner
  have hfin : RepSL c (Vol V0 X) { s₃ with heap := h' } ((sl ++ [Slot.own ins]).set sl.length (.own (ins.set j (.own (inner ++ [.val d]))))) vs.toList fpi :=
    i7 _ _ ws nb c12 (fun y hy hny o e => (e5.2 y fun q => hny (q ▸ .tail _ hd2b)).trans ((g₂.trans g₃).keep _ _ e)) ((e5.2 b hbd).trans ((g₂.trans g₃).keep _ _ i3)) hmid
  have hset : (sl ++ [Slot.own ins]).set sl.length (.own (ins.set j (.own (inner ++ [.val d])))) = sl ++ [.own (ins.set j (.own (inner ++ [.val d])))] := by simp
  rw [hset] at hfin
  obtain ⟨ob, hob⟩ : ∃ xs nn, s.heap.get? d2 = some { cls := .type "list", data := .seq xs nn } := by
    obtain ⟨b0, ws0, nb0, fpb0, u1, u2, u3, u4, u5, u6, u7⟩ := h50.innerG hnd hout
    obtain ⟨e0, ws20, nd20, fpd0, w1, w2, w3, w4, w5, w6, w7⟩ := u4.innerG (List.nodup_cons.mp u5).2 hj
    have hb0 : b0 = b := by rw [hvv, i1] at u1; injection u1 with u1; injection u1 with u1; exact u1.symm
    subst hb0
    have e1 := g₁.keep _ _ u3
    rw [i3] at e1; cases e1
    have he0 : e0 = d2 := by rw [j1] at w1; injection w1 with w1; injection w1 with w1; exact w1.symm
    subst he0
    exact ⟨_, _, w3⟩
  obtain ⟨nn1, hob⟩ := hob
  obtain ⟨t, F'⟩ := O.closeG F hq g (b := d2) (sl' := sl ++ [.own (ins.set j (.own (inner ++ [.val d])))]) (vs' := vs) (n' := nn) (fpi' := fpi) (tk := s₃.toks) (h' := h') (.tail _ hd2f) ⟨_, _, _, hob, rfl⟩ ⟨_, e1⟩ e5 (Nat.le_refl _) ((e5.2 a had).trans ((g₂.trans g₃).keep _ _ h4))
    (fun y hy => .inl hy) hnd (hfin.calm (Gr.calm (.refl _) _) (fun y e => e.imp id fun e => (List.mem_append.mp e).elim id (hold y)) fun _ _ _ e => e)
  refine KG ?_
  exact ⟨_, _, .next, t, F', .next, rfl, rfl⟩
end
end Mine
namespace Mine

/-- f called with own lists turns them and gives None -/
structure FnS (c : Cx) (n : Nat) (f : Value) (sls sls' : List Slot) : Prop where
  run : ∀ A V s vs fp, Room c n A → St c V s → (∀ a ∈ fp, ¬ V a) → fp.Nodup → (∀ a ∈ fp, c.base.get? a = none) → RepSL c (fun a => V a ∨ a ∈ fp) s sls vs fp →
    wpAny c.M A (call f vs) (fun v s' => v = .none ∧ ∃ fp', Stp fp s fp' s' ∧ RepSL c (fun a => V a ∨ a ∈ fp') s' sls' vs fp' ∧ fp'.Nodup) (fun _ _ => False) s

theorem RepSL.nocell {c V s sl v fp} (r : RepSL c V s sl v fp) (a : Addr) (ha : a ∈ fp) (o : Obj) (w : Option Value) (e : s.heap.get? a = some o) : o.data ≠ .cell w := fun q =>
  let ⟨o', _, _, e', hd⟩ := r.seq a ha; nomatch ((congrArg Obj.data (Option.some.inj (e.symm.trans e'))).symm.trans q).symm.trans hd
section
variable {c : Cx} {n : Nat} {sc : Scope} {ρ : Sto}

/-- what a frame leaves of its two own lists -/
theorem Fm.leftS {env V h0 X X' s₁ s'} {s : Shared} {fp : List Addr} {x y : String} {p q : Addr} {sl' tl' : List Slot} {ρ' : Sto} (g : Gr s s₁) (hXc : ∀ a ∈ X, s.heap.get? a = none ∨ a ∈ fp) (hfX : ∀ a ∈ fp, a ∈ X)
    (hkeep : ∀ b o, b ∉ fp → s.heap.get? b = some o → s'.heap.get? b = some o) (t : Stp X s₁ X' s') (F : Fm c sc env V h0 env.cells X' ρ' s') (hs : SubS [(x, .ownO (some p) sl'), (y, .ownO (some q) tl')] ρ') :
    ∃ fp', Stp fp s fp' s' ∧ RepSL c (fun a => V a ∨ a ∈ fp') s' [.own sl', .own tl'] [.ref p, .ref q] fp' ∧ fp'.Nodup := by
  obtain ⟨X'', hsub, F''⟩ := Ent.sub (c := c) (sc := sc) hs env V h0 env.cells X' s' F
  obtain ⟨m, fps, h1, h2, h3, h4, h6, h5⟩ := F''.sto
  have hfp' : ∀ a ∈ fps, a ∈ X'' := fun a ha => h2 ▸ .tail _ (List.mem_append_right _ ha)
  have hr : ∀ W : Addr → Prop, (∀ a, W a → Vol V X'' a) → RepSL c W s' [.own sl', .own tl'] [.ref p, .ref q] fps := fun W hW => by
    have key : ∀ {o : Addr} {l : List Slot} {v : Value} {fp : List Addr}, RepS c (Vol V X'') s' (.ownO (some o) l) v fp → v = .ref o ∧ RepS c W s' (.own l) v fp := fun r => by
      obtain ⟨a, o', vs, nn, fpi, rfl, rfl, hq, ho, hcl, hd, hdt, rr⟩ := r.inv
      exact ⟨by rw [hq _ rfl], .own ho hcl hd hdt (rr.calm (Gr.calm (.refl _) _) hW fun _ _ _ e => e)⟩
    cases h5 with
    | cons l r rs => cases rs with
      | cons l2 r2 rs =>
        cases rs
        rw [← (key r).1, ← (key r2).1]
        exact .cons (key r).2 (.cons (key r2).2 .nil)
  refine ⟨_, ⟨fun b o h e => hkeep b o h e, Nat.le_trans g.tok t.tok, t.gens.trans g.gens, t.os.trans g.os, fun b hb => ?_, fun b hb o e => t.live b (hfX b hb) o (g.keep _ _ e)⟩, hr _ fun a q => q.imp id (hfp' a), (List.nodup_append.mp (List.nodup_cons.mp (h2 ▸ h3)).2).2.1⟩
  rcases t.new b (hsub b (hfp' b hb)) with q | q
  · exact (hXc b q).symm
  · refine .inr ?_
    cases e : s.heap.get? b with
    | none => rfl
    | some o => rw [g.keep _ _ e] at q; cases q

theorem FnS.def {a : Addr} {x y : String} {body : List Stmt} {sl sl' tl tl' : List Slot} (hd : IsDef c a sc [x, y] body)
    (h : ∀ p q, Tr c n sc [(x, .ownO (some p) sl), (y, .ownO (some q) tl)] body fun af ρ' => (∀ d', af ≠ .ret d') ∧ SubS [(x, .ownO (some p) sl'), (y, .ownO (some q) tl')] ρ') : FnS c (n + 1) (.ref a) [.own sl, .own tl] [.own sl', .own tl'] := .mk fun A V s vs fp hA hS hfV hfn hfb r => by
  refine hideG fun G KG => ?_
  obtain ⟨p, q, rfl, r'⟩ : ∃ p q, vs = [.ref p, .ref q] ∧ RepSL c (fun a => V a ∨ a ∈ fp) s [.ownO (some p) sl, .ownO (some q) tl] vs fp := by
    obtain ⟨v, _, fp1, _, rfl, rfl, r1, rs1⟩ := r.inv
    obtain ⟨v2, _, fp2, _, rfl, rfl, r2, rs2⟩ := rs1.inv
    obtain ⟨rfl, rfl⟩ := rs2.inv
    have key : ∀ {l : List Slot} {v : Value} {fp' : List Addr}, RepS c (fun a => V a ∨ a ∈ fp1 ++ (fp2 ++ [])) s (.own l) v fp' → ∃ p, v = .ref p ∧ RepS c (fun a => V a ∨ a ∈ fp1 ++ (fp2 ++ [])) s (.ownO (some p) l) v fp' := fun r => by
      obtain ⟨a, o', vs, nn, fpi, rfl, rfl, hq, ho, hcl, hd, hdt, rr⟩ := r.inv
      exact ⟨a, rfl, .ownO (fun _ e => Option.some.inj e.symm) ho hcl hd hdt rr⟩
    obtain ⟨p, e1, k1⟩ := key r1
    obtain ⟨q, e2, k2⟩ := key r2
    exact ⟨p, q, by rw [e1, e2], .cons k1 (.cons k2 .nil)⟩
  refine KG ?_
  refine wpAny_with_toks (Nat.le_refl _) (wpAny_call (codeAny_mono (fn_enterSC (args := ⟨[.ref p, .ref q], []⟩) (Q := fun v s' => v = .none ∧ ∃ fp', Stp fp s fp' s' ∧ RepSL c (fun a => V a ∨ a ∈ fp') s' [.own sl', .own tl'] [.ref p, .ref q] fp' ∧ fp'.Nodup) (E := fun _ _ => False) (hd.toIsDefL.toB rfl) rfl hA hS hfV hfn hfb r' fun env X s₁ hf hnl' g F hO hXc hfX => ?_) fun r s' q => ?_))
  · refine wpAny_mono ((h p q).run (A.deeper env) env V _ env.cells X s₁ (hA.deeper env) ⟨hO, fun e => absurd e hd.nl⟩ F) (fun f s' qq _ => ?_) fun _ _ q => q.elim
    obtain ⟨X', ρ', af, t, F', hfl, hp, hs⟩ := qq
    refine ⟨?_, Fm.leftS g hXc hfX (fun b o hb e => F'.keep b o (hideAll_get _ e hb)) t F' hs⟩
    cases hfl with
    | ret r' => exact absurd rfl (hp _)
    | _ => rfl
  · cases r with
    | error e => exact q
    | ok f =>
      cases f with
      | ret v => exact q
      | _ => exact q.elim

/-- f(x, y), own lists -/
theorem Sx.callS {x y : String} {f : Expr} {fa : Addr} {sl sl' tl tl' : List Slot} {xp yp cp epos : Pos} (hxy : x ≠ y) (hx : ρ.lookup x = some (.own sl)) (hy : ρ.lookup y = some (.own tl)) (hf : Ev c n sc true ρ f (.val (.ref fa))) (hc : Callee c (.ref fa)) (h : FnS c n (.ref fa) [.own sl, .own tl] [.own sl', .own tl'])
    (hxd : x ≠ "__debug__" := by decide) (hyd : y ≠ "__debug__" := by decide)
    (he : ∀ env : Env, eval (.Call f [.Name (Str.ofString x) xp, .Name (Str.ofString y) yp] [] cp) env = (do callWith cp (← eval f env) [] (backTo cp (starEach [.Name (Str.ofString x) xp, .Name (Str.ofString y) yp] env)) (backToKw cp (keywordEach [] env))) := by intro _; rfl)
    (hsw : ∀ env : Env, swapsWith (.Call f [.Name (Str.ofString x) xp, .Name (Str.ofString y) yp] [] cp) none epos.line env = pure false := by intro _; rfl) :
    Sn c n sc ρ (.Expr (.Call f [.Name (Str.ofString x) xp, .Name (Str.ofString y) yp] [] cp) epos) (setS (setS ρ x (.own sl')) y (.own tl')) := .mk fun A env V0 h0 Cs X s hA hO F => by
  have hi : interactive env = false := by
    unfold interactive
    rw [F.scope, F.kind]; rfl
  refine wpAny_Expr_any ?_ hi (hsw env)
  rw [he]
  refine wpAny_bind (wpAny_mono (hf.run A env V0 h0 Cs X s hA F) (fun fv s₁ q₁ => ?_) fun _ _ q => q.elim)
  refine hideG fun G KG => ?_
  obtain ⟨g₁, r₁⟩ := q₁
  cases r₁.inv
  have F₁ := F.gr g₁
  obtain ⟨m, fps, h1, h2, h3, h4, h6, h5⟩ := F₁.sto
  obtain ⟨v, fp, fps', rest, l, rx, r, hp⟩ := h5.take hx
  obtain ⟨v2, fp2, fps'', rest2, l2, rx2, r2, hp2⟩ := r.take ((delS_lookup (Ne.symm hxy) ρ).trans hy)
  have hfk : env.scope.kind = .function := by rw [F.scope]; exact F.kind
  refine KG ?_
  refine hc.wp rfl (wpAny_items_cons (wpAny_Name (l.load hfk h1 (wpAny_items_cons (wpAny_Name (l2.load hfk h1 (wpAny_items_nil ⟨F₁.base.trans F₁.keep, ?_⟩)) (ofString_ne hyd)) (starEach_cons rfl))) (ofString_ne hxd)) (starEach_cons rfl))
  -- the places
  have hpm : ((rest ++ rest2) ++ (env.locals :: (Cs.map (·.2) ++ ((fp ++ fp2) ++ fps'')))).Perm (env.locals :: (Cs.map (·.2) ++ fps)) := by
    refine List.perm_middle.trans (List.Perm.cons _ ?_)
    refine (List.perm_append_comm_assoc (rest ++ rest2) _ _).trans (List.Perm.append_left _ ?_)
    have e1 : ((rest ++ rest2) ++ ((fp ++ fp2) ++ fps'')).Perm (rest ++ (fp ++ (rest2 ++ (fp2 ++ fps'')))) := by
      rw [List.append_assoc, List.append_assoc]
      exact List.Perm.append_left _ (List.perm_append_comm_assoc rest2 fp _)
    exact (e1.trans (List.Perm.append_left _ (List.Perm.append_left _ hp2))).trans hp
  have hx1 : (env.locals :: (Cs.map (·.2) ++ fps)).Nodup := h2 ▸ h3
  have hnd0 := (List.nodup_append.mp (hpm.nodup_iff.mpr hx1)).2.1
  have hsubX : ∀ b ∈ env.locals :: (Cs.map (·.2) ++ ((fp ++ fp2) ++ fps'')), b ∈ X := fun b hb => h2 ▸ hpm.subset (List.mem_append_right _ hb)
  have hnd := List.nodup_cons.mp hnd0
  have hnd2 := List.nodup_append.mp hnd.2
  have hnd3 := List.nodup_append.mp hnd2.2.1
  have hfpX : ∀ b ∈ fp ++ fp2, b ∈ X := fun b hb => hsubX b (.tail _ (List.mem_append_right _ (List.mem_append_left _ hb)))
  have hLX : env.locals ∈ X := hsubX _ (.head _)
  have hLfp : env.locals ∉ fp ++ fp2 := fun q => hnd.1 (List.mem_append_right _ (List.mem_append_left _ q))
  have rr : RepSL c (Vol V0 X) s₁ [.own sl, .own tl] [v, v2] (fp ++ fp2) := by
    have := RepSL.cons rx (RepSL.cons rx2 (.nil (c := c) (V := Vol V0 X) (s := s₁)))
    rw [List.append_nil] at this; exact this
  refine wpAny_mono (h.run A (fun a => Vol V0 X a ∧ a ∉ fp ++ fp2) s₁ [v, v2] (fp ++ fp2) hA ((F₁.st true).weak fun a q => ⟨rfl, q.1⟩) (fun a ha q => q.2 ha) hnd3.1 (fun a ha => ?_) (rr.calm (Gr.calm (.refl _) _) (fun a q => ?_) fun _ _ _ e => e)) (fun w s' q => ?_) fun _ _ q => q.elim
  · cases e : c.base.get? a with
    | none => rfl
    | some o => have := F.base a o e; rw [F.new a (hfpX a ha)] at this; cases this
  · rcases q with q | q
    · exact q.1
    · exact .inr (hfpX a q)
  refine hideG fun G KG => ?_
  obtain ⟨rfl, fp', t, rn, hn⟩ := q
  have hcalm : ∀ b o, ¬ Vol V0 X b → s₁.heap.get? b = some o → s'.heap.get? b = some o := fun b o nb e => t.keep b o (fun q => nb (.inr (hfpX b q))) e
  have hofs : ∀ b o, b ∉ fp ++ fp2 → s₁.heap.get? b = some o → s'.heap.get? b = some o := fun b o h1 e => t.keep b o h1 e
  have hfresh : ∀ b ∈ fp', b ∉ fp ++ fp2 → b ∉ X := fun b hb hnb q => by
    rcases t.new b hb with q' | q'
    · exact hnb q'
    · obtain ⟨o, e⟩ := h4 b q; rw [q'] at e; cases e
  have hfpq : ∀ b ∈ fp', ∀ b', b' ∈ env.locals :: (Cs.map (·.2) ++ fps'') → b ≠ b' := fun b hb b' hb' q => by
    subst q
    have hbX : b ∈ X := hsubX b (by
      rcases List.mem_cons.mp hb' with q | q
      · exact q ▸ .head _
      · refine .tail _ ?_
        rcases List.mem_append.mp q with q | q
        · exact List.mem_append_left _ q
        · exact List.mem_append_right _ (List.mem_append_right _ q))
    by_cases hbf : b ∈ fp ++ fp2
    · rcases List.mem_cons.mp hb' with q | q
      · exact hLfp (q ▸ hbf)
      · rcases List.mem_append.mp q with q | q
        · exact hnd2.2.2 b q b (List.mem_append_left _ hbf) rfl
        · exact hnd3.2.2 b hbf b q rfl
    · exact hfresh b hb hbf hbX
  have hXn : (env.locals :: (Cs.map (·.2) ++ (fp' ++ fps''))).Nodup := by
    refine List.nodup_cons.mpr ⟨fun q => ?_, List.nodup_append.mpr ⟨hnd2.1, List.nodup_append.mpr ⟨hn, hnd3.2.1, fun a ha b hb e => ?_⟩, fun a ha b hb e => ?_⟩⟩
    · rcases List.mem_append.mp q with q | q
      · exact hnd.1 (List.mem_append_left _ q)
      · rcases List.mem_append.mp q with q | q
        · exact hfpq _ q _ (.head _) rfl
        · exact hnd.1 (List.mem_append_right _ (List.mem_append_right _ q))
    · exact hfpq a ha b (.tail _ (List.mem_append_right _ hb)) e
    · rcases List.mem_append.mp hb with q | q
      · exact hfpq b q a (.tail _ (List.mem_append_left _ ha)) e.symm
      · exact hnd2.2.2 a ha b (List.mem_append_right _ q) e
  have hsub : ∀ b ∈ env.locals :: (Cs.map (·.2) ++ (fp' ++ fps'')), b ∈ X ∨ (b ∈ fp' ∧ s₁.heap.get? b = Option.none) := fun b hb => by
    rcases List.mem_cons.mp hb with q | q
    · exact .inl (q ▸ hLX)
    · rcases List.mem_append.mp q with q | q
      · exact .inl (hsubX b (.tail _ (List.mem_append_left _ q)))
      · rcases List.mem_append.mp q with q | q
        · rcases t.new b q with q' | q'
          · exact .inl (hfpX b q')
          · exact .inr ⟨q, q'⟩
        · exact .inl (hsubX b (.tail _ (List.mem_append_right _ (List.mem_append_right _ q))))
  have hns : s'.heap.Ns env.locals m := by
    obtain ⟨o, es, ep, ho, hd, r⟩ := h1
    exact ⟨o, es, ep, hofs _ o hLfp ho, hd, r⟩
  have hcell : ∀ b o w, s₁.heap.get? b = some o → o.data = .cell w → s'.heap.get? b = some o := fun b o w e hw => hofs b o (fun q => rr.nocell b q o w e hw) e
  have h30 : ∀ a o, h0.get? a = some o → a ∉ X := fun a o e q => by rw [F.new a q] at e; cases e
  have hvol : ∀ b, Vol V0 (env.locals :: (Cs.map (·.2) ++ (fp' ++ fps''))) b → Vol V0 X b ∨ (b ∈ fp' ∧ s₁.heap.get? b = Option.none) := fun b q => by
    rcases q with q | q
    · exact .inl (.inl q)
    · rcases hsub b q with q' | q'
      · exact .inl (.inr q')
      · exact .inr q'
  have h3' : StoR c env (fun a => Vol V0 X a ∨ (a ∈ fp' ∧ s₁.heap.get? a = Option.none)) s₁ m (delS y (delS x ρ)) fps'' := r2.ext fun a q => q.2
  have rest' : StoR c env (Vol V0 (env.locals :: (Cs.map (·.2) ++ (fp' ++ fps'')))) s' m (delS y (delS x ρ)) fps'' :=
    StoR.weak hvol (h3'.change ⟨t.tok, fun b o nb e _ => hcalm b o (fun q => nb (.inl q)) e⟩ (fun b hb o e => hofs b o (fun q => hnd3.2.2 b q b hb rfl) e) (fun _ _ _ => rfl) fun p hp b o w _ e hw => hcell b o w e hw)
  have rn' : RepSL c (Vol V0 (env.locals :: (Cs.map (·.2) ++ (fp' ++ fps'')))) s' [.own sl', .own tl'] [v, v2] fp' := by
    refine rn.calm (Gr.calm (.refl _) _) (fun a q => ?_) fun _ _ _ e => e
    by_cases hb : a ∈ fp'
    · exact .inr hb
    · rcases hvol a q with q | q
      · by_cases hb2 : a ∈ fp ++ fp2
        · exfalso
          -- a place of the two lists that was let go of lies nowhere else
          rcases q with q | _
          · exact (F.live0 a q).2 (hfpX a hb2)
          · rcases ‹Vol V0 (env.locals :: (Cs.map (·.2) ++ (fp' ++ fps''))) a› with q | q
            · exact (F.live0 a q).2 (hfpX a hb2)
            · rcases List.mem_cons.mp q with q | q
              · exact hLfp (q ▸ hb2)
              · rcases List.mem_append.mp q with q | q
                · exact hnd2.2.2 a q a (List.mem_append_left _ hb2) rfl
                · rcases List.mem_append.mp q with q | q
                  · exact hb q
                  · exact hnd3.2.2 a hb2 a q rfl
        · exact .inl ⟨q, hb2⟩
      · exact .inr q.1
  have hlx : Loc env s' m x v := l.calm (fun _ => rfl) fun b o w _ e hw => hcell b o w e hw
  have hly : Loc env s' m y v2 := l2.calm (fun _ => rfl) fun b o w _ e hw => hcell b o w e hw
  have hdel : delS y ((x, Slot.own sl') :: delS x ρ) = (x, Slot.own sl') :: delS y (delS x ρ) := by
    show (if x = y then _ else _) = _
    rw [if_neg hxy]
  cases rn' with
  | @cons _ _ fa1 _ _ _ ra1 rb1 => cases rb1 with
    | @cons _ _ fb1 _ _ _ ra2 rb2 =>
      cases rb2
      -- the order of the places
      have hpe : (env.locals :: (Cs.map (·.2) ++ (fb1 ++ (fa1 ++ fps'')))).Perm (env.locals :: (Cs.map (·.2) ++ ((fa1 ++ (fb1 ++ [])) ++ fps''))) := by
        refine List.Perm.cons _ (List.Perm.append_left _ ?_)
        rw [List.append_nil, ← List.append_assoc]
        exact List.Perm.append_right _ List.perm_append_comm
      have hmem : ∀ b, b ∈ env.locals :: (Cs.map (·.2) ++ (fb1 ++ (fa1 ++ fps''))) → b ∈ env.locals :: (Cs.map (·.2) ++ ((fa1 ++ (fb1 ++ [])) ++ fps'')) := fun b hb => hpe.subset hb
      have hal := rn.alive
      refine KG ?_
      refine ⟨env.locals :: (Cs.map (·.2) ++ (fb1 ++ (fa1 ++ fps''))), _, .next, (Stp.of_gr g₁).trans ⟨fun b o hb e => hofs b o (fun q => hb (hfpX b q)) e, t.tok, t.gens, t.os, fun b hb => (hsub b (hmem b hb)).imp id And.right, fun b _ o e => t.alive e⟩,
        ⟨F.good, F.scope, F.kind, F.globals, F.builtins, F.base, fun b o e => hofs b o (fun q => h30 b o e (hfpX b q)) (F₁.keep b o e), fun e => F₁.tok (Nat.le_zero.mp (e ▸ t.tok)), (fun b q => ?_), F.ccells, fun b hb => ?_, F.cells, F.cinj,
          ⟨m, _, hns, rfl, hpe.nodup_iff.mpr hXn, fun b hb => ?_, fun p hp => ?_, ?_⟩⟩, .next, rfl, rfl⟩
      · obtain ⟨⟨o, e⟩, hx⟩ := F₁.live0 b q
        exact ⟨t.alive e, fun q' => (hsub b (hmem b q')).elim hx fun q'' => by rw [q''.2] at e; cases e⟩
      · rcases hsub b (hmem b hb) with q | q
        · exact F.new b q
        · cases e : h0.get? b with
          | none => rfl
          | some o => have := F₁.keep b o e; rw [q.2] at this; cases this
      · rcases hsub b (hmem b hb) with q | q
        · obtain ⟨o, e⟩ := h4 b q; exact t.alive e
        · exact hal b q.1
      · obtain ⟨v, o, e, d⟩ := h6 p hp
        exact ⟨v, o, hcell _ o _ e d, d⟩
      · unfold setS
        rw [hdel]
        have wk : ∀ a, Vol V0 (env.locals :: (Cs.map (·.2) ++ (fb1 ++ (fa1 ++ fps'')))) a → Vol V0 (env.locals :: (Cs.map (·.2) ++ ((fa1 ++ (fb1 ++ [])) ++ fps''))) a := fun a q => q.imp id (hmem a)
        exact .cons hly (ra2.weak wk) (.cons hlx (ra1.weak wk) (rest'.weak wk))
end
end Mine
namespace Mine
section
variable {c : Cx} {n : Nat} {sc : Scope} {k : Bool} {ρ : Sto} {P : AF → Sto → Prop}

theorem Ev.bytes {b : List Nat} {x : List UInt8} {kk : Nat} {pos : Pos} (hx : x = b.map UInt8.ofNat) : Ev c n sc k ρ (.Constant (.bytes x) kk pos) (.bytes b) := .mk fun A env V0 h0 Cs X s hA F => by
  subst hx
  exact wp_end (Constant_bytes ⟨fun _ _ e => e, rfl, rfl, fun _ => .bytes _ _⟩)
theorem log2_small {i : Int} (h : i.natAbs ≤ 1000000) : i.natAbs.log2 < 1920 := by
  by_cases h0 : i.natAbs = 0
  · rw [h0]; decide
  · refine (Nat.log2_lt h0).mpr (Nat.lt_of_le_of_lt h (Nat.lt_of_lt_of_le (by decide : 1000000 < 2 ^ 20) (Nat.pow_le_pow_right (by decide) (by decide))))
theorem FnR.strI {i : Int} (hi : i.natAbs.log2 < 1920) : FnR c n (.type "str") [.int i] (sd (intL i)) := .mk fun A V s vs hA hS r => by
  cases r with
  | cons r rs =>
      cases rs
      obtain ⟨t, rfl⟩ := r.inv
      exact wp_end (PySem.P.str_of_int hi ⟨fun _ _ e => e, rfl, rfl, fun _ => by rw [ofString_S]; exact .str _ _⟩)

/-- a call of what the heap told by K keeps -/
theorem Ev.callK {K : Frag} {f e : Expr} {es : List Expr} {pos : Pos} {fv : Value} {ds : List D} {d : D} (X : K.In c.base) (hkp : keepIn K fv = true) (hf : Ev c n sc true ρ f (.val fv)) (ha : EvL c n sc k ρ (e :: es) ds) (h : FnR c n fv ds d)
    (hs : ∀ env : Env, starEach (e :: es) env = (false, eval e env) :: starEach es env := by intro _; rfl) (hpl : ∀ env : Env, (backTo pos (starEach es env)).any (·.1) = false := by intro _; rfl)
    (he : ∀ env : Env, eval (.Call f (e :: es) [] pos) env = (do callWith pos (← eval f env) [] (backTo pos (starEach (e :: es) env)) (backToKw pos (keywordEach [] env))) := by intro _; rfl) : Ev c n sc k ρ (.Call f (e :: es) [] pos) d :=
  .mk fun A env V0 h0 Cs Xs s hA F => by
    rw [he]
    refine wpAny_bind (wpAny_mono (hf.run A env V0 h0 Cs Xs s hA F) (fun v s₁ q₁ => ?_) fun _ _ q => q)
    obtain ⟨g₁, r₁⟩ := q₁
    cases r₁.inv
    refine callWith_K (K := K) X hkp (wpAny_mono (ha.run A env V0 h0 Cs Xs s₁ pos hA (F.gr g₁)) (fun vs s₂ q₂ => ⟨X.keeps (((F.gr g₁).gr q₂.1).base.trans ((F.gr g₁).gr q₂.1).keep), ?_⟩) fun _ _ q => q) (hs env) (hpl env)
    exact wp_gr (g₁.trans q₂.1) (h.run A _ s₂ vs hA ((F.st k).gr (g₁.trans q₂.1)) q₂.2)

/-- an item from the end -/
theorem ItemR.listNeg {ds : List D} {m : Nat} {d : D} (hm : 0 < m) (hl : m ≤ ds.length) (hd : ds[ds.length - m]? = some d) (hlo : m ≤ 1000) : ItemR c (.list ds) (.int (-(m : Int))) d := fun A V s v₁ v₂ hA hS r₁ r₂ => by
  obtain ⟨_, rfl⟩ := r₂.inv
  replace r₁ := r₁.inv
  obtain ⟨a, o, vs, nn, rfl, na, ho, hcl, hdc, hdt, r⟩ := r₁
  obtain ⟨v, hv, rv⟩ := r.get hd
  have hlen : vs.size = ds.length := by have := r.length; simpa using this.symm
  refine wpAny_getItem_list_neg ⟨_, ho, hcl, _, hdt⟩ (by omega) (by omega) (by omega) (x := v) ?_ ⟨.refl s, rv⟩
  rw [show (-(m : Int) + (vs.size : Int)).toNat = ds.length - m by omega]
  simpa using hv

/-- f called with ds gives some d of which P holds -/
structure FnE (c : Cx) (n : Nat) (f : Value) (ds : List D) (P : D → Prop) : Prop where
  run : ∀ A V s vs, Room c n A → St c V s → RepL c V s ds vs →
    wpAny c.M A (call f vs) (fun v s' => Gr s s' ∧ ∃ d, P d ∧ Rep c V s' d v) (fun _ _ => False) s
theorem FnE.def {a : Addr} {ps : List String} {body : List Stmt} {ds : List D} {P : D → Prop} (hd : IsDef c a sc ps body) (hl : ps.length = ds.length)
    (h : Tr c n sc (stoOf ps ds) body fun af _ => ∃ d, P d ∧ af = .ret d) : FnE c (n + 1) (.ref a) ds P := .mk fun A V s vs hA hS r => by
  refine fn_enter hd.toIsDefL hl hA hS r fun env X s₁ hf hnl g F hO hX => ?_
  refine wpAny_mono (h.run (A.deeper env) env V _ env.cells X s₁ (hA.deeper env) ⟨hO, fun q => absurd q hd.nl⟩ F) (fun f s' q ht => ?_) fun _ _ q => q.elim
  obtain ⟨X', ρ', af, t, F', hfl, d, hp, rfl⟩ := q
  cases hfl with
  | ret r' => exact ⟨⟨F'.keep, ht, t.gens.trans g.gens, t.os.trans g.os⟩, d, hp, r'.weak fun _ q => .inl q⟩
/-- x = f(..), with some value -/
theorem Sx.assignE {x : String} {f : Expr} {es : List Expr} {fv : Value} {ds : List D} {p cp pos : Pos} {P : D → Prop} (hf : Ev c n sc true ρ f (.val fv)) (hc : Callee c fv) (ha : EvL c n sc true ρ es ds) (h : FnE c n fv ds P) (hk : CanStore sc x)
    (hp : es.all plainE = true := by rfl)
    (he : ∀ env : Env, eval (.Call f es [] cp) env = (do callWith cp (← eval f env) [] (backTo cp (starEach es env)) (backToKw cp (keywordEach [] env))) := by intro _; rfl)
    (hs : ∀ env : Env, env.scope = sc → swapsWith (.Call f es [] cp) (some (.Name (Str.ofString x) p)) pos.line env = pure false := by intro _ _; rfl) :
    Sx c n sc ρ (.Assign [.Name (Str.ofString x) p] (.Call f es [] cp) pos) fun af ρ' => af = .next ∧ ∃ d, P d ∧ ρ' = setS ρ x (.val d) := .mk fun A env V0 h0 Cs X s hA hO F => by
  refine wpAny_Assign_Name ?_ (hs env F.scope)
  rw [he]
  refine wpAny_bind (wpAny_mono (hf.run A env V0 h0 Cs X s hA F) (fun v s₁ q₁ => ?_) fun _ _ q => q.elim)
  obtain ⟨g₁, r₁⟩ := q₁
  cases r₁.inv
  refine hc.wp hp (wpAny_mono (ha.run A env V0 h0 Cs X s₁ cp hA (F.gr g₁)) (fun vs s₂ q₂ => ⟨((F.gr g₁).gr q₂.1).base.trans ((F.gr g₁).gr q₂.1).keep, ?_⟩) fun _ _ q => q.elim)
  refine wpAny_mono (h.run A _ s₂ vs hA ((F.st true).gr (g₁.trans q₂.1)) q₂.2) (fun v s₃ q₃ => ?_) fun _ _ q => q.elim
  obtain ⟨g₃, d, hP, rv⟩ := q₃
  have g := (g₁.trans q₂.1).trans g₃
  refine wpAny_mono (F.store g (hO.own _) hk (RepS.ofRep rv) .nil fun _ q => nomatch q) (fun _ s' q => ?_) fun _ _ q => q.elim
  obtain ⟨X', t, F'⟩ := q
  exact ⟨X', _, .next, t, F', .next, rfl, d, hP, rfl⟩
end
end Mine
namespace Mine
theorem FlyingW.keeps {B : Heap} {l : List Env} {e : Addr} {cls a0 : Value} {h h' : Heap} (x : Heap.FlyingW B l e cls a0 h) (k : Keeps h h') : Heap.FlyingW B l e cls a0 h' := by
  obtain ⟨f1, f2, f3, oe, vs, T, oT, ts, a1, a2, a3, a4, a5, a6, a7, a8, a9⟩ := x
  exact ⟨fun b o q => k _ _ (f1 b o q), f2, f3.of_keeps fun b o q _ => ⟨o, k _ _ q, rfl⟩, oe, vs, T, oT, ts, k _ _ a1, a2, a3, a4, a5, a6, k _ _ a7, a8, a9⟩

section
variable {c : Cx} {n : Nat} {sc : Scope} {k : Bool} {ρ σ : Sto} {P P₁ : AF → Sto → Prop} {env : Env} {V0 : Addr → Prop} {h0 h0' : Heap} {Cs : List (Str × Addr)} {X : List Addr} {s s' : Shared}

/-- try: body; else: orelse, when nothing is raised -/
theorem Sx.tryE {body orelse : List Stmt} {hd : ExceptHandler} {hs : List ExceptHandler} {pos : Pos} (h : Tr c n sc ρ body P₁) (hn : ∀ ρ', P₁ .next ρ' → Tr c n sc ρ' orelse P) (ho : ∀ af ρ', af ≠ .next → P₁ af ρ' → P af ρ') : Sx c n sc ρ (.Try body (hd :: hs) orelse [] pos) P := .mk fun A env V0 h0 Cs X s hA hO F =>
  wpAny_Try_except (wpAny_mono (h.run A env V0 h0 Cs X s hA hO F) (fun f s' q => by
    obtain ⟨X', ρ', af, a, b, d, e⟩ := q
    cases d with
    | next => exact wpAny_mono ((hn _ e).run A env V0 h0 Cs X' s' hA hO b) (fun _ _ q => q.stp a) fun _ _ q => q
    | brk => exact ⟨X', ρ', _, a, b, .brk, ho _ _ (by intro q; cases q) e⟩
    | cont => exact ⟨X', ρ', _, a, b, .cont, ho _ _ (by intro q; cases q) e⟩
    | ret r => exact ⟨X', ρ', _, a, b, .ret r, ho _ _ (by intro q; cases q) e⟩) fun _ _ q => q.elim)

/-- a or b, truth values -/
theorem Ev.or2 {e₁ e₂ : Expr} {pos : Pos} {a b : Bool} (h1 : Ev c n sc true ρ e₁ (.bool a)) (h2 : a = false → Ev c n sc true ρ e₂ (.bool b)) : Ev c n sc k ρ (.BoolOp .Or [e₁, e₂] pos) (.bool (a || b)) := Ev.weak <| .mk fun A env V0 h0 Cs X s hA F => by
  refine BoolOp_or (wpAny_mono (h1.run A env V0 h0 Cs X s hA F) (fun v s₁ q₁ => ?_) fun _ _ q => q)
  obtain ⟨g₁, r₁⟩ := q₁
  refine wpAny_mono (TruR.bool A _ s₁ v hA.zero ((F.st true).gr g₁) r₁) (fun t s₂ q₂ => ?_) fun _ _ q => q
  obtain ⟨g₂, rfl⟩ := q₂
  cases t with
  | true => exact ⟨g₁.trans g₂, r₁.gr g₂⟩
  | false =>
    refine BoolOp_one (wpAny_mono ((h2 rfl).run A env V0 h0 Cs X s₂ hA (F.gr (g₁.trans g₂))) (fun v s₃ q₃ => ?_) fun _ _ q => q)
    exact ⟨(g₁.trans g₂).trans q₃.1, q₃.2⟩

/-- the very value of a name is told besides -/
theorem Fm.dup {x : String} {d : D} (F : Fm c sc env V0 h0 Cs X ρ s) (hx : ρ.lookup x = some (.val d)) : ∃ v, Rep c (Vol V0 X) s d v ∧ Fm c sc env V0 h0 Cs X ((x, .val (.val v)) :: ρ) s := by
  obtain ⟨f1, f2, f3, f4, f5, f6, f7, f8, f9, f10, f11, f12, f13, m, fps, h1, h2, h3, h4, h6, h5⟩ := F
  obtain ⟨v, fp, l, r, _⟩ := h5.get hx
  exact ⟨v, r.inv.2, f1, f2, f3, f4, f5, f6, f7, f8, f9, f10, f11, f12, f13, m, fps, h1, h2, h3, h4, h6, .cons (fp := []) l (.val (.val v)) h5⟩
noncomputable def D.isRef : D → Bool
  | .list _ | .tuple _ | .dict _ => true
  | _ => false
theorem Sx.dup {x : String} {d : D} {st : Stmt} (hx : ρ.lookup x = some (.val d)) (hd : d.isRef = true) (h : ∀ a, Sx c n sc ((x, .val (.val (.ref a))) :: ρ) st P) : Sx c n sc ρ st P := .mk fun A env V0 h0 Cs X s hA hO F => by
  obtain ⟨v, r, F'⟩ := F.dup hx
  obtain ⟨a, rfl⟩ : ∃ a, v = .ref a := by have q := r.inv; cases d <;> first | (cases hd; done) | (obtain ⟨a, _, _, _, e, _⟩ := q; exact ⟨a, e⟩)
  exact (h a).run A env V0 h0 Cs X s hA hO F'
/-- f(x), which gives x's very value back -/
theorem Ev.callI {x : String} {v fv : Value} {d : D} {f : Expr} {p pos : Pos} (hf : Ev c n sc true ((x, .val (.val v)) :: ρ) f (.val fv)) (hc : Callee c fv) (hx : ρ.lookup x = some (.val d)) (h : FnI c n fv d) (hxd : x ≠ "__debug__" := by decide)
    (he : ∀ env : Env, eval (.Call f [.Name (Str.ofString x) p] [] pos) env = (do callWith pos (← eval f env) [] (backTo pos (starEach [.Name (Str.ofString x) p] env)) (backToKw pos (keywordEach [] env))) := by intro _; rfl) :
    Ev c n sc k ((x, .val (.val v)) :: ρ) (.Call f [.Name (Str.ofString x) p] [] pos) (.val v) := Ev.weak <| .mk fun A env V0 h0 Cs X s hA F => by
  rw [he]
  refine wpAny_bind (wpAny_mono (hf.run A env V0 h0 Cs X s hA F) (fun w s₁ q₁ => ?_) fun _ _ q => q)
  obtain ⟨g₁, r₁⟩ := q₁
  cases r₁.inv
  have F₁ := F.gr g₁
  refine hc.wp rfl (wpAny_mono ((EvL.cons (Ev.name (k := true) (ρ := (x, .val (.val v)) :: ρ) (d := .val v) (by rw [List.lookup_cons, beq_self_eq_true]) hxd) .nil).run A env V0 h0 Cs X s₁ pos hA F₁) (fun vs s₂ q₂ => ⟨(F₁.gr q₂.1).base.trans (F₁.gr q₂.1).keep, ?_⟩) fun _ _ q => q)
  refine hideG fun G KG => ?_
  obtain ⟨g₂, r₂⟩ := q₂
  have F₂ := F₁.gr g₂
  cases r₂ with
  | cons r r' =>
  cases r'; cases r.inv
  obtain ⟨m, fps, h1, h2, h3, h4, h6, h5⟩ := F₂.sto
  have rv : Rep c (Vol V0 X) s₂ d v := by
    cases h5 with
    | cons l r rs =>
      cases r.inv.2.inv
      obtain ⟨v', fp, l', r', _⟩ := rs.get hx
      rw [Loc.same h1 h1 l l']
      exact r'.inv.2
  refine KG ?_
  refine wpAny_mono (h.run A _ s₂ v hA (F₂.st true) (rv.weak fun _ q => q.2)) (fun r s₃ q₃ => ?_) fun _ _ q => q
  obtain ⟨g₃, rfl⟩ := q₃
  exact ⟨(g₁.trans g₂).trans g₃, .val _⟩
theorem CmpR.isntSelf {a : Addr} : CmpR c .IsNot (.val (.ref a)) (.val (.ref a)) false := fun A V s v₁ v₂ hA _ r₁ r₂ => by
  cases r₁.inv; cases r₂.inv
  exact wpAny_isNot_ref_self ⟨.refl s, rfl⟩

/-- a frame that stands alone, behind a raise -/
theorem Fm.noted1 (F : Fm c sc env V0 h0 Cs X ρ s) (t : Slt [env.locals] s s') (hb : Keeps c.base h0') (hk : Keeps h0' s'.heap) (hn : ∀ a ∈ X, h0'.get? a = none) : Fm c sc env V0 h0' Cs X ρ s' := by
  obtain ⟨m, fps, h1, h2, h3, h4, h6, h5⟩ := F.sto
  have hLX : env.locals ∈ X := h2 ▸ .head _
  have hof : ∀ a, a ≠ env.locals → a ∉ [env.locals] := fun a h q => h (List.mem_singleton.mp q)
  have hlive : ∀ a o, s.heap.get? a = some o → ∃ o', s'.heap.get? a = some o' := fun a o e => by
    by_cases q : a ∈ [env.locals]
    · obtain ⟨sl, e'⟩ := t.up a o q e; exact ⟨_, e'⟩
    · exact ⟨o, t.keep a o q e⟩
  have hndL : env.locals ∉ Cs.map (·.2) ++ fps := (List.nodup_cons.mp (h2 ▸ h3)).1
  have hcm : Calm (Vol V0 X) s s' := ⟨t.tok, fun b o nb e _ => t.keep b o (hof b fun q => nb (.inr (q ▸ hLX))) e⟩
  have hcell : ∀ b o w, s.heap.get? b = some o → o.data = .cell w → s'.heap.get? b = some o := fun b o w e hw => t.keep b o (hof b fun q => by
    obtain ⟨o', es, ep, ho, hd, _⟩ := h1
    rw [q, ho] at e; cases e; rw [hd] at hw; cases hw) e
  refine ⟨F.good, F.scope, F.kind, F.globals, F.builtins, hb, hk, fun e => F.tok (Nat.le_zero.mp (e ▸ t.tok)), fun a q => ⟨let ⟨o, e⟩ := (F.live0 a q).1; hlive a o e, (F.live0 a q).2⟩, F.ccells, hn, F.cells, F.cinj,
    m, fps, t.ns h1, h2, h3, fun a ha => let ⟨o, e⟩ := h4 a ha; hlive a o e, fun p hp => ?_, h5.change hcm (fun a ha o e => t.keep a o (hof a fun q => hndL (q ▸ List.mem_append_right _ ha)) e) (fun _ _ _ => rfl) fun p hp a o w _ e hw => hcell a o w e hw⟩
  obtain ⟨v, o, e, d⟩ := h6 p hp
  exact ⟨v, o, hcell _ o _ e d, d⟩
theorem Fm.rebase (F : Fm c sc env V0 h0 Cs X ρ s) (hb : Keeps c.base h0') (hk : Keeps h0' s.heap) (hn : ∀ a ∈ X, h0'.get? a = none) : Fm c sc env V0 h0' Cs X ρ s :=
  ⟨F.good, F.scope, F.kind, F.globals, F.builtins, hb, hk, F.tok, F.live0, F.ccells, hn, F.cells, F.cinj, F.sto⟩
/-- a name goes -/
theorem Fm.goes {x : String} {A : Around} {pos : Pos} (F : Fm c sc env V0 h0 Cs X ρ s) (hl : sc.names.lookup (Str.ofString x) = some .local) (hx : ∀ p ∈ ρ, p.1 ≠ x) :
    wpAny c.M A (do bindName env (Str.ofString x) .none; unbindBehindTheSuite env (Str.ofString x) pos) (fun _ s' => Stp X s X s' ∧ Fm c sc env V0 h0 Cs X ρ s') (fun _ _ => False) s := by
  obtain ⟨m, fps, h1, h2, h3, h4, h6, h5⟩ := F.sto
  have hke : env.scope.kind = .function := by rw [F.scope]; exact F.kind
  have hLX : env.locals ∈ X := h2 ▸ .head _
  have hndL : env.locals ∉ Cs.map (·.2) ++ fps := (List.nodup_cons.mp (h2 ▸ h3)).1
  refine wpAny_nameGoes_keeps (by show env.scope.names.lookup _ = _; rw [F.scope]; exact hl) h1 (by rw [hke]; rfl) fun h' v hn' hs' => ?_
  have hcm : Calm (Vol V0 X) s { s with heap := h', toks := s.toks + 1 } := calm_at hs' (.inr hLX) (Nat.le_succ _)
  have hcell : ∀ b o w, s.heap.get? b = some o → o.data = .cell w → h'.get? b = some o := fun b o w e hw => (hs'.2 b fun q => by
    obtain ⟨o', es, ep, ho, hd, _⟩ := h1
    rw [q, ho] at e; cases e; rw [hd] at hw; cases hw).trans e
  have hlive : ∀ a o, s.heap.get? a = some o → ∃ o', h'.get? a = some o' := fun a o e => by
    by_cases q : a = env.locals
    · obtain ⟨oL, _, _, e', _⟩ := hn'; exact ⟨oL, q ▸ e'⟩
    · exact ⟨o, (hs'.2 a q).trans e⟩
  have h0l : ∀ b o, h0.get? b = some o → b ≠ env.locals := fun b o e q => by rw [q, F.new _ hLX] at e; cases e
  refine ⟨⟨fun b o hb e => (hs'.2 b fun q => hb (q ▸ hLX)).trans e, Nat.le_succ _, rfl, rfl, fun b hb => .inl hb, fun b _ o e => hlive b o e⟩,
    ⟨F.good, F.scope, F.kind, F.globals, F.builtins, F.base, fun b o e => (hs'.2 b (h0l b o e)).trans (F.keep b o e), Nat.succ_ne_zero _, fun a q => ⟨let ⟨o, e⟩ := (F.live0 a q).1; hlive a o e, (F.live0 a q).2⟩, F.ccells, F.new, F.cells, F.cinj,
      _, fps, hn', h2, h3, fun a ha => let ⟨o, e⟩ := h4 a ha; hlive a o e, fun p hp => ?_, h5.change hcm (fun a ha o e => (hs'.2 a fun q => hndL (q ▸ List.mem_append_right _ ha)).trans e) (fun p hp _ => if_neg fun q => hx p hp (ofString_inj q)) fun p hp a o w _ e hw => hcell a o w e hw⟩⟩
  obtain ⟨v, o, e, d⟩ := h6 p hp
  exact ⟨v, o, hcell _ o _ e d, d⟩
end
end Mine
namespace Mine
section
variable {c : Cx} {n : Nat} {sc : Scope} {k : Bool} {ρ σ : Sto} {P P₁ : AF → Sto → Prop} {env : Env} {V0 : Addr → Prop} {h0 h0' : Heap} {Cs : List (Str × Addr)} {X : List Addr} {s s' : Shared}

/-- the context of a clause: what lies outside of the frame is the base -/
noncomputable abbrev Cx.at (c : Cx) (H : Heap) : Cx := { c with base := H, hn := False }

/-- try: y = f(es), which is refused; except TypeError as error: suite, which goes on -/
theorem Sx.tryAs {y x : String} {f : Expr} {fv : Value} {es : List Expr} {ds : List D} {m : List Nat} {b₀ : Stmt} {suite orelse : List Stmt} {p p3 p4 p5 cp pos : Pos} (hn : c.hn) (hl : c.lsc sc) (hm : sc.kind ≠ .module)
    (hf : Ev c n sc true ρ f (.val fv)) (hc : Callee c fv) (ha : EvL c n sc true ρ es ds) (h : FnX c n fv ds "TypeError" m)
    (hT : c.mg (Str.ofString "TypeError") = Option.none ∧ c.mb (Str.ofString "TypeError") = some (.type "TypeError")) (hG : sc.names.lookup (Str.ofString "TypeError") = some .globalImplicit) (hloc : sc.names.lookup (Str.ofString x) = some .local)
    (hh : ∀ H ev, FnR (c.at H) n (.type "str") [.val (.ref ev)] (sd m) → Tr (c.at H) n sc (setS ρ x (.val (.val (.ref ev)))) (b₀ :: suite) fun af ρ' => af = .next ∧ SubS σ ρ') (hσ : ∀ q ∈ σ, q.1 ≠ x)
    (hp : es.all plainE = true := by rfl)
    (he : ∀ env : Env, eval (.Call f es [] cp) env = (do callWith cp (← eval f env) [] (backTo cp (starEach es env)) (backToKw cp (keywordEach [] env))) := by intro _; rfl)
    (hs : ∀ env : Env, env.scope = sc → swapsWith (.Call f es [] cp) (some (.Name (Str.ofString y) p)) pos.line env = pure false := by intro _ _; rfl) :
    Sn c n sc ρ (.Try [.Assign [.Name (Str.ofString y) p] (.Call f es [] cp) pos] [.ExceptHandler (some (.Name (Str.ofString "TypeError") p3)) (some (Str.ofString x)) (b₀ :: suite) p4] orelse [] p5) σ := .mk fun A env V0 h0 Cs X s hA hO F => by
  refine hideG fun G KG => ?_
  obtain ⟨hfr, hfl⟩ := hO.top hl
  have hLX : env.locals ∈ X := by
    obtain ⟨_, _, _, h2, _⟩ := F.sto
    rw [h2]; exact .head _
  have hfmap : ([env] : List Env).filterMap (·.frame) = [env.locals] := by simp [hfl]
  have hLb : c.base.get? env.locals = none := by
    cases e : c.base.get? env.locals with
    | none => rfl
    | some o => have := F.base _ _ e; rw [F.new _ hLX] at this; cases this
  have KK : Stk c A c.base [env] s.heap := by
    obtain ⟨m, fps, ⟨o, es, ep, ho, hd, _⟩, _⟩ := F.sto
    refine ⟨hfr, fun _ _ q => q, fun b o e => F.keep _ _ (F.base _ _ e), ?_, ⟨env.locals, o, hfl, hLb, ho, fun vs q => by rw [hd] at q; cases q⟩, trivial⟩
    rw [F.scope]; exact hm
  have hst := hidden_stays KK.stays KK.frames
  have K₃ : Stk c A (hideAll s.heap ([env].filterMap (·.frame))) [env] s.heap := ⟨KK.stack, fun b o e => hst b o (KK.base b o e), fun b o e => of_hideAll _ e, frames_hidden KK.frames⟩
  have hdf : ∀ b o, b ∈ [env].filterMap (·.frame) → s.heap.get? b = some o → ∀ vs, o.data ≠ .fields vs := fun b o hb e => by
    obtain ⟨_, o', ho', hd'⟩ := KK.frames.mem hb
    rw [e] at ho'; cases ho'; exact hd'
  have hXb : ∀ b o, c.base.get? b = some o → b ∉ X := fun b o e q => by have := F.base _ _ e; rw [F.new _ q] at this; cases this
  refine KG ?_
  refine wpAny_Try_except (wpAny_execs_cons (wpAny_Assign_Name (wpAny_mono (call_raises hA (.inl (hA.handled hn)) F K₃ (fun a q => by rw [hfmap] at q; rw [List.mem_singleton.mp q]; exact .inr hLX) hf hc ha h hp he) (fun _ _ q => q.elim) fun ev s₃ fly => ?_) (hs env F.scope)))
  refine hideG fun G KG => ?_
  obtain ⟨⟨e, t', tk, rfl, hfly, htup, htn⟩, hu, htk, hg3, ho3⟩ := fly
  refine KG ?_
  refine wpAny_looks_onW K₃.stack hfl hfly fun h₄ hh4 hu4 => wpAny_landsW hh4 fun h₅ hfl5 hu5 => ?_
  have sl₅ : Slt ([env].filterMap (·.frame)) s { s₃ with heap := h₅ } := Slt.of_hide hfl5.1 ((hu.trans hu4).trans hu5) hdf htk hg3 ho3
  rw [hfmap] at sl₅
  have h0k : ∀ {s' : Shared}, Slt [env.locals] s s' → Keeps h0 s'.heap := fun t b o e => t.keep b o (fun q => by rw [List.mem_singleton.mp q, F.new _ hLX] at e; cases e) (F.keep b o e)
  have F₅ := F.noted1 sl₅ F.base (h0k sl₅) F.new
  have hA₅ : Room c.h n (A.mark (some (.ref e))) := hA.h _
  refine wpAny_handleBy_builtin_as (X := "TypeError") (T := "TypeError") (b := true) PySem.F.isExc_TypeError PySem.F.notTuple_TypeError (by rw [isSubtype_type]; kernel_rfl) ?_
  refine wpAny_mono ((Ev.blt (c := c.h) (n := n) (k := true) (ρ := ρ) hT.1 hT.2 hG).run _ env V0 _ _ X _ hA₅ F₅.h) (fun cv s₆ q₆ => ?_) fun _ _ q => q.elim
  refine hideG fun G KG => ?_
  obtain ⟨g₆, r₆⟩ := q₆
  cases r₆.inv
  have hfl6 := FlyingW.keeps hfl5 g₆.keep
  refine KG ?_
  refine ⟨rfl, ?_, ?_⟩
  · obtain ⟨ob, h1, h2⟩ := hfl6.there
    exact ⟨ob, h1, h2⟩
  rw [if_pos rfl]
  refine lands_againW hfl6 fun h₇ hfl7 hu7 => ?_
  have hu27 := (((hu.trans hu4).trans hu5).trans (Heap.UpToSlots.of_keeps g₆.keep)).trans hu7
  have sl₇ : Slt ([env].filterMap (·.frame)) s { s₆ with heap := h₇ } := Slt.of_hide hfl7.1 hu27 hdf (Nat.le_trans htk g₆.tok) (g₆.gens.trans hg3) (g₆.os.trans ho3)
  rw [hfmap] at sl₇
  -- the context of the clause
  have hbH : Keeps c.base (hideAll h₇ X) := fun b o e' => hideAll_get _ (h0k sl₇ b o (F.base b o e')) (hXb b o e')
  have F₇ : Fm (c.at (hideAll h₇ X)) sc env V0 (hideAll h₇ X) Cs X ρ { s₆ with heap := h₇ } :=
    (F.noted1 sl₇ hbH (fun b o e' => of_hideAll _ e') fun a ha => hideAll_none _ ha).cx (c' := c.at (hideAll h₇ X)) ⟨rfl, rfl⟩ ⟨F.good.g.keeps hbH, F.good.b.keeps hbH, F.good.lim.keeps hbH⟩ fun _ _ q => q
  refine wpAny_mono (Fm.store (c := c.at (hideAll h₇ X)) (x := x) (sl := .val (.val (.ref e))) (v := .ref e) (fp := []) F₇ (.refl _) (fun q => by rw [hloc] at q; cases q) (.inl hloc) (.val (.val _)) .nil fun _ q => nomatch q) (fun _ s₈ q₈ => ?_) fun _ _ q => q.elim
  refine hideG fun G KG => ?_
  obtain ⟨X', t₈, F₈⟩ := q₈
  -- the exception lies outside of the frame
  have hoff : ∀ b o, h₇.get? b = some o → (∀ es ep, o.data ≠ .dict es ep) → (hideAll s.heap ([env].filterMap (·.frame))).get? b = Option.none → b ∉ X := fun b o hb hnd hn' hbx => by
    obtain ⟨mm, fps, ⟨oL, es, ep, hL, hLd, _⟩, h2, h3, h4, _⟩ := F.sto
    obtain ⟨o2, e2⟩ := h4 b hbx
    by_cases q : b ∈ [env].filterMap (·.frame)
    · have q' := q
      rw [hfmap] at q'
      obtain ⟨sl, e3⟩ := sl₇.up b oL q' (List.mem_singleton.mp q' ▸ hL)
      have e4 : h₇.get? b = some { oL with slots := sl } := e3
      rw [hb] at e4; cases e4
      exact hnd es ep hLd
    · rw [hideAll_get _ e2 q] at hn'; cases hn'
  obtain ⟨f1, f2, f3, oe, ws, TT, oT, ts, a1, a2, a3, a4, a5, a6, a7, a8, a9⟩ := hfl7
  have htup7 : h₇.TupAt t' [.str (S m) tk] := ((((htup.of_slots hu4).of_slots hu5).of_slots (Heap.UpToSlots.of_keeps g₆.keep)).of_slots hu7)
  obtain ⟨ot, nt, b1, b2, b3⟩ := htup7
  have heX : e ∉ X := hoff e oe a1 (fun es ep q => by rw [a3] at q; cases q) f2
  have htX : t' ∉ X := hoff t' ot b1 (fun es ep q => by rw [b3] at q; cases q) htn
  have heH : (hideAll h₇ X).get? e = some oe := hideAll_get _ a1 heX
  have htH : (hideAll h₇ X).get? t' = some ot := hideAll_get _ b1 htX
  have hstr : FnR (c.at (hideAll h₇ X)) n (.type "str") [.val (.ref e)] (sd m) := .mk fun A' V' s' vs' hA' hS' rv' => by
    cases rv' with
    | cons r₁ r₂ =>
    cases r₁.inv; cases r₂
    refine PySem.P.str_of_exc_one PySem.F.excStr_TypeError (by have := hA'.units; omega) ⟨oe, ws, hS'.keep _ _ heH, a2.1, a3, a2.2⟩ ⟨ot, nt, hS'.keep _ _ htH, b2, b3⟩ ⟨.refl _, .str _ _⟩
  refine KG ?_
  refine wpAny_mono ((hh _ e hstr).run (A.mark (some (.ref e))) env V0 _ Cs X' s₈ ⟨fun q => q.elim, hA₅.depth, hA₅.units, hA₅.guards⟩ ⟨hO.own, fun q => hO.top q⟩ F₈) (fun fl s₉ q₉ => ?_) fun _ _ q => q.elim
  refine hideG fun G KG => ?_
  obtain ⟨X₂, ρ₂, af, t₉, F₉, hff, rfl, hsub⟩ := q₉
  cases hff
  obtain ⟨X₃, hX₃, F₁₀⟩ := Ent.sub (c := c.at (hideAll h₇ X)) (sc := sc) hsub env V0 _ Cs X₂ s₉ F₉
  refine KG ?_
  refine wpAny_mono (Fm.goes (c := c.at (hideAll h₇ X)) F₁₀ hloc hσ) (fun _ s₁₁ q => ?_) fun _ _ q => q.elim
  refine hideG fun G KG => ?_
  obtain ⟨t₁₁, F₁₁⟩ := q
  have tt : Stp X { s₆ with heap := h₇ } X₃ s₁₁ := (t₈.trans t₉).trans (t₁₁.sub hX₃)
  have hst7 : Stp X s X { s₆ with heap := h₇ } := ⟨fun b o hb e' => sl₇.keep b o (fun q => hb (List.mem_singleton.mp q ▸ hLX)) e', sl₇.tok, sl₇.gens, sl₇.os, fun b hb => .inl hb, fun b _ o e' => by
    by_cases q : b ∈ [env.locals]
    · obtain ⟨sl, e3⟩ := sl₇.up b o q e'; exact ⟨_, e3⟩
    · exact ⟨o, sl₇.keep b o q e'⟩⟩
  have tall := hst7.trans tt
  refine KG ?_
  refine ⟨X₃, σ, .next, tall, ?_, .next, rfl, rfl⟩
  have hk0 : Keeps h0 s₁₁.heap := fun b o e' => tall.keep b o (fun q => by rw [F.new b q] at e'; cases e') (F.keep b o e')
  refine (F₁₁.cx (c' := c) ⟨rfl, rfl⟩ F.good hbH).rebase F.base hk0 fun a haX => ?_
  rcases tall.new a haX with q | q
  · exact F.new a q
  · cases e' : h0.get? a with
    | none => rfl
    | some o => have := F.keep _ _ e'; rw [q] at this; cases this
end
end Mine
namespace Mine
set_option maxRecDepth 100000

/-- the texts that the law lays -/
noncomputable def txs : List (List Nat) := [[38], [60], [62], [34], [13], [10], [9], [], [38, 38], [97, 60, 98], [39], [38, 97, 109, 112, 59]]
mutual
/-- how a thing is written -/
noncomputable def wrD : D → List Nat
  | .none => cs "None"
  | .bool b => cs (if b then "True" else "False")
  | .int i => intL i
  | .bytes b => if b = [] then cs "b''" else cs "b'&<'"
  | .str x => reprL x.cps.toList
  | .qn x => qnL x
  | .list ds => listL (wrDs ds)
  | .tuple ds => tupL (wrDs ds)
  | .dict kvs => dictL (kvs.headD ([], .none)).1 (match (kvs.headD ([], .none)).2 with | .int i => intL i | _ => [])
  | _ => []
noncomputable def wrDs : List D → List (List Nat)
  | [] => []
  | d :: r => wrD d :: wrDs r
end
theorem wrDs_map : ∀ ds : List D, wrDs ds = ds.map wrD
  | [] => rfl
  | d :: r => by show wrD d :: wrDs r = _; rw [wrDs_map r]; rfl

/-- the name of a thing's type -/
noncomputable def nmD : D → List Nat
  | .none => cs "NoneType"
  | .bool _ => cs "bool"
  | .int _ => cs "int"
  | .bytes _ => cs "bytes"
  | .qn _ => cs "QName"
  | .list _ => cs "list"
  | .tuple _ => cs "tuple"
  | .dict _ => cs "dict"
  | _ => []
/-- the texts that a thing holds -/
noncomputable def keyD : D → D
  | .list ds => .list (ds.filter D.isStr)
  | .tuple ds => .list (ds.filter D.isStr)
  | .dict kvs => .list (kvs.map fun p => sd p.1)
  | _ => .none
noncomputable def thD (d : D) : D := .tuple [d, sd (wrD d), sd (nmD d), keyD d]

/-- the things of the law, nested at most n deep -/
inductive Tg : Nat → D → Prop
  | str {n x} : x ∈ txs → Tg n (sd x)
  | none {n} : Tg n .none
  | bool {n b} : Tg n (.bool b)
  | bytes0 {n} : Tg n (.bytes [])
  | bytes2 {n} : Tg n (.bytes [38, 60])
  | int {n i} : i.natAbs ≤ 1000 → Tg n (.int i)
  | qn {n x} : x ∈ txs.drop 7 → Tg n (.qn x)
  | dict {n x i} : x ∈ txs → i.natAbs ≤ 1000 → Tg n (.dict [(x, .int i)])
  | list {n ds} : (∀ d ∈ ds, Tg n d) → Tg (n + 1) (.list ds)
  | tuple {n ds} : (∀ d ∈ ds, Tg n d) → Tg (n + 1) (.tuple ds)

theorem Tg.mono {n : Nat} {d : D} (h : Tg n d) : ∀ {m}, n ≤ m → Tg m d := by
  induction h with
  | str h => intro m _; exact .str h
  | none => intro m _; exact .none
  | bool => intro m _; exact .bool
  | bytes0 => intro m _; exact .bytes0
  | bytes2 => intro m _; exact .bytes2
  | int h => intro m _; exact .int h
  | qn h => intro m _; exact .qn h
  | dict h h2 => intro m _; exact .dict h h2
  | list h ih =>
    intro m hm
    obtain ⟨k, rfl⟩ : ∃ k, m = k + 1 := ⟨m - 1, by omega⟩
    exact .list fun d hd => ih d hd (by omega)
  | tuple h ih =>
    intro m hm
    obtain ⟨k, rfl⟩ : ∃ k, m = k + 1 := ⟨m - 1, by omega⟩
    exact .tuple fun d hd => ih d hd (by omega)

theorem txs_repr : ∀ x ∈ txs, (reprL x).length ≤ 7 := by decide +kernel

theorem textFrom_join : ∀ (ts : List (List Nat)) (k : Nat) (acc : List Nat), 0 < k → textFrom k (S acc) (ts.map S) = S (acc ++ (ts.map fun t => cs ", " ++ t).flatten)
  | [], k, acc, h => by simp [textFrom]
  | t :: ts, k, acc, h => by
    show textFrom (k + 1) (S acc ++ ((if k > 0 then ", " else "" : String) : Str) ++ S t) (ts.map S) = _
    rw [if_pos h, show ((", " : String) : Str) = S (cs ", ") from ofString_S ", ", S_append, S_append, textFrom_join ts (k + 1) _ (Nat.succ_pos _)]
    simp
theorem joinL_cons (p : List Nat) : ∀ (x : List Nat) (r : List (List Nat)), joinL p (x :: r) = x ++ (r.map fun t => p ++ t).flatten
  | x, [] => by simp [joinL]
  | x, y :: r => by
    show x ++ p ++ joinL p (y :: r) = _
    rw [joinL_cons p y r]; simp
theorem listL_eq (rs : List (List Nat)) : listL rs = cs "[" ++ (joinL (cs ", ") rs ++ cs "]") := by
  have h : S (listL rs) = S (cs "[" ++ (joinL (cs ", ") rs ++ cs "]")) := by
    rw [listL_S]
    unfold listText
    cases rs with
    | nil => show (("[" : String) : Str) ++ (("]" : String) : Str) = _; rw [show (("[" : String) : Str) = S (cs "[") from ofString_S "[", show (("]" : String) : Str) = S (cs "]") from ofString_S "]", S_append]; rfl
    | cons t ts =>
      show textFrom 1 ((("[" : String) : Str) ++ ((if 0 > 0 then ", " else "" : String) : Str) ++ S t) (ts.map S) ++ (("]" : String) : Str) = _
      rw [if_neg (by decide), show (("[" : String) : Str) = S (cs "[") from ofString_S "[", show (("" : String) : Str) = S (cs "") from ofString_S "", S_append, S_append, textFrom_join ts 1 _ (by decide), show (("]" : String) : Str) = S (cs "]") from ofString_S "]", S_append, joinL_cons]
      simp [cs]
  exact S_inj h
theorem tupL_eq (rs : List (List Nat)) : tupL rs = cs "(" ++ (joinL (cs ", ") rs ++ ((if rs.length = 1 then cs "," else cs "") ++ cs ")")) := by
  have h : S (tupL rs) = S (cs "(" ++ (joinL (cs ", ") rs ++ ((if rs.length = 1 then cs "," else cs "") ++ cs ")"))) := by
    rw [tupL_S]
    unfold tupleText
    rw [show (("(" : String) : Str) = S (cs "(") from ofString_S "(", show ((", " : String) : Str) = S (cs ", ") from ofString_S ", ", joinL_S, S_append]
    have e : (((if (rs.map S).length == 1 then ",)" else ")" : String)) : Str) = S ((if rs.length = 1 then cs "," else cs "") ++ cs ")") := by
      rw [ofString_S, List.length_map]
      by_cases h : rs.length = 1
      · rw [if_pos h, if_pos (by simpa using h)]; rfl
      · rw [if_neg h, if_neg (by simpa using h)]; rfl
    rw [e, S_append]
    simp
  exact S_inj h
theorem dictL_eq (k r : List Nat) : dictL k r = cs "{" ++ (reprL k ++ (cs ": " ++ (r ++ cs "}"))) := by
  have h : S (dictL k r) = S (cs "{" ++ (reprL k ++ (cs ": " ++ (r ++ cs "}")))) := by
    rw [dictL_S]
    unfold dictText
    rw [show (("{" : String) : Str) = S (cs "{") from ofString_S "{", show (("}" : String) : Str) = S (cs "}") from ofString_S "}", show ((": " : String) : Str) = S (cs ": ") from ofString_S ": "]
    show S _ ++ (reprText (S k) ++ S _ ++ S r) ++ S _ = _
    rw [show reprText (S k) = S (reprL k) from S_of _, S_append, S_append, S_append, S_append]
    simp
  exact S_inj h

theorem joinL_len (p : List Nat) : ∀ ls : List (List Nat), (joinL p ls).length ≤ ls.flatten.length + ls.length * p.length
  | [] => Nat.zero_le _
  | [x] => by simp [joinL]
  | x :: y :: r => by
    have := joinL_len p (y :: r)
    show (x ++ p ++ joinL p (y :: r)).length ≤ _
    rw [List.length_append, List.length_append, List.flatten_cons, List.length_append, List.length_cons, Nat.add_mul]
    omega
end Mine
namespace Mine
set_option maxRecDepth 100000

structure B08 (c : Cx) (K : Frag) : Prop where
  Y : QC c K
  Z : QS c K
  hn : c.hn
  isi : c.mg (Str.ofString "isinstance") = none ∧ c.mb (Str.ofString "isinstance") = some (.builtin "isinstance")
  str : c.mg (Str.ofString "str") = none ∧ c.mb (Str.ofString "str") = some (.type "str")
  tup : c.mg (Str.ofString "tuple") = none ∧ c.mb (Str.ofString "tuple") = some (.type "tuple")
  len : c.mg (Str.ofString "len") = none ∧ c.mb (Str.ofString "len") = some (.builtin "len")

section
variable {c : Cx} {n : Nat} {K : Frag}

theorem isStr_of {m : Nat} {d : D} (B : B08 c K) (h : Tg m d) : FnR c n (.builtin "isinstance") [d, .val (.type "str")] (.bool d.isStr) := by
  cases h with
  | str => exact .isStr_str
  | none => exact .isStr_none
  | bool => exact .isStr_bool
  | bytes0 => exact .isStr_bytes
  | bytes2 => exact .isStr_bytes
  | int => exact .isStr_int
  | qn => exact .isStr_qn B.Y B.Z
  | dict => exact .isStr_dict
  | list => exact .isStr_list
  | tuple => exact .isStr_tuple

noncomputable abbrev lvS (p : Bool × List D) : Slot := .own [.val (.bool p.1), .own (p.2.map .val), .own (p.2.map fun d => .val (sd (wrD d)))]
noncomputable abbrev thS (ths : List D) : List Slot := ths.map fun d => .val (thD d)
noncomputable def clD (p : Bool × List D) : D := if p.1 = true then .tuple p.2 else .list p.2
noncomputable def put (pre : List (Bool × List D)) (d : D) : List (Bool × List D) := pre.dropLast ++ (pre.getLast?.toList.map fun p => (p.1, p.2 ++ [d]))
theorem put_snoc (pre : List (Bool × List D)) (p : Bool × List D) (d : D) : put (pre ++ [p]) d = pre ++ [(p.1, p.2 ++ [d])] := by
  unfold put
  rw [List.dropLast_concat, List.getLast?_concat]; rfl
theorem put_nil (d : D) : put [] d = [] := rfl

theorem ds_lv (p : Bool × List D) : Slot.ds [.val (.bool p.1), .own (p.2.map .val), .own (p.2.map fun d => .val (sd (wrD d)))] = [.bool p.1, .list p.2, .list ((p.2.map wrD).map sd)] := by
  show [D.bool p.1, .list (Slot.ds _), .list (Slot.ds _)] = _
  rw [ds_vals (fun d : D => d), ds_vals, List.map_map, List.map_id']
  rfl

theorem end_fn (hd : IsDef c 139 (sc08 9) ["opened", "things"] (bd08 9)) (B : B08 c K) {pre : List (Bool × List D)} {p : Bool × List D} {ths : List D} {m : Nat} (hp : ∀ d ∈ p.2, Tg m d) (hsz : (p.2.map wrD).flatten.length + p.2.length * 2 ≤ 900000)
    (hpre : pre.length ≤ 1000) (hths : ths.length ≤ 100000) (hpl : ∀ q ∈ pre, q.2.length ≤ 100000) : FnS c (n + 1) (.ref 139) [.own ((pre ++ [p]).map lvS), .own (thS ths)] [.own ((put pre (clD p)).map lvS), .own (thS (ths ++ [clD p]))] := by
  have hq := B.hn
  obtain ⟨b, its⟩ := p
  replace hsz : (its.map wrD).flatten.length + its.length * 2 ≤ 900000 := hsz
  refine FnS.def hd fun a₁ a₂ => ?_
  have hjl := joinL_len (cs ", ") (its.map wrD)
  have e2 : (cs ", ").length = 2 := by decide
  have e1 : (cs "[").length = 1 ∧ (cs "]").length = 1 ∧ (cs "(").length = 1 ∧ (cs ")").length = 1 ∧ (cs ",").length = 1 ∧ (cs "").length = 0 := by decide
  rw [e2, List.length_map] at hjl
  have hjl' : (joinL (cs ", ") (its.map wrD)).length ≤ 900000 := Nat.le_trans hjl hsz
  have hjo : ∀ {k : Bool} {ρ : Sto} {p1 p2 p3 p4 : Pos} {kk : Nat} (hx : ρ.lookup "words" = some (.val (.list ((its.map wrD).map sd)))) (hl : (p2.endLine == p4.line) = true), Ev c n (sc08 9) k ρ (.Call (.Attribute (.Constant (.str (Str.ofString ", ")) kk p1) (Str.ofString "join") p2) [.Name (Str.ofString "words") p3] [] p4) (sd (joinL (cs ", ") (its.map wrD))) := fun hx hl =>
    Ev.meth Ev.lit rfl F.plainAttrs_str F.slot_str_join F.type_str_join (EvL.cons (Ev.name hx) EvL.nil) (FnR.joinP (by rw [e2, List.length_map]; exact Nat.le_trans hsz (by decide))) hl
  refine Tr.step (Sx.popT (x := "opened") (q := some a₁) (sl := pre.map lvS) (ins := [.val (.bool b), .own (its.map .val), .own (its.map fun d => .val (sd (wrD d)))]) ?_ (ρ₂ := setS (setS (setS (setS [("opened", .ownO (some a₁) ((pre ++ [(b, its)]).map lvS)), ("things", .ownO (some a₂) (thS ths))] "opened" (.ownO (some a₁) (pre.map lvS))) "is_tuple" (.val (.bool b))) "items" (.val (.list its))) "words" (.val (.list ((its.map wrD).map sd)))) ?_ (by simp; omega)) ?_
  · show some (Slot.ownO (some a₁) (List.map lvS (pre ++ [(b, its)]))) = _
    rw [List.map_append]; rfl
  · rw [ds_lv (b, its)]
    exact TgtG.list (.cons rfl (TgtG.name (.inl rfl)) (.cons rfl (TgtG.name (.inl rfl)) (.cons rfl (TgtG.name (.inl rfl)) .nil)))
  refine Tr.step (Sx.assign (Ev.name rfl) (.inl rfl)) ?_
  refine Tr.step (Sx.assign (Ev.bin (Ev.bin Ev.lit (hjo rfl rfl) (BinR.cat (by omega))) Ev.lit (BinR.cat (by rw [List.length_append]; omega))) (.inl rfl)) ?_
  let σ : Sto := [("value", .val (clD (b, its))), ("written", .val (sd (wrD (clD (b, its))))), ("is_tuple", .val (.bool b)), ("items", .val (.list its)), ("opened", .ownO (some a₁) (pre.map lvS)), ("things", .ownO (some a₂) (thS ths))]
  refine Tr.cons (P₁ := fun af ρ' => af = .next ∧ SubS σ ρ') (Sx.ite (b := b) (Tst.val (Ev.name rfl) TruR.bool) (fun hb => ?_) fun hb => .nil ⟨rfl, ?_⟩) (fun ρ' h => Tr.ent (Ent.sub h.2) ?_) (fun _ _ h q => absurd q.1 h)
  · subst hb
    refine Tr.step (Sx.assign (Ev.call (Ev.blt B.tup.1 B.tup.2) (.type _) (EvL.cons (Ev.name rfl) EvL.nil) (FnR.tupleOf (by omega))) (.inl rfl)) ?_
    refine Tr.last (Sx.mono (Sx.assign (d := sd (wrD (clD (true, its)))) (Ev.to (Ev.bin (Ev.bin (Ev.bin Ev.lit (hjo rfl rfl) (BinR.cat (by omega))) (Ev.ite (d := sd (if its.length = 1 then cs "," else cs "")) (Tst.cmp (Ev.call (Ev.blt B.len.1 B.len.2) (.builtin _) (EvL.cons (Ev.name rfl) EvL.nil) (FnR.lenL (by simp; omega))) Ev.int CmpR.eqI) (fun h1 => ?_) fun h1 => ?_) (BinR.cat ?_)) Ev.lit (BinR.cat ?_)) ?_) (.inl rfl)) ?_)
    · have : its.length = 1 := by have := of_decide_eq_true h1; simp at this; omega
      rw [if_pos this]; exact Ev.lit
    · have : ¬ its.length = 1 := by have := of_decide_eq_false h1; simp at this; omega
      rw [if_neg this]; exact Ev.lit
    · rw [List.length_append]
      split <;> omega
    · rw [List.length_append, List.length_append]
      split <;> omega
    · show sd _ = sd (tupL (wrDs its))
      rw [wrDs_map, tupL_eq, List.length_map]
      simp only [List.append_assoc]
    · rintro _ _ ⟨rfl, rfl⟩
      exact ⟨rfl, .cons rfl (.cons rfl (.cons rfl (.cons rfl (.cons rfl (.cons rfl .nil)))))⟩
  · subst hb
    refine .cons rfl (.cons ?_ (.cons rfl (.cons rfl (.cons rfl (.cons rfl .nil)))))
    show some (Slot.val (sd _)) = some (Slot.val (sd (listL (wrDs its))))
    rw [wrDs_map, listL_eq]
    simp only [List.append_assoc]
  clear h ρ'
  refine Tr.step (Sx.appendG (q := some a₂) (sl := thS ths) (d := .val (thD (clD (b, its)))) rfl (EvS.val (Ev.to (Ev.tuple (ds := [clD (b, its), sd (wrD (clD (b, its))), sd (nmD (clD (b, its))), .list ((its.filter D.isStr).map id)]) (EvL.cons (Ev.name rfl) (EvL.cons (Ev.name rfl) (EvL.cons (Ev.ite (Tst.val (Ev.name rfl) TruR.bool) (fun hb => ?_) fun hb => ?_) (EvL.cons (Ev.compF (g := id) D.isStr id [] (Ev.name (d := .list its) rfl) (by rw [List.map_id]; exact IterR.list) (Capt.of .nil rfl) (by omega) fun x hx => ⟨_, TgtG.name (.inl rfl), .nil, Tst.bin (Ev.call (Ev.blt B.isi.1 B.isi.2) (.builtin _) (EvL.cons (Ev.name rfl) (EvL.cons (Ev.blt B.str.1 B.str.2) EvL.nil)) (isStr_of B (hp x hx))), fun _ => Ev.name rfl⟩) EvL.nil)))) (by show 4 ≤ sizeLine; decide)) ?_)) (by simp; omega)) ?_
  · subst hb; exact Ev.lit
  · subst hb; exact Ev.lit
  · rw [List.map_id]
    cases b <;> rfl
  -- what is still open
  refine Tr.last (Sx.ite (b := !pre.isEmpty) (Tst.to (Tst.cmp (Ev.look (d := .list (Slot.ds (pre.map lvS))) rfl rfl) (Ev.list EvL.nil (Nat.zero_le _)) CmpR.neNil) ?_) (fun hb => ?_) fun hb => .nil ⟨(fun d' h => nomatch h), ?_⟩)
  · cases pre <;> rfl
  · obtain ⟨pr, q, rfl⟩ : ∃ pr q, pre = pr ++ [q] := by
      rcases List.eq_nil_or_concat pre with rfl | ⟨pr, q, rfl⟩
      · cases hb
      · exact ⟨pr, q, by simp⟩
    rw [put_snoc]
    have hql := hpl q (by simp)
    have hprl : pr.length ≤ 1000 := by simp at hpre; omega
    have hmap : ((pr ++ [q]).map lvS) = pr.map lvS ++ [lvS q] := by rw [List.map_append]; rfl
    refine Tr.step (Sx.append3 (q := some a₁) (sl := pr.map lvS) (ins := [.val (.bool q.1), .own (q.2.map .val), .own (q.2.map fun d => .val (sd (wrD d)))]) (inner := q.2.map .val) (j := 1) (d := clD (b, its)) ?_ (Ev.neg Ev.int) Ev.int rfl (Ev.name rfl) (by simp; omega) (by simp; omega) (by simp)) ?_
    · show some (Slot.ownO (some a₁) _) = _
      rw [hmap]
    refine Tr.last (Sx.mono (Sx.append3 (q := some a₁) (sl := pr.map lvS) (ins := [.val (.bool q.1), .own (q.2.map .val ++ [.val (clD (b, its))]), .own (q.2.map fun d => .val (sd (wrD d)))]) (inner := q.2.map fun d => .val (sd (wrD d))) (j := 2) (d := sd (wrD (clD (b, its)))) rfl (Ev.neg Ev.int) Ev.int rfl (Ev.name rfl) (by simp; omega) (by simp; omega) (by simp)) ?_)
    rintro _ _ ⟨rfl, rfl⟩
    refine ⟨(fun d' h => nomatch h), .cons ?_ (.cons ?_ .nil)⟩
    · show some (Slot.ownO (some a₁) (pr.map lvS ++ [.own [.val (.bool q.1), .own (q.2.map .val ++ [.val (clD (b, its))]), .own ((q.2.map fun d => .val (sd (wrD d))) ++ [.val (sd (wrD (clD (b, its))))])]])) = some (Slot.ownO (some a₁) ((pr ++ [(q.1, q.2 ++ [clD (b, its)])]).map lvS))
      simp [lvS]
    · show some (Slot.ownO (some a₂) (thS ths ++ [.val (thD (clD (b, its)))])) = some (Slot.ownO (some a₂) (thS (ths ++ [clD (b, its)])))
      simp [thS]
  · have : pre = [] := by cases pre with | nil => rfl | cons _ _ => cases hb
    subst this
    refine .cons rfl (.cons ?_ .nil)
    show some (Slot.ownO (some a₂) (thS ths ++ [.val (thD (clD (b, its)))])) = some (Slot.ownO (some a₂) (thS (ths ++ [clD (b, its)])))
    simp [thS]
end
end Mine
namespace Mine
set_option maxRecDepth 100000

noncomputable def massL (its : List D) : Nat := (its.map wrD).flatten.length + its.length * 2
noncomputable def mass : List (Bool × List D) → Nat
  | [] => 0
  | p :: r => massL p.2 + 5 + mass r
theorem mass_append (a b : List (Bool × List D)) : mass (a ++ b) = mass a + mass b := by
  induction a with
  | nil => simp [mass]
  | cons p a ih => show massL p.2 + 5 + mass (a ++ b) = massL p.2 + 5 + mass a + mass b; omega
theorem massL_snoc (its : List D) (d : D) : massL (its ++ [d]) = massL its + (wrD d).length + 2 := by
  unfold massL
  simp only [List.map_append, List.flatten_append, List.length_append, List.map_cons, List.map_nil, List.flatten_cons, List.flatten_nil, List.append_nil, List.length_cons, List.length_nil]
  omega
theorem mass_mem {op : List (Bool × List D)} {p : Bool × List D} (h : p ∈ op) : massL p.2 ≤ mass op := by
  induction op with
  | nil => cases h
  | cons q r ih =>
    show _ ≤ massL q.2 + 5 + mass r
    rcases List.mem_cons.mp h with e | h
    · subst e; omega
    · have := ih h; omega
theorem cl_len (p : Bool × List D) : (wrD (clD p)).length ≤ massL p.2 + 3 := by
  have e1 : (cs "[").length = 1 ∧ (cs "]").length = 1 ∧ (cs "(").length = 1 ∧ (cs ")").length = 1 ∧ (cs ",").length = 1 ∧ (cs "").length = 0 ∧ (cs ", ").length = 2 := by decide
  have hj := joinL_len (cs ", ") (p.2.map wrD)
  rw [e1.2.2.2.2.2.2, List.length_map] at hj
  unfold clD massL
  split
  · show (tupL (wrDs p.2)).length ≤ _
    rw [wrDs_map, tupL_eq]
    simp only [List.length_append]
    split <;> omega
  · show (listL (wrDs p.2)).length ≤ _
    rw [wrDs_map, listL_eq]
    simp only [List.length_append]
    omega
theorem intL_len5 {i : Int} (h : i.natAbs ≤ 1000) : (intL i).length ≤ 5 := by
  have e := int_text_length_le10 (a := i) (k := 4) (by decide) (by omega)
  have e2 : (S (intL i)).length = (toString i).length := by rw [← ofString_S]; exact PySem.ofString_length _
  rw [S_length] at e2
  omega
theorem leaf_len {d : D} (h : Tg 0 d) : (wrD d).length ≤ 20 := by
  have e1 : (cs "<").length = 1 ∧ (cs "QName").length = 5 ∧ (cs " ").length = 1 ∧ (cs ">").length = 1 ∧ (cs "{").length = 1 ∧ (cs "}").length = 1 ∧ (cs ": ").length = 2 := by decide
  cases h with
  | @str _ x hx => have := txs_repr _ hx; show (reprL x).length ≤ 20; omega
  | none => decide
  | @bool _ b => cases b <;> decide
  | bytes0 => decide
  | bytes2 => decide
  | int hi => have := intL_len5 hi; show (intL _).length ≤ 20; omega
  | @qn _ x hx => have := txs_repr _ (List.mem_of_mem_drop hx); show (qnL x).length ≤ 20; simp only [qnL, List.length_append, List.length_nil]; omega
  | @dict _ x i hx hi =>
    have := txs_repr _ hx
    have := intL_len5 hi
    show (dictL x (intL i)).length ≤ 20
    rw [dictL_eq]
    simp only [List.length_append]; omega

structure Thg (d : D) : Prop where
  tg : Tg 6 d
  no : d.isStr = false
  len : (wrD d).length ≤ 3000

/-- behind k steps -/
structure I08 (k : Nat) (op : List (Bool × List D)) (ths : List D) : Prop where
  len : op.length ≤ 6
  bot : ∀ p, op.head? = some p → p.1 = false
  tg : ∀ i p, op[i]? = some p → ∀ d ∈ p.2, Tg (5 - i) d
  ms : mass op ≤ 30 * k + 10
  th : ths.length ≤ k
  ok : ∀ d ∈ ths, Thg d

theorem I08.start : I08 0 [(false, [])] [] := by
  refine ⟨by decide, fun p h => by cases h; rfl, fun i p h d hd => ?_, by decide, by decide, fun _ h => nomatch h⟩
  match i with
  | 0 => cases h; cases hd
  | i + 1 => cases h

theorem I08.mono {k : Nat} {op : List (Bool × List D)} {ths : List D} (h : I08 k op ths) : I08 (k + 1) op ths := ⟨h.len, h.bot, h.tg, by have := h.ms; omega, by have := h.th; omega, h.ok⟩
theorem I08.open {k : Nat} {op : List (Bool × List D)} {ths : List D} {b : Bool} (h : I08 k op ths) (hne : op ≠ []) (hl : op.length < 6) : I08 (k + 1) (op ++ [(b, [])]) ths := by
  refine ⟨by simp; omega, fun p e => ?_, fun i p e d hd => ?_, ?_, by have := h.th; omega, h.ok⟩
  · cases op with
    | nil => exact absurd rfl hne
    | cons q r => exact h.bot p e
  · rw [List.getElem?_append] at e
    split at e
    · exact h.tg i p e d hd
    · have : p = (b, []) := by
        have := List.mem_of_getElem? e
        simpa using this
      rw [this] at hd; cases hd
  · rw [mass_append]
    have := h.ms
    show mass op + (massL [] + 5 + 0) ≤ _
    have : massL [] = 0 := rfl
    omega
/-- something is laid into what stands open -/
theorem I08.lay {k : Nat} {op : List (Bool × List D)} {ths : List D} {d : D} (h : I08 k op ths) (hne : op ≠ []) (hd : Tg 0 d) : I08 (k + 1) (put op d) ths := by
  obtain ⟨pr, q, rfl⟩ : ∃ pr q, op = pr ++ [q] := by
    rcases List.eq_nil_or_concat op with rfl | ⟨pr, q, rfl⟩
    · exact absurd rfl hne
    · exact ⟨pr, q, by simp⟩
  rw [put_snoc]
  have hl := leaf_len hd
  refine ⟨by have := h.len; simpa using this, fun p e => ?_, fun i p e x hx => ?_, ?_, by have := h.th; omega, h.ok⟩
  · cases pr with
    | nil => cases e; exact h.bot q rfl
    | cons z r => exact h.bot p e
  · rw [List.getElem?_append] at e
    split at e
    · exact h.tg i p (by rw [List.getElem?_append, if_pos ‹_›]; exact e) x hx
    · rename_i hi
      have hi0 : i = pr.length := by
        have : i - pr.length < 1 := (List.getElem?_eq_some_iff.mp e).1
        omega
      subst hi0
      have hp : p = (q.1, q.2 ++ [d]) := by simpa using e.symm
      subst hp
      rcases List.mem_append.mp hx with hx | hx
      · exact h.tg pr.length q (by simp) x hx
      · rw [List.mem_singleton.mp hx]; exact hd.mono (Nat.zero_le _)
  · have := h.ms
    rw [mass_append] at this ⊢
    simp only [mass, massL_snoc] at this ⊢
    omega
theorem I08.thing {k : Nat} {op : List (Bool × List D)} {ths : List D} {d : D} (h : I08 k op ths) (hk : ths.length < k) (hd : Thg d) : I08 k op (ths ++ [d]) :=
  ⟨h.len, h.bot, h.tg, h.ms, by simp; omega, fun x hx => (List.mem_append.mp hx).elim (h.ok x) fun hx => by rw [List.mem_singleton.mp hx]; exact hd⟩

theorem cl_ok {k : Nat} {pre : List (Bool × List D)} {p : Bool × List D} {ths : List D} (h : I08 k (pre ++ [p]) ths) (hk : k ≤ 80) : Tg (6 - pre.length) (clD p) ∧ (wrD (clD p)).length ≤ 3000 ∧ (clD p).isStr = false := by
  have hl : pre.length ≤ 5 := by have := h.len; simp at this; omega
  have hm : massL p.2 + 5 ≤ mass (pre ++ [p]) := by rw [mass_append]; simp only [mass]; omega
  have := h.ms
  have hc := cl_len p
  have hd : ∀ d ∈ p.2, Tg (5 - pre.length) d := h.tg pre.length p (by simp)
  refine ⟨?_, by omega, ?_⟩
  · rw [show 6 - pre.length = (5 - pre.length) + 1 by omega]
    unfold clD
    split
    · exact .tuple hd
    · exact .list hd
  · unfold clD
    split <;> rfl
theorem I08.close {k : Nat} {pre : List (Bool × List D)} {p : Bool × List D} {ths : List D} (h : I08 k (pre ++ [p]) ths) (hk : k ≤ 80) : I08 (k + 1) (put pre (clD p)) (ths ++ [clD p]) := by
  obtain ⟨ht, hlen, hs⟩ := cl_ok h hk
  have hthg : Thg (clD p) := ⟨ht.mono (by omega), hs, hlen⟩
  have hths : ∀ d ∈ ths ++ [clD p], Thg d := fun x hx => (List.mem_append.mp hx).elim (h.ok x) fun hx => by rw [List.mem_singleton.mp hx]; exact hthg
  rcases List.eq_nil_or_concat pre with rfl | ⟨pr, q, rfl⟩
  · exact ⟨Nat.zero_le _, (fun p e => nomatch e), (fun i p e => nomatch e), by simp [put_nil, mass], by have := h.th; simp; omega, hths⟩
  · rw [List.concat_eq_append] at h ht
    rw [List.concat_eq_append, put_snoc]
    have hc := cl_len p
    refine ⟨by have := h.len; simp at this ⊢; omega, fun p' e => ?_, fun i p' e x hx => ?_, ?_, by have := h.th; simp; omega, hths⟩
    · cases pr with
      | nil => cases e; exact h.bot q rfl
      | cons z r => exact h.bot p' e
    · have hq := h.tg
      rw [List.getElem?_append] at e
      split at e
      · rename_i hi
        exact h.tg i p' (by rw [List.append_assoc, List.getElem?_append, if_pos hi]; exact e) x hx
      · rename_i hi
        have hi0 : i = pr.length := by
          have : i - pr.length < 1 := (List.getElem?_eq_some_iff.mp e).1
          omega
        subst hi0
        have hp : p' = (q.1, q.2 ++ [clD p]) := by simpa using e.symm
        subst hp
        rcases List.mem_append.mp hx with hx | hx
        · exact h.tg pr.length q (by simp) x hx
        · rw [List.mem_singleton.mp hx]
          have hl6 := h.len
          simp at hl6
          have e3 : 6 - (pr ++ [q]).length = 5 - pr.length := by simp
          rw [e3] at ht; exact ht
    · have := h.ms
      rw [mass_append, mass_append] at this
      rw [mass_append]
      simp only [mass, massL_snoc] at this ⊢
      omega
end Mine
namespace Mine
set_option maxRecDepth 100000

noncomputable def txD : D := .list ((txs.map fun x => (x, reprL x)).map fun p => .tuple [sd p.1, sd p.2])
noncomputable def oneD : List D := [.none, .bool true, .bool false, .bytes [], .bytes [38, 60]]
noncomputable def sgD : D := .list (oneD.map fun d => .tuple [d, sd (wrD d), sd (nmD d)])
noncomputable def txI (i : Int) : List Nat := txs.getD i.toNat []
theorem txI_mem {i : Int} (h : 0 ≤ i) (h2 : i < 12) : txI i ∈ txs := by
  unfold txI
  have : i.toNat < txs.length := by show _ < 12; omega
  rw [List.getD_eq_getElem?_getD, List.getElem?_eq_getElem this]
  exact List.getElem_mem this
theorem txI_mem7 {i : Int} (h : 7 ≤ i) (h2 : i < 12) : txI i ∈ txs.drop 7 := by
  unfold txI
  have : i.toNat < txs.length := by show _ < 12; omega
  rw [List.getD_eq_getElem?_getD, List.getElem?_eq_getElem this]
  refine List.mem_of_getElem? (i := i.toNat - 7) ?_
  rw [List.getElem?_drop, show 7 + (i.toNat - 7) = i.toNat by omega, List.getElem?_eq_getElem this]; rfl
theorem tx_lit : (txs.map fun x => (x, reprL x)) = [(cs "&", cs "'&'"), (cs "<", cs "'<'"), (cs ">", cs "'>'"), (cs "\"", cs "'\"'"), (cs "\r", cs "'\\r'"), (cs "\n", cs "'\\n'"), (cs "\t", cs "'\\t'"), (cs "", cs "''"), (cs "&&", cs "'&&'"), (cs "a<b", cs "'a<b'"), (cs "'", cs "\"'\""), (cs "&amp;", cs "'&amp;'")] := by decide +kernel

theorem ds_length : ∀ l : List Slot, (Slot.ds l).length = l.length
  | [] => rfl
  | _ :: l => by show (Slot.ds l).length + 1 = _; rw [ds_length l]; rfl

section
variable {c : Cx} {n : Nat} {K : Frag} {k : Bool} {ρ : Sto} {sc : Scope}

theorem tx_at {i : Int} (h0 : 0 ≤ i) (h1 : i < 12) : ItemR c txD (.int i) (.tuple [sd (txI i), sd (reprL (txI i))]) := by
  refine ItemR.list h0 ?_ (by omega)
  have : i.toNat < txs.length := by show _ < 12; omega
  rw [List.map_map, List.getElem?_map, List.getElem?_eq_getElem this]
  unfold txI
  rw [List.getD_eq_getElem?_getD, List.getElem?_eq_getElem this]; rfl
theorem Ev.tx {i : Int} {e : Expr} {p1 p2 : Pos} (hx : ρ.lookup "texts" = some (.val txD)) (he : Ev c n sc k ρ e (.int i)) (h0 : 0 ≤ i) (h1 : i < 12) (hs : ∀ o i, subscripted e false o i = operate [o, i] (getItem o i) := by intro _ _; rfl) :
    Ev c n sc k ρ (.Subscript (.Name (Str.ofString "texts") p1) e p2) (.tuple [sd (txI i), sd (reprL (txI i))]) := Ev.subL (ds := _) (Ev.name hx) he (tx_at h0 h1) hs
theorem tup_at {ds : List D} {j : Nat} {d : D} (h : ds[j]? = some d) (hl : ds.length ≤ 1000) : ItemR c (.tuple ds) (.int j) d := by
  have : j < ds.length := (List.getElem?_eq_some_iff.mp h).1
  exact ItemR.tuple (j := j) (by rw [seqIndex_of (by omega) (by omega), Int.toNat_natCast]) h (by omega) (by omega)

/-- what the law asks of the things -/
noncomputable def P08 (d : D) : Prop := ∃ ths, (∀ d ∈ ths, Thg d) ∧ (∃ ts its, ths = ts ++ [.list its]) ∧ ths.length ≤ 80 ∧ d = .list (ths.map thD)

structure C08 (c : Cx) (K : Frag) (f : Addr) : Prop where
  B : B08 c K
  I : QI c K f
  X : K.In c.base
  kp : keepIn K (.ref c.qc) = true
  gq : c.mg (Str.ofString "QName") = some (.ref c.qc)
  he : IsDef c 139 (sc08 9) ["opened", "things"] (bd08 9)
  ge : c.mg (Str.ofString "_law_end") = some (.ref 139)

noncomputable abbrev σ08 (op : List (Bool × List D)) (ths : List D) : Sto := [("texts", .val txD), ("single", .val sgD), ("things", .own (thS ths)), ("opened", .own (op.map lvS))]

theorem things_len {ths : List D} : (thS ths).length = ths.length := by simp [thS]
theorem lv_snoc (op : List (Bool × List D)) (p : Bool × List D) : op.map lvS ++ [lvS p] = (op ++ [p]).map lvS := by rw [List.map_append]; rfl

/-- value and written are laid into what stands open -/
theorem lay08 {op : List (Bool × List D)} {kk : Nat} {ths : List D} {d : D} {rest : List Stmt} {P : AF → Sto → Prop} {ev ew : Expr} {p1 p2 p3 p4 p5 p6 p7 p9 p10 q1 q2 q3 q4 q5 q6 q7 q9 q10 : Pos} {k1 k2 k3 k4 : Nat}
    (h : I08 kk op ths) (hk : kk ≤ 100) (hne : op ≠ []) (hx : ρ.lookup "opened" = some (.own (op.map lvS)))
    (hv : Ev c n (sc08 10) true ρ ev d) (hw : ∀ sl, Ev c n (sc08 10) true (setS ρ "opened" sl) ew (sd (wrD d)))
    (hl1 : (p9.endLine == p10.line) = true) (hl2 : (q9.endLine == q10.line) = true) (pv : plainE ev = true) (pw : plainE ew = true)
    (sv : ∀ env : Env, swapsWith (.Call (.Attribute (.Subscript (.Subscript (.Name (Str.ofString "opened") p1) (.UnaryOp .USub (.Constant (.int 1) k1 p2) p3) p4) (.Constant (.int 1) k2 p5) p6) (Str.ofString "append") p9) [ev] [] p10) none p7.line env = pure false)
    (sw : ∀ env : Env, swapsWith (.Call (.Attribute (.Subscript (.Subscript (.Name (Str.ofString "opened") q1) (.UnaryOp .USub (.Constant (.int 1) k3 q2) q3) q4) (.Constant (.int 2) k4 q5) q6) (Str.ofString "append") q9) [ew] [] q10) none q7.line env = pure false)
    (hr : Tr c n (sc08 10) (setS (setS ρ "opened" (.own ((op.dropLast ++ [op.getLast hne]).map lvS))) "opened" (.own ((put op d).map lvS))) rest P) :
    Tr c n (sc08 10) ρ (.Expr (.Call (.Attribute (.Subscript (.Subscript (.Name (Str.ofString "opened") p1) (.UnaryOp .USub (.Constant (.int 1) k1 p2) p3) p4) (.Constant (.int 1) k2 p5) p6) (Str.ofString "append") p9) [ev] [] p10) p7 ::
      .Expr (.Call (.Attribute (.Subscript (.Subscript (.Name (Str.ofString "opened") q1) (.UnaryOp .USub (.Constant (.int 1) k3 q2) q3) q4) (.Constant (.int 2) k4 q5) q6) (Str.ofString "append") q9) [ew] [] q10) q7 :: rest) P := by
  obtain ⟨pr, q, rfl⟩ : ∃ pr q, op = pr ++ [q] := ⟨op.dropLast, op.getLast hne, (List.dropLast_concat_getLast hne).symm⟩
  rw [put_snoc] at hr
  have hql : q.2.length ≤ 10000 := by
    have := mass_mem (op := pr ++ [q]) (p := q) (by simp)
    have := h.ms
    unfold massL at *
    omega
  have hprl : pr.length ≤ 1000 := by have := h.len; simp at this; omega
  refine Tr.step (Sx.append3 (q := none) (sl := pr.map lvS) (ins := [.val (.bool q.1), .own (q.2.map .val), .own (q.2.map fun d => .val (sd (wrD d)))]) (inner := q.2.map .val) (j := 1) (d := d) (hx.trans (by rw [List.map_append]; rfl)) (Ev.neg Ev.int) Ev.int rfl hv (by simp; omega) (by simp; omega) (by simp) pv hl1 (by decide) (fun _ => rfl) (fun _ _ => rfl) (fun _ _ => rfl) sv) ?_
  refine Tr.step (Sx.append3 (q := none) (sl := pr.map lvS) (ins := [.val (.bool q.1), .own (q.2.map .val ++ [.val d]), .own (q.2.map fun d => .val (sd (wrD d)))]) (inner := q.2.map fun d => .val (sd (wrD d))) (j := 2) (d := sd (wrD d)) rfl (Ev.neg Ev.int) Ev.int rfl (hw _) (by simp; omega) (by simp; omega) (by simp) pw hl2 (by decide) (fun _ => rfl) (fun _ _ => rfl) (fun _ _ => rfl) sw) ?_
  have e : pr.map lvS ++ [Slot.own ([Slot.val (.bool q.1), .own (q.2.map .val ++ [.val d]), .own (q.2.map fun d => .val (sd (wrD d)))].set 2 (.own ((q.2.map fun d => .val (sd (wrD d))) ++ [.val (sd (wrD d))])))] = (pr ++ [(q.1, q.2 ++ [d])]).map lvS := by simp [lvS]
  rw [e]
  have e2 : ∀ (a b s : Slot), setS (setS ρ "opened" a) "opened" s = setS (setS ρ "opened" b) "opened" s := fun a b s => by
    unfold setS
    show _ :: (if _ then _ else _) = _ :: (if _ then _ else _)
    rw [if_pos rfl, if_pos rfl]
  rw [e2 _ (.own (((pr ++ [q]).dropLast ++ [(pr ++ [q]).getLast hne]).map lvS))]
  exact hr
end
end Mine
namespace Mine
set_option maxRecDepth 100000
noncomputable def ifB : Stmt → List Stmt
  | .If _ b _ _ => b
  | _ => []
noncomputable def ifO : Stmt → List Stmt
  | .If _ _ o _ => o
  | _ => []
noncomputable def forB : Stmt → List Stmt
  | .For _ _ b _ _ => b
  | _ => []
noncomputable def stN (i : Nat) (l : List Stmt) : Stmt := l.getD i (.Pass ⟨0, 0, 0, 0⟩)
noncomputable abbrev tu08 : List Stmt := forB (stN 4 (bd08 10))
noncomputable abbrev if08 : Stmt := stN 2 tu08
noncomputable abbrev brA : List Stmt := ifB if08
noncomputable abbrev brB : List Stmt := ifB (stN 0 (ifO if08))
noncomputable abbrev brC : List Stmt := ifB (stN 0 (ifO (stN 0 (ifO if08))))
noncomputable abbrev brD : List Stmt := ifO (stN 0 (ifO (stN 0 (ifO if08))))

section
variable {c : Cx} {n : Nat} {K : Frag} {f : Addr} {op : List (Bool × List D)} {ths : List D} {kk : Nat} {κ q : Int}

noncomputable abbrev ρ08 (op : List (Bool × List D)) (ths : List D) (κ q : Int) : Sto := [("kind", .val (.int κ)), ("rest", .val (.int q)), ("texts", .val txD), ("single", .val sgD), ("things", .own (thS ths)), ("opened", .own (op.map lvS))]
theorem put_ne {pre : List (Bool × List D)} {d : D} (h : pre ≠ []) : put pre d ≠ [] := by
  rcases List.eq_nil_or_concat pre with rfl | ⟨pr, q, rfl⟩
  · exact absurd rfl h
  · rw [List.concat_eq_append, put_snoc]; simp
/-- a turn ends well -/
noncomputable def T08 (kk : Nat) : AF → Sto → Prop := fun af ρ' => af = .next ∧ ∃ op ths, op ≠ [] ∧ I08 (kk + 1) op ths ∧ SubS (σ08 op ths) ρ'

theorem len_op (Q : C08 c K f) {k : Bool} {ρ : Sto} {sc : Scope} {p1 p2 p3 : Pos} (h : I08 kk op ths) (hx : ρ.lookup "opened" = some (.own (op.map lvS))) (hl : c.mg (Str.ofString "len") = none ∧ c.mb (Str.ofString "len") = some (.builtin "len")) (hg : sc.names.lookup (Str.ofString "len") = some .globalImplicit) : Ev c n sc k ρ (.Call (.Name (Str.ofString "len") p1) [.Name (Str.ofString "opened") p2] [] p3) (.int op.length) := by
  have e : (Slot.ds (op.map lvS)).length = op.length := by rw [ds_length, List.length_map]
  have := h.len
  rw [← e]
  exact Ev.callF (Ev.blt hl.1 hl.2 hg) (.builtin _) (EvL.cons (Ev.look (d := .list (Slot.ds (op.map lvS))) hx rfl) EvL.nil) (FnR.lenL (by omega)) rfl rfl (by intro _; rfl)

theorem brA08 (Q : C08 c K f) (h : I08 kk op ths) (hne : op ≠ []) : Tr c n (sc08 10) (ρ08 op ths κ q) brA (T08 kk) := by
  refine Tr.last (Sx.ite (b := decide ((op.length : Int) < 6)) (Tst.cmp (len_op Q h rfl Q.B.len rfl) Ev.int CmpR.ltI) (fun hb => ?_) fun hb => .nil ⟨rfl, op, ths, hne, h.mono, .cons rfl (.cons rfl (.cons rfl (.cons rfl .nil)))⟩)
  have hl : op.length < 6 := by have := of_decide_eq_true hb; omega
  refine Tr.last (Sx.mono (Sx.appendG (q := none) (sl := op.map lvS) (d := lvS (decide (κ = 1), [])) rfl (EvS.lst (EvSL.cons (EvS.val (Ev.cmp (Ev.name rfl) Ev.int CmpR.eqI)) (EvSL.cons (EvS.lst EvSL.nil (Nat.zero_le _)) (EvSL.cons (EvS.lst EvSL.nil (Nat.zero_le _)) EvSL.nil))) (by show 3 ≤ sizeLine; decide)) (by simp; omega)) ?_)
  rintro _ _ ⟨rfl, rfl⟩
  refine ⟨rfl, op ++ [(decide (κ = 1), [])], ths, by simp, h.open hne hl, .cons rfl (.cons rfl (.cons rfl (.cons ?_ .nil)))⟩
  rw [← lv_snoc]; rfl

theorem brB08 (Q : C08 c K f) (h : I08 kk op ths) (hne : op ≠ []) (hk : kk ≤ 80) : Tr c (n + 1) (sc08 10) (ρ08 op ths κ q) brB (T08 kk) := by
  refine Tr.last (Sx.ite (b := decide ((op.length : Int) > 1)) (Tst.cmp (len_op Q h rfl Q.B.len rfl) Ev.int CmpR.gtI) (fun hb => ?_) fun hb => .nil ⟨rfl, op, ths, hne, h.mono, .cons rfl (.cons rfl (.cons rfl (.cons rfl .nil)))⟩)
  have hl : 1 < op.length := by have := of_decide_eq_true hb; omega
  obtain ⟨pre, p, rfl⟩ : ∃ pr q, op = pr ++ [q] := ⟨op.dropLast, op.getLast hne, (List.dropLast_concat_getLast hne).symm⟩
  have hm := h.ms
  have hmem : ∀ z ∈ pre ++ [p], massL z.2 ≤ 10000 := fun z hz => Nat.le_trans (mass_mem hz) (by omega)
  have hpre : pre ≠ [] := by rintro rfl; simp at hl
  have h6 := h.len
  have hth := h.th
  refine Tr.last (Sx.mono (Sx.callS (sl := (pre ++ [p]).map lvS) (tl := thS ths) (by decide) rfl rfl (Ev.glob Q.ge rfl) Q.he.callee (end_fn Q.he Q.B (m := 5 - pre.length) (h.tg pre.length p (by simp)) (by have := hmem p (by simp); unfold massL at this; omega) (by simp at h6; omega) (by omega) fun z hz => by have := hmem z (by simp [hz]); unfold massL at this; omega)) ?_)
  rintro _ _ ⟨rfl, rfl⟩
  exact ⟨rfl, put pre (clD p), ths ++ [clD p], put_ne hpre, h.close hk, .cons rfl (.cons rfl (.cons rfl (.cons rfl .nil)))⟩

theorem brC08 (Q : C08 c K f) (h : I08 kk op ths) (hne : op ≠ []) (hk : kk ≤ 80) : Tr c n (sc08 10) (ρ08 op ths κ q) brC (T08 kk) := by
  have hq : 0 ≤ q.fmod 12 ∧ q.fmod 12 < 12 := ⟨Int.fmod_nonneg_of_pos _ (by decide), Int.fmod_lt_of_pos _ (by decide)⟩
  refine lay08 (d := sd (txI (q.fmod 12))) h (by omega) hne rfl (Ev.subT (ds := _) (Ev.tx rfl (Ev.bin (Ev.name rfl) Ev.int (BinR.fmod (by decide) Q.B.hn)) hq.1 hq.2) Ev.int (tup_at (j := 0) rfl (by show 2 ≤ 1000; decide))) (fun sl => Ev.subT (ds := _) (Ev.tx rfl (Ev.bin (Ev.name rfl) Ev.int (BinR.fmod (by decide) Q.B.hn)) hq.1 hq.2) Ev.int (tup_at (j := 1) rfl (by show 2 ≤ 1000; decide))) rfl rfl rfl rfl (fun _ => rfl) (fun _ => rfl) ?_
  exact .nil ⟨rfl, _, ths, put_ne hne, h.lay hne (.str (txI_mem hq.1 hq.2)), .cons rfl (.cons rfl (.cons rfl (.cons rfl .nil)))⟩

noncomputable abbrev σD08 (d : D) (op : List (Bool × List D)) (ths : List D) : Sto := [("value", .val d), ("written", .val (sd (wrD d))), ("name", .val (sd (nmD d))), ("keys", .val (keyD d)), ("texts", .val txD), ("single", .val sgD), ("things", .own (thS ths)), ("opened", .own (op.map lvS))]
theorem qn_lit (x : List Nat) : cs "<QName " ++ reprL x ++ cs ">" = qnL x := by
  have e : cs "<QName " = cs "<" ++ (cs "QName" ++ cs " ") := by decide
  rw [e, qnL]; simp
set_option maxHeartbeats 1000000 in
theorem brD08 (Q : C08 c K f) (h : I08 kk op ths) (hne : op ≠ []) (hk : kk ≤ 80) : Tr c (n + 2) (sc08 10) (ρ08 op ths κ q) brD (T08 kk) := by
  have hn := Q.B.hn
  have h5 : 0 ≤ q.fmod 5 ∧ q.fmod 5 < 5 := ⟨Int.fmod_nonneg_of_pos _ (by decide), Int.fmod_lt_of_pos _ (by decide)⟩
  have h25 : 0 ≤ (q.fdiv 2).fmod 5 ∧ (q.fdiv 2).fmod 5 < 5 := ⟨Int.fmod_nonneg_of_pos _ (by decide), Int.fmod_lt_of_pos _ (by decide)⟩
  have h12 : 0 ≤ (q.fdiv 2).fmod 12 ∧ (q.fdiv 2).fmod 12 < 12 := ⟨Int.fmod_nonneg_of_pos _ (by decide), Int.fmod_lt_of_pos _ (by decide)⟩
  have hN : 0 ≤ q.fmod 2001 ∧ q.fmod 2001 < 2001 := ⟨Int.fmod_nonneg_of_pos _ (by decide), Int.fmod_lt_of_pos _ (by decide)⟩
  refine .step (.assign .none (.inl rfl)) ?_
  refine .step (.assign (.bin (.bin (.name rfl) .int (.fmod (by decide))) .int .sub) (.inl rfl)) ?_
  generalize hi : q.fmod 2001 - 1000 = i
  have hi1 : i.natAbs ≤ 1000 := by omega
  have hlog := log2_small (i := i) (by omega)
  have hil := intL_len5 hi1
  refine .ent (ρ' := [("number", .val (.int i)), ("keys", .val .none), ("kind", .val (.int κ)), ("rest", .val (.int q)), ("texts", .val txD), ("single", .val sgD), ("things", .own (thS ths)), ("opened", .own (op.map lvS))]) (.sub (.cons rfl (.cons rfl (.cons rfl (.cons rfl (.cons rfl (.cons rfl (.cons rfl (.cons rfl .nil))))))))) ?_
  refine Tr.cons (P₁ := fun af ρ' => af = .next ∧ ∃ d, Tg 0 d ∧ d.isStr = false ∧ SubS (σD08 d op ths) ρ') (Sx.ite (.cmp (.name rfl) .int .eqI) (fun _ => ?_) fun _ => ?_) ?_ (fun _ _ h q => absurd q.1 h)
  · refine .last (.mono (.assignW (ps := [("value", .int i), ("written", sd (intL i)), ("name", sd (cs "int"))]) (.tuple (.cons (.name rfl) (.cons (.call (.blt Q.B.str.1 Q.B.str.2) (.type _) (.cons (.name rfl) .nil) (.strI hlog)) (.cons .lit .nil))) (by show 3 ≤ sizeLine; decide)) rfl (by intro env he; obtain ⟨⟩ := env; cases he; rfl)) ?_)
    rintro _ _ ⟨rfl, rfl⟩
    exact ⟨rfl, .int i, .int hi1, rfl, .cons rfl (.cons rfl (.cons rfl (.cons rfl (.cons rfl (.cons rfl (.cons rfl (.cons rfl .nil)))))))⟩
  · refine .last (.ite (.cmp (.name rfl) .int .eqI) (fun _ => ?_) fun _ => ?_)
    · have hd : ∃ d, oneD[(q.fmod 5).toNat]? = some d ∧ Tg 0 d ∧ d.isStr = false ∧ keyD d = .none := by
        have : (q.fmod 5).toNat < 5 := by omega
        match (q.fmod 5).toNat, this with
        | 0, _ => exact ⟨_, rfl, .none, rfl, rfl⟩
        | 1, _ => exact ⟨_, rfl, .bool, rfl, rfl⟩
        | 2, _ => exact ⟨_, rfl, .bool, rfl, rfl⟩
        | 3, _ => exact ⟨_, rfl, .bytes0, rfl, rfl⟩
        | 4, _ => exact ⟨_, rfl, .bytes2, rfl, rfl⟩
      obtain ⟨d, hd1, hd2, hd3, hd4⟩ := hd
      refine .last (.mono (.assignT (d := .tuple [d, sd (wrD d), sd (nmD d)]) (.subL (ds := oneD.map fun d => .tuple [d, sd (wrD d), sd (nmD d)]) (.name rfl) (.bin (.name rfl) .int (.fmod (by decide))) (.list h5.1 (by rw [List.getElem?_map, hd1]; rfl) (by omega))) (.tuple (.cons rfl (.name (.inl rfl)) (.cons rfl (.name (.inl rfl)) (.cons rfl (.name (.inl rfl)) .nil))))) ?_)
      rintro _ _ ⟨rfl, rfl⟩
      exact ⟨rfl, d, hd2, hd3, .cons rfl (.cons rfl (.cons rfl (.cons (by rw [hd4]; rfl) (.cons rfl (.cons rfl (.cons rfl (.cons rfl .nil)))))))⟩
    · refine .last (.ite (.cmp (.bin (.name rfl) .int (.fmod (by decide))) .int .eqI) (fun _ => ?_) fun _ => ?_)
      · have hm : 0 ≤ 7 + (q.fdiv 2).fmod 5 ∧ 7 + (q.fdiv 2).fmod 5 < 12 := by omega
        have hx := txI_mem7 (i := 7 + (q.fdiv 2).fmod 5) (by omega) hm.2
        refine .step (.assignT (.tx rfl (.bin .int (.bin (.bin (.name rfl) .int (.fdiv (by decide) (by decide))) .int (.fmod (by decide))) .add) hm.1 hm.2) (.tuple (.cons rfl (.name (.inl rfl)) (.cons rfl (.name (.inl rfl)) .nil)))) ?_
        generalize txI (7 + (q.fdiv 2).fmod 5) = x at hx
        refine .ent (ρ' := [("text", .val (sd x)), ("quoted", .val (sd (reprL x))), ("number", .val (.int i)), ("keys", .val .none), ("texts", .val txD), ("single", .val sgD), ("things", .own (thS ths)), ("opened", .own (op.map lvS))]) (.sub (.cons rfl (.cons rfl (.cons rfl (.cons rfl (.cons rfl (.cons rfl (.cons rfl (.cons rfl .nil))))))))) ?_
        have hl := txs_repr x (List.mem_of_mem_drop hx)
        have e1 : (cs "<QName ").length = 7 := by decide
        have hQN : ∀ {ρ : Sto} {p1 p2 p3 : Pos}, ρ.lookup "text" = some (.val (sd x)) → Ev c (n + 2) (sc08 10) true ρ (.Call (.Name (Str.ofString "QName") p1) [.Name (Str.ofString "text") p2] [] p3) (.qn x) := fun hx => Ev.callK (K := K) Q.X Q.kp (Ev.glob Q.gq rfl) (EvL.cons (Ev.name hx) EvL.nil) (FnR.newQN (n := n) Q.B.Y Q.I) (fun _ => rfl) (fun _ => rfl) (fun _ => rfl)
        have e2 : (cs ">").length = 1 := by decide
        refine .last (.mono (.assignW (ps := [("value", .qn x), ("written", sd (qnL x)), ("name", sd (cs "QName"))]) (.tuple (.cons (hQN rfl) (.cons (.to (.bin (.bin .lit (.name rfl) (.cat (by omega))) .lit (.cat (by rw [List.length_append]; omega))) (by rw [qn_lit])) (.cons .lit .nil))) (by show 3 ≤ sizeLine; decide)) rfl (by intro env he; obtain ⟨⟩ := env; cases he; rfl)) ?_)
        rintro _ _ ⟨rfl, rfl⟩
        exact ⟨rfl, .qn x, .qn hx, rfl, .cons rfl (.cons rfl (.cons rfl (.cons rfl (.cons rfl (.cons rfl (.cons rfl (.cons rfl .nil)))))))⟩
      · have hx := txI_mem h12.1 h12.2
        refine .step (.assignT (.tx rfl (.bin (.bin (.name rfl) .int (.fdiv (by decide) (by decide))) .int (.fmod (by decide))) h12.1 h12.2) (.tuple (.cons rfl (.name (.inl rfl)) (.cons rfl (.name (.inl rfl)) .nil)))) ?_
        generalize txI ((q.fdiv 2).fmod 12) = x at hx
        refine .ent (ρ' := [("text", .val (sd x)), ("quoted", .val (sd (reprL x))), ("number", .val (.int i)), ("texts", .val txD), ("single", .val sgD), ("things", .own (thS ths)), ("opened", .own (op.map lvS))]) (.sub (.cons rfl (.cons rfl (.cons rfl (.cons rfl (.cons rfl (.cons rfl (.cons rfl .nil)))))))) ?_
        have hl := txs_repr x hx
        have e1 : (cs "{").length = 1 ∧ (cs ": ").length = 2 ∧ (cs "}").length = 1 := by decide
        refine .step (.assignW (ps := [("value", .dict [(x, .int i)]), ("written", sd (dictL x (intL i))), ("name", sd (cs "dict"))]) (.tuple (.cons (.dict (.cons (.name rfl) (.name rfl) .nil) (by simp) (by simp) (by simp)) (.cons (.to (.bin (.bin (.bin (.bin .lit (.name rfl) (.cat (by omega))) .lit (.cat (by rw [List.length_append]; omega))) (.call (.blt Q.B.str.1 Q.B.str.2) (.type _) (.cons (.name rfl) .nil) (.strI hlog)) (.cat (by rw [List.length_append, List.length_append]; omega))) .lit (.cat (by rw [List.length_append, List.length_append, List.length_append]; omega))) (by rw [dictL_eq]; simp only [List.append_assoc])) (.cons .lit .nil))) (by show 3 ≤ sizeLine; decide)) rfl (by intro env he; obtain ⟨⟩ := env; cases he; rfl)) ?_
        refine .last (.mono (.assign (.list (.cons (.name rfl) .nil) (by show 1 ≤ sizeLine; decide)) (.inl rfl)) ?_)
        rintro _ _ ⟨rfl, rfl⟩
        exact ⟨rfl, .dict [(x, .int i)], .dict hx hi1, rfl, .cons rfl (.cons rfl (.cons rfl (.cons rfl (.cons rfl (.cons rfl (.cons rfl (.cons rfl .nil)))))))⟩
  · rintro ρ' ⟨-, d, hd1, hd2, hs⟩
    refine .ent (.sub hs) ?_
    refine .step (.appendG (q := none) (sl := thS ths) (d := .val (thD d)) rfl (.val (.tuple (.cons (.name rfl) (.cons (.name rfl) (.cons (.name rfl) (.cons (.name rfl) .nil)))) (by show 4 ≤ sizeLine; decide))) (by have := h.th; rw [things_len]; omega)) ?_
    refine lay08 (d := d) h (by omega) hne rfl (.name rfl) (fun sl => .name rfl) rfl rfl rfl rfl (fun _ => rfl) (fun _ => rfl) ?_
    refine .nil ⟨rfl, put op d, ths ++ [d], put_ne hne, (h.lay hne hd1).thing (by have := h.th; omega) ⟨hd1.mono (by omega), hd2, by have := leaf_len hd1; omega⟩, .cons rfl (.cons rfl (.cons ?_ (.cons rfl .nil)))⟩
    show some (Slot.own (thS ths ++ [.val (thD d)])) = some (Slot.own (thS (ths ++ [d])))
    simp [thS]
end
end Mine
namespace Mine
set_option maxRecDepth 100000
section
variable {c : Cx} {n : Nat} {K : Frag} {f : Addr} {op : List (Bool × List D)} {ths : List D} {kk : Nat} {κ q : Int}

theorem turn08 (Q : C08 c K f) {x : Int} {ρ : Sto} (h : I08 kk op ths) (hne : op ≠ []) (hk : kk ≤ 80) (hx : ρ.lookup "x" = some (.val (.int x))) (hs : SubS (σ08 op ths) (delS "x" ρ)) : Tr c (n + 2) (sc08 10) ρ tu08 (T08 kk) := by
  have hn := Q.B.hn
  refine .ent (ρ' := ("x", .val (.int x)) :: σ08 op ths) (.sub (.cons hx hs)) ?_
  refine .step (.assign (.bin (.name rfl) .int (.fmod (by decide))) (.inl rfl)) ?_
  refine .step (.assign (.bin (.name rfl) .int (.fdiv (by decide) (by decide))) (.inl rfl)) ?_
  generalize x.fmod 8 = κ
  generalize x.fdiv 8 = q
  refine .ent (ρ' := ρ08 op ths κ q) (.sub (.cons rfl (.cons rfl (.cons rfl (.cons rfl (.cons rfl (.cons rfl .nil))))))) ?_
  refine .last (.ite (.cmp (.name rfl) .int .ltI) (fun _ => brA08 Q h hne) fun _ => ?_)
  refine .last (.ite (.cmp (.name rfl) .int .eqI) (fun _ => brB08 Q h hne hk) fun _ => ?_)
  exact .last (.ite (.cmp (.name rfl) .int .ltI) (fun _ => brC08 Q h hne hk) fun _ => brD08 Q h hne hk)

/-- the while at the end -/
structure W08 (a : List (Bool × List D) × List D × Nat) : Prop where
  i : I08 a.2.2 a.1 a.2.1
  k : a.2.2 + a.1.length ≤ 75
  fin : a.1 = [] → ∃ ts its, a.2.1 = ts ++ [.list its]

set_option maxHeartbeats 1000000 in
theorem things_fn (Q : C08 c K f) (hd : IsDef c 146 (sc08 10) ["script"] (bd08 10)) {ns : List Int} (hl : ns.length ≤ 64) : FnE c (n + 3) (.ref 146) [.list (ns.map .int)] P08 := by
  have hn := Q.B.hn
  refine FnE.def hd rfl ?_
  refine .step (.assign (d := txD) (.to (.list (ds := [(cs "&", cs "'&'"), (cs "<", cs "'<'"), (cs ">", cs "'>'"), (cs "\"", cs "'\"'"), (cs "\r", cs "'\\r'"), (cs "\n", cs "'\\n'"), (cs "\t", cs "'\\t'"), (cs "", cs "''"), (cs "&&", cs "'&&'"), (cs "a<b", cs "'a<b'"), (cs "'", cs "\"'\""), (cs "&amp;", cs "'&amp;'")].map fun p => .tuple [sd p.1, sd p.2]) ?_ (by rw [List.length_map]; decide)) (by unfold txD; rw [tx_lit])) (.inl rfl)) ?_
  · iterate 12 refine .cons (.tuple (.cons .lit (.cons .lit .nil)) (by show 2 ≤ sizeLine; decide)) ?_
    exact .nil
  refine .step (.assign (d := sgD) (.list (.cons (.tuple (.cons .none (.cons .lit (.cons .lit .nil))) (by show 3 ≤ sizeLine; decide)) (.cons (.tuple (.cons .bool (.cons .lit (.cons .lit .nil))) (by show 3 ≤ sizeLine; decide)) (.cons (.tuple (.cons .bool (.cons .lit (.cons .lit .nil))) (by show 3 ≤ sizeLine; decide)) (.cons (.tuple (.cons (.bytes rfl) (.cons .lit (.cons .lit .nil))) (by show 3 ≤ sizeLine; decide)) (.cons (.tuple (.cons (.bytes rfl) (.cons .lit (.cons .lit .nil))) (by show 3 ≤ sizeLine; decide)) .nil))))) (by show 5 ≤ sizeLine; decide)) (.inl rfl)) ?_
  refine .step (.assignS (.lst .nil (Nat.zero_le _)) (.inl rfl)) ?_
  refine .step (.assignS (sl := .own ([(false, [])].map lvS)) (.lst (.cons (.lst (.cons (.val .bool) (.cons (.lst .nil (Nat.zero_le _)) (.cons (.lst .nil (Nat.zero_le _)) .nil))) (by show 3 ≤ sizeLine; decide)) .nil) (by show 1 ≤ sizeLine; decide)) (.inl rfl)) ?_
  refine .cons (P₁ := fun af ρ' => af = .next ∧ ∃ op ths, op ≠ [] ∧ I08 ns.length op ths ∧ ρ' = σ08 op ths) (.forR (g := D.int) (xs := ns) (d₀ := .list (ns.map .int)) (fun b : List (Bool × List D) × List D => σ08 b.1 b.2) (fun done b => b.1 ≠ [] ∧ I08 done.length b.1 b.2) ([(false, [])], []) (.name rfl) .list ⟨by simp, I08.start⟩ (.cons rfl (.cons rfl (.cons rfl (.cons rfl .nil)))) ?_ fun b h => ⟨rfl, b.1, b.2, h.1, h.2, rfl⟩) ?_ (fun _ _ h q => absurd q.1 h)
  · rintro done x rest ⟨op, ths⟩ e ⟨hne, hI⟩
    have hdl : done.length ≤ 64 := by have := congrArg List.length e; simp at this; omega
    refine ⟨_, .name (.inl rfl), ?_⟩
    refine Tr.mono (turn08 Q hI hne (by omega) rfl (.cons rfl (.cons rfl (.cons rfl (.cons rfl .nil))))) ?_
    rintro _ _ ⟨rfl, op', ths', hne', hI', hs⟩
    exact ⟨(op', ths'), ⟨hne', by rw [List.length_append]; exact hI'⟩, hs⟩
  rintro _ ⟨-, op, ths, hne, hI, rfl⟩
  have h6 := hI.len
  refine .cons (P₁ := fun af ρ' => af = .next ∧ ∃ a, W08 a ∧ a.1 = [] ∧ ρ' = σ08 a.1 a.2.1) (.whileS (fun a : List (Bool × List D) × List D × Nat => σ08 a.1 a.2.1) W08 (fun a => a.1.length) (op, ths, ns.length) ⟨hI, by show ns.length + op.length ≤ 75; omega, fun e => absurd e hne⟩ (.cons rfl (.cons rfl (.cons rfl (.cons rfl .nil)))) ?_) ?_ (fun _ _ h q => absurd q.1 h)
  · rintro ⟨op, ths, k⟩ ⟨hi, hk, hf⟩
    dsimp only at hi hk hf
    refine ⟨!op.isEmpty, .to (.cmp (.look (d := .list (Slot.ds (op.map lvS))) rfl rfl) (.list .nil (Nat.zero_le _)) .neNil) (by cases op <;> rfl), fun hb => ?_, fun hb => ⟨rfl, _, ⟨hi, hk, hf⟩, ?_, rfl⟩⟩
    · have hne : op ≠ [] := by rintro rfl; cases hb
      obtain ⟨pre, p, rfl⟩ : ∃ pr q, op = pr ++ [q] := ⟨op.dropLast, op.getLast hne, (List.dropLast_concat_getLast hne).symm⟩
      have hm := hi.ms
      have hk2 : k ≤ 75 := by simp at hk; omega
      have hmem : ∀ z ∈ pre ++ [p], massL z.2 ≤ 10000 := fun z hz => Nat.le_trans (mass_mem hz) (by omega)
      have h6 := hi.len
      have hth := hi.th
      refine .last (.mono (.callS (sl := (pre ++ [p]).map lvS) (tl := thS ths) (by decide) rfl rfl (.glob Q.ge rfl) Q.he.callee (end_fn Q.he Q.B (m := 5 - pre.length) (hi.tg pre.length p (by simp)) (by have := hmem p (by simp); unfold massL at this; omega) (by simp at h6; omega) (by omega) fun z hz => by have := hmem z (by simp [hz]); unfold massL at this; omega)) ?_)
      rintro _ _ ⟨rfl, rfl⟩
      have hlen : (put pre (clD p)).length = pre.length := by
        rcases List.eq_nil_or_concat pre with rfl | ⟨pr, q, rfl⟩
        · rfl
        · rw [List.concat_eq_append, put_snoc]; simp
      refine ⟨(put pre (clD p), ths ++ [clD p], k + 1), by show (put pre (clD p)).length < (pre ++ [p]).length; rw [hlen]; simp, ⟨hi.close (by omega), ?_, fun e => ⟨ths, p.2, ?_⟩⟩, .cons rfl (.cons rfl (.cons rfl (.cons rfl .nil)))⟩
      · show k + 1 + (put pre (clD p)).length ≤ 75
        rw [hlen]; simp at hk; omega
      · have hp : pre = [] := List.length_eq_zero_iff.mp (by rw [← hlen, show put pre (clD p) = [] from e]; rfl)
        subst hp
        show ths ++ [clD p] = _
        unfold clD
        rw [hi.bot p rfl]; rfl
    · show op = []
      cases op with
      | nil => rfl
      | cons _ _ => cases hb
  rintro _ ⟨-, ⟨op, ths, k⟩, ⟨hi, hk, hf⟩, he, rfl⟩
  refine .ent (.freeze (x := "things") rfl) ?_
  refine .last (.ret (d := .list (ths.map thD)) (.name ?_) ⟨_, ⟨ths, hi.ok, hf he, ?_, rfl⟩, rfl⟩)
  · show some (Slot.val (D.list (Slot.ds (ths.map fun d => .val (thD d))))) = _
    rw [ds_vals]
  · have := hi.th
    dsimp only at this hk
    omega
end
end Mine
namespace Mine
set_option maxRecDepth 100000
theorem nameOk_list : NameOk "list" := ⟨by decide, by decide +kernel, by decide +kernel, by rfl, by decide +kernel, by decide +kernel⟩
theorem nameOk_tuple : NameOk "tuple" := ⟨by decide, by decide +kernel, by decide +kernel, by rfl, by decide +kernel, by decide +kernel⟩
theorem nameOk_dict : NameOk "dict" := ⟨by decide, by decide +kernel, by decide +kernel, by rfl, by decide +kernel, by decide +kernel⟩

noncomputable def strOf : D → Option (List Nat)
  | .str x => some x.cps.toList
  | _ => none
/-- the texts that a thing holds, if it can hold any -/
noncomputable def keyL : D → Option (List (List Nat))
  | .list ds => some (ds.filterMap strOf)
  | .tuple ds => some (ds.filterMap strOf)
  | .dict kvs => some (kvs.map (·.1))
  | _ => none
theorem filter_strOf (ds : List D) : ds.filter D.isStr = (ds.filterMap strOf).map sd := by
  induction ds with
  | nil => rfl
  | cons d ds ih =>
    cases d with
    | str x =>
      show D.str x :: ds.filter D.isStr = D.str (S x.cps.toList) :: (ds.filterMap strOf).map sd
      rw [ih, ← S_of x]
    | _ => exact ih
theorem keyD_eq (d : D) : keyD d = match keyL d with | some xs => .list (xs.map sd) | none => .none := by
  cases d with
  | list ds => show D.list _ = _; rw [filter_strOf]; rfl
  | tuple ds => show D.list _ = _; rw [filter_strOf]; rfl
  | dict kvs => show D.list _ = D.list ((kvs.map (·.1)).map sd); rw [List.map_map]; rfl
  | _ => rfl

noncomputable def sgns : List String := ["&", "<", ">", "\"", "\r", "\n", "\t"]
theorem sgn_no7 : ∀ x ∈ txs.drop 7, ∀ z ∈ sgns, decide (x = cs z) = false := by decide
noncomputable def hasL (d : D) (y : List Nat) : Bool := match keyL d with | some xs => decide (y ∈ xs) | none => false
/-- an escape of the signs zs refuses d -/
noncomputable def refB (d : D) (zs : List String) : Bool := match keyL d with | some xs => xs.any fun x => decide (x ∈ zs.map cs) | none => true
theorem refB_has {d : D} {zs : List String} {xs : List (List Nat)} (h : keyL d = some xs) : refB d zs = zs.any fun z => hasL d (cs z) := by
  unfold refB hasL
  rw [h]
  rw [Bool.eq_iff_iff]
  simp only [List.any_eq_true, decide_eq_true_eq, List.mem_map]
  constructor
  · rintro ⟨x, hx, z, hz, rfl⟩; exact ⟨z, hz, hx⟩
  · rintro ⟨z, hz, hx⟩; exact ⟨_, hx, z, hz, rfl⟩

structure E08 (c : Cx) (K : Frag) (f : Addr) : Prop where
  Q : C08 c K f
  qe : QE c K 85
  heq : IsDef c 85 (qsc 8) ["self", "other"] (qbd 8)
  qr : QR c K 43
  hre : IsDef c 43 (qsc 2) ["self"] (qbd 2)
  qn : QN c K
  bx : BX c
  gn : c.gn
  h3 : IsDef c 106 (sc08 3) ["text"] (bd08 3)
  h4 : IsDef c 113 (sc08 4) ["text"] (bd08 4)
  h5 : IsDef c 120 (sc08 5) ["text"] (bd08 5)
  h6 : IsDef c 127 (sc08 6) ["text"] (bd08 6)
  h7 : IsDef c 134 (sc08 7) ["text"] (bd08 7)

theorem QC.to {c c' : Cx} {K : Frag} (Y : QC c K) (hb : c'.base = c.base) (hq : c'.qc = c.qc) : QC c' K := by
  obtain ⟨a1, a2, a3, a4, a5, a6, a7, a8, a9, a10, a11, a12, a13⟩ := Y
  exact ⟨hb ▸ a1, hq ▸ a2, hq ▸ a3, hq ▸ a4, hq ▸ a5, hq ▸ a6, hq ▸ a7, hq ▸ a8, a9, a10, hq ▸ a11, hq ▸ a12, hq ▸ a13⟩
theorem QR.to {c c' : Cx} {K : Frag} {f : Addr} (Y : QR c K f) (hq : c'.qc = c.qc) : QR c' K f := ⟨hq ▸ Y.find, Y.fn⟩
theorem IsDef.to {c c' : Cx} {a : Addr} {sc : Scope} {ps : List String} {body : List Stmt} (hd : IsDef c a sc ps body) (hb : c'.base = c.base) (hl : c'.lsc = c.lsc) : IsDef c' a sc ps body :=
  ⟨⟨hd.toDefOk, hd.ex.to hb⟩, hl ▸ hd.nl⟩

section
variable {c : Cx} {n : Nat} {K : Frag} {f : Addr} {d : D}

theorem rpU_of (E : E08 c K f) {m : Nat} {d : D} (h : Tg m d) : ∀ n, m + 1 ≤ n → RpU c.u n d (wrD d) := by
  induction h with
  | @str m x hx => intro n _; exact .str (by have := txs_repr x hx; omega)
  | none => intro n _; exact .none
  | bool => intro n _; exact .bool
  | bytes0 => intro n _; exact .bytes0
  | bytes2 => intro n _; exact .bytes2
  | int hi => intro n _; exact .int (log2_small (by omega))
  | @qn m x hx =>
    intro n hn
    obtain ⟨k, rfl⟩ : ∃ k, n = k + 1 := ⟨n - 1, by omega⟩
    exact .qn (E.Q.B.Y.to rfl rfl) (E.qr.to rfl) (qnRepr_fn (c := c.u) (E.Q.B.Y.to rfl rfl) (E.hre.to rfl rfl) (by have := txs_repr x (List.mem_of_mem_drop hx); omega))
  | @dict m x i hx hi => intro n _; exact .dict (log2_small (by omega)) (by have := txs_repr x hx; omega)
  | @list m ds h ih =>
    intro n hn
    obtain ⟨k, rfl⟩ : ∃ k, n = k + 1 := ⟨n - 1, by omega⟩
    refine .list (fun q => q) ⟨by rw [wrDs_map, List.length_map], fun i d hd => ⟨wrD d, ?_, ih d (List.mem_of_getElem? hd) k (by omega)⟩⟩
    rw [wrDs_map, List.getElem?_map, hd]; rfl
  | @tuple m ds h ih =>
    intro n hn
    obtain ⟨k, rfl⟩ : ∃ k, n = k + 1 := ⟨n - 1, by omega⟩
    refine .tuple (fun q => q) ⟨by rw [wrDs_map, List.length_map], fun i d hd => ⟨wrD d, ?_, ih d (List.mem_of_getElem? hd) k (by omega)⟩⟩
    rw [wrDs_map, List.getElem?_map, hd]; rfl
theorem rpL_of (E : E08 c K f) {m : Nat} {ds : List D} (h : ∀ d ∈ ds, Tg m d) (hn : m + 1 ≤ n) : RpL c.u n ds (wrDs ds) :=
  ⟨by rw [wrDs_map, List.length_map], fun i d hd => ⟨wrD d, by rw [wrDs_map, List.getElem?_map, hd]; rfl, rpU_of E (h d (List.mem_of_getElem? hd)) n hn⟩⟩

theorem reprN_of (E : E08 c K f) (h : Thg d) : ReprN c.h (n + 8) d (wrD d) := by
  have hl := h.len
  have hg : c.h.gn := E.gn
  obtain ⟨ht, hs, -⟩ := h
  cases ht with
  | str => cases hs
  | none => exact ReprOf.toN .none
  | bool => exact ReprOf.toN .bool
  | bytes0 => exact ReprOf.toN .bytes0
  | bytes2 => exact ReprOf.toN .bytes2
  | int hi => exact ReprOf.toN (.int (log2_small (by omega)))
  | @qn _ x hx => exact .qn (E.Q.B.Y.to rfl rfl) (E.qr.to rfl) (by omega) (qnRepr_fn (n := n + 7) (c := c.h) (E.Q.B.Y.to rfl rfl) (E.hre.to rfl rfl) (by have := txs_repr x (List.mem_of_mem_drop hx); omega))
  | @dict _ x i hx hi => exact .dict hg (log2_small (by omega)) (by have := txs_repr x hx; omega) (by show (wrD (.dict [(x, .int i)])).length ≤ _; omega)
  | list hd => exact .list (c := c.h) hg (rpL_of (c := c) E hd (by omega)) (by show (wrD (.list _)).length ≤ _; omega)
  | tuple hd => exact .tuple (c := c.h) hg (rpL_of (c := c) E hd (by omega)) (by show (wrD (.tuple _)).length ≤ _; omega)

theorem ty_list {c : Cx} {ds : List D} : TypeOk c (.list ds) "list" := ⟨fun V s v r => by obtain ⟨_, _, _, _, rfl, _, ho, hc, _⟩ := r.inv; exact ⟨_, ho, hc⟩, nameOk_list⟩
theorem ty_tuple {c : Cx} {ds : List D} : TypeOk c (.tuple ds) "tuple" := ⟨fun V s v r => by obtain ⟨_, _, _, _, rfl, _, ho, hc, _⟩ := r.inv; exact ⟨_, ho, hc⟩, nameOk_tuple⟩
theorem ty_dict {c : Cx} {kvs : List (List Nat × D)} : TypeOk c (.dict kvs) "dict" := ⟨fun V s v r => by obtain ⟨_, _, _, _, rfl, _, _, ho, hx, _⟩ := r.inv; exact ⟨_, ho, hx.1⟩, nameOk_dict⟩
theorem tyN_of (E : E08 c K f) (h : Thg d) : TyN c.h n d (nmD d) := by
  have hb : c.h.mg (Str.ofString "type") = none ∧ c.h.mb (Str.ofString "type") = some (.type "type") := E.bx.type
  obtain ⟨ht, hs, -⟩ := h
  cases ht with
  | str => cases hs
  | none => exact @TyN.blt c.h n _ "NoneType" hb ⟨(ReprOf.none (c := c.h)).ty, nameOk_none⟩
  | @bool _ b => exact @TyN.blt c.h n _ "bool" hb ⟨(ReprOf.bool (c := c.h) (b := b)).ty, nameOk_bool⟩
  | bytes0 => exact @TyN.blt c.h n _ "bytes" hb ⟨(ReprOf.bytes0 (c := c.h)).ty, nameOk_bytes⟩
  | bytes2 => exact @TyN.blt c.h n _ "bytes" hb ⟨(ReprOf.bytes2 (c := c.h)).ty, nameOk_bytes⟩
  | int hi => exact @TyN.blt c.h n _ "int" hb ⟨(ReprOf.int (c := c.h) (log2_small (by omega))).ty, nameOk_int⟩
  | qn hx => exact @TyN.qn c.h n _ K hb (E.Q.B.Y.to rfl rfl)
  | dict => exact @TyN.blt c.h n _ "dict" hb ty_dict
  | list => exact @TyN.blt c.h n _ "list" hb ty_list
  | tuple => exact @TyN.blt c.h n _ "tuple" hb ty_tuple
theorem nm_len (d : D) : (nmD d).length ≤ 8 := by
  have h : ∀ x ∈ ["NoneType", "bool", "int", "bytes", "QName", "list", "tuple", "dict", ""], (cs x).length ≤ 8 := by decide
  cases d with
  | none => exact h "NoneType" (by decide)
  | bool => exact h "bool" (by decide)
  | int => exact h "int" (by decide)
  | bytes => exact h "bytes" (by decide)
  | qn => exact h "QName" (by decide)
  | list => exact h "list" (by decide)
  | tuple => exact h "tuple" (by decide)
  | dict => exact h "dict" (by decide)
  | _ => exact h "" (by decide)

theorem eqT_of (E : E08 c K f) {m : Nat} (h : Tg m d) {z : String} (hz : z ∈ sgns) : EqT c (n + 1) d (cs z) (decide (strOf d = some (cs z))) := by
  cases h with
  | @str _ x hx =>
    have e : decide (strOf (sd x) = some (cs z)) = decide (x = cs z) := by
      show decide (some x = some (cs z)) = _
      simp
    rw [e]; exact .str
  | none => exact .none
  | bool => exact .bool
  | bytes0 => exact .bytes
  | bytes2 => exact .bytes
  | int => exact .int
  | @qn _ x hx =>
    have e : decide (strOf (.qn x) = some (cs z)) = decide (x = cs z) := by
      rw [sgn_no7 x hx z hz]; rfl
    rw [e]; exact .qn E.Q.B.Y E.qe (qnEq_fn (n := n) E.Q.B.Y E.heq E.Q.B.isi E.Q.gq)
  | dict => exact .dict
  | list => exact .list
  | tuple => exact .tuple
theorem any_strOf (ds : List D) (y : List Nat) : (ds.map fun d => decide (strOf d = some y)).any id = decide (y ∈ ds.filterMap strOf) := by
  rw [Bool.eq_iff_iff]
  simp only [List.any_eq_true, List.mem_map, decide_eq_true_eq, List.mem_filterMap, id_eq]
  constructor
  · rintro ⟨b, ⟨d, hd, rfl⟩, hb⟩; exact ⟨d, hd, of_decide_eq_true hb⟩
  · rintro ⟨d, hd, e⟩; exact ⟨_, ⟨d, hd, rfl⟩, decide_eq_true e⟩

/-- a sign in a thing that can hold texts -/
theorem inT_of (E : E08 c K f) (h : Tg 6 d) (hr : d.isRef = true) {z : String} (hz : z ∈ sgns) : InT c (n + 2) d (cs z) (hasL d (cs z)) := by
  cases h with
  | @list _ ds hd =>
    have := InT.list (c := c) (n := n + 1) (EqsT.map (f := fun d => decide (strOf d = some (cs z))) fun d h => eqT_of (n := n) E (hd d h) hz)
    rw [any_strOf] at this; exact this
  | @tuple _ ds hd =>
    have := InT.tuple (c := c) (n := n + 1) (EqsT.map (f := fun d => decide (strOf d = some (cs z))) fun d h => eqT_of (n := n) E (hd d h) hz)
    rw [any_strOf] at this; exact this
  | @dict _ x i hx hi =>
    have := InT.dict (c := c) (n := n + 2) (kvs := [(x, .int i)]) (y := cs z)
    have e : (List.lookup (cs z) [(x, D.int i)]).isSome = hasL (.dict [(x, .int i)]) (cs z) := by
      show _ = decide (cs z ∈ [x])
      rw [List.lookup_cons]
      by_cases q : cs z = x
      · subst q; simp
      · have : (cs z == x) = false := by simpa using q
        rw [this]; simp [q]
    rw [e] at this; exact this
  | _ => cases hr

theorem keyL_ref (h : Thg d) : (d.isRef = true ∧ ∃ xs, keyL d = some xs) ∨ (d.isRef = false ∧ keyL d = none) := by
  obtain ⟨ht, hs, -⟩ := h
  cases ht with
  | str => cases hs
  | list => exact .inl ⟨rfl, _, rfl⟩
  | tuple => exact .inl ⟨rfl, _, rfl⟩
  | dict => exact .inl ⟨rfl, _, rfl⟩
  | _ => exact .inr ⟨rfl, rfl⟩
theorem noRep_of (h : Thg d) (hr : d.isRef = true) : NoRep c d := by
  obtain ⟨ht, hs, -⟩ := h
  cases ht with
  | list => exact .list
  | tuple => exact .tuple
  | dict => exact .dict
  | _ => cases hr
theorem refuse_of (E : E08 c K f) (h : Thg d) {zs : List String} (hz : ∀ z ∈ zs, z ∈ sgns) (hb : refB d zs = true) : Refuse c (n + 2) d zs := by
  rcases keyL_ref h with ⟨hr, xs, hx⟩ | ⟨hr, hx⟩
  · rw [refB_has hx] at hb
    exact .sign (fun z => hasL d (cs z)) (noRep_of h hr) (fun z q => inT_of E h.tg hr (hz z q)) hb
  · obtain ⟨ht, hs, -⟩ := h
    cases ht with
    | str => cases hs
    | none => exact .noIn InX.none.s
    | bool => exact .noIn InX.bool.s
    | bytes0 => exact .noIn InX.bytes.s
    | bytes2 => exact .noIn InX.bytes.s
    | int => exact .noIn InX.int.s
    | qn => exact .noIn (.qn E.Q.B.Y E.qn)
    | _ => cases hr
theorem free_of (E : E08 c K f) (h : Thg d) {zs : List String} (hz : ∀ z ∈ zs, z ∈ sgns) (hb : refB d zs = false) : d.isRef = true ∧ Free c (n + 2) d zs := by
  rcases keyL_ref h with ⟨hr, xs, hx⟩ | ⟨hr, hx⟩
  · rw [refB_has hx] at hb
    refine ⟨hr, fun z q => ?_⟩
    have := inT_of (n := n) E h.tg hr (hz z q)
    have e : hasL d (cs z) = false := by
      have := List.any_eq_false.mp hb z q
      simpa using this
    rw [e] at this; exact this
  · unfold refB at hb
    rw [hx] at hb; cases hb

/-- the five -/
noncomputable def wr08 : List (Addr × List String) := [(106, ["&", "<", ">"]), (113, ["&", "<", ">", "\"", "\r", "\n", "\t"]), (120, ["&", ">", "\""]), (127, ["&", "<", ">", "\r"]), (134, ["&", "<", "\"", "\t", "\n", "\r"])]
theorem wr_refused (E : E08 c K f) (h : Thg d) {w : Addr × List String} (hw : w ∈ wr08) (hb : refB d w.2 = true) : FnX c (n + 10) (.ref w.1) [d] "TypeError" (wordsOf (wrD d) (nmD d)) := by
  have hl : (nmD d).length ≤ 1000 := by have := nm_len d; omega
  have hr := reprN_of (n := n) E h
  have ht : TyN c.h (n + 8) d (nmD d) := @tyN_of c (n + 8) K f d E h
  simp only [wr08, List.mem_cons, List.not_mem_nil, or_false] at hw
  rcases hw with rfl | rfl | rfl | rfl | rfl
  · exact cdata_X E.Q.B.hn E.bx E.h3 (refuse_of (n := n + 7) E h (by decide) hb) hr ht hl
  · exact attrib_X E.Q.B.hn E.bx E.h4 (refuse_of (n := n + 7) E h (by decide) hb) hr ht hl
  · exact html_X E.Q.B.hn E.bx E.h5 (refuse_of (n := n + 7) E h (by decide) hb) hr ht hl
  · exact cc_X E.Q.B.hn E.bx E.h6 (refuse_of (n := n + 7) E h (by decide) hb) hr ht hl
  · exact ac_X E.Q.B.hn E.bx E.h7 (refuse_of (n := n + 7) E h (by decide) hb) hr ht hl
theorem wr_back (E : E08 c K f) (h : Thg d) {w : Addr × List String} (hw : w ∈ wr08) (hb : refB d w.2 = false) : d.isRef = true ∧ FnI c (n + 10) (.ref w.1) d := by
  simp only [wr08, List.mem_cons, List.not_mem_nil, or_false] at hw
  rcases hw with rfl | rfl | rfl | rfl | rfl
  · have := free_of (n := n + 7) E h (zs := ["&", "<", ">"]) (by decide) hb; exact ⟨this.1, cdata_I E.h3 this.2⟩
  · have := free_of (n := n + 7) E h (zs := ["&", "<", ">", "\"", "\r", "\n", "\t"]) (by decide) hb; exact ⟨this.1, attrib_I E.h4 this.2⟩
  · have := free_of (n := n + 7) E h (zs := ["&", ">", "\""]) (by decide) hb; exact ⟨this.1, html_I E.h5 this.2⟩
  · have := free_of (n := n + 7) E h (zs := ["&", "<", ">", "\r"]) (by decide) hb; exact ⟨this.1, cc_I E.h6 this.2⟩
  · have := free_of (n := n + 7) E h (zs := ["&", "<", "\"", "\t", "\n", "\r"]) (by decide) hb; exact ⟨this.1, ac_I E.h7 this.2⟩
end
end Mine
namespace Mine
set_option maxRecDepth 100000
structure L08 (c : Cx) (K : Frag) (f : Addr) : Prop where
  E : E08 c K f
  lsc : c.lsc (sc08 11)
  law : IsDefL c 151 (sc08 11) ["script"] (bd08 11)
  hth : IsDef c 146 (sc08 10) ["script"] (bd08 10)
  gth : c.mg (Str.ofString "_law_things") = some (.ref 146)
  g3 : c.mg (Str.ofString "_escape_cdata") = some (.ref 106)
  g4 : c.mg (Str.ofString "_escape_attrib") = some (.ref 113)
  g5 : c.mg (Str.ofString "_escape_attrib_html") = some (.ref 120)
  g6 : c.mg (Str.ofString "_escape_cdata_c14n") = some (.ref 127)
  g7 : c.mg (Str.ofString "_escape_attrib_c14n") = some (.ref 134)
  list : c.mg (Str.ofString "list") = none ∧ c.mb (Str.ofString "list") = some (.type "list")
  range : c.mg (Str.ofString "range") = none ∧ c.mb (Str.ofString "range") = some (.type "range")
  repr : c.mg (Str.ofString "repr") = none ∧ c.mb (Str.ofString "repr") = some (.builtin "repr")

noncomputable def wrT08 (w : Addr × List String) : D := .tuple [.val (.ref w.1), .list ((w.2.map cs).map sd)]

section
variable {c : Cx} {K : Frag} {f : Addr} {d : D}

theorem wr_callee (L : L08 c K f) {w : Addr × List String} (hw : w ∈ wr08) : Callee c (.ref w.1) := by
  simp only [wr08, List.mem_cons, List.not_mem_nil, or_false] at hw
  rcases hw with rfl | rfl | rfl | rfl | rfl
  · exact L.E.h3.callee
  · exact L.E.h4.callee
  · exact L.E.h5.callee
  · exact L.E.h6.callee
  · exact L.E.h7.callee

noncomputable abbrev σA (D₀ : D) (w : Addr × List String) : Sto := [("things", .val D₀), ("writer", .val (.val (.ref w.1))), ("signs", .val (.list ((w.2.map cs).map sd)))]
noncomputable abbrev σB (D₀ : D) (w : Addr × List String) (d : D) : Sto := ("refused", .val (.bool (refB d w.2))) :: ("value", .val d) :: ("written", .val (sd (wrD d))) :: ("name", .val (sd (nmD d))) :: σA D₀ w

theorem refused08 (hn : c.hn) {n : Nat} {ρ : Sto} {D₀ : D} {w : Addr × List String} {rest : List Stmt} {P : AF → Sto → Prop} (h : Thg d) (hl : ∀ xs, keyL d = some xs → xs.length ≤ 100000) (h1 : ρ.lookup "texts" = some (.val (keyD d))) (h2 : ρ.lookup "signs" = some (.val (.list ((w.2.map cs).map sd)))) {e : Expr} (he : e = match stN 0 (forB (stN 0 (forB (stN 3 (bd08 11))))) with | .Assign _ v _ => v | _ => .Constant .none 0 ⟨0, 0, 0, 0⟩) :
    Ev c n (sc08 11) true ρ e (.bool (refB d w.2)) := by
  subst he
  have hk := keyD_eq d
  cases hkl : keyL d with
  | none =>
    rw [hkl] at hk
    have hb : refB d w.2 = (true || false) := by unfold refB; rw [hkl]; rfl
    rw [hb]
    rw [hk] at h1
    exact .or2 (.cmp (.name h1) .none (.isN (.inl ⟨rfl, rfl⟩))) fun q => nomatch q
  | some xs =>
    rw [hkl] at hk
    rw [hk] at h1
    have hb : refB d w.2 = (false || !((xs.filter fun x => decide (x ∈ w.2.map cs)).map sd).isEmpty) := by
      unfold refB; rw [hkl]
      rw [Bool.false_or, Bool.eq_iff_iff]
      simp only [List.any_eq_true, decide_eq_true_eq, Bool.not_eq_true', List.isEmpty_eq_false_iff, ne_eq, List.map_eq_nil_iff, List.filter_eq_nil_iff]
      simp
    rw [hb]
    refine .or2 (.cmp (.name h1) .none (.isN (.inr (.inr ⟨⟨_, rfl⟩, rfl⟩)))) fun _ => ?_
    refine .cmp (.compF (g := sd) (ds := xs) (fun x => decide (x ∈ w.2.map cs)) sd [("signs", .val (.list ((w.2.map cs).map sd)))] (.name h1) .list (.of (.cons h2 rfl (by decide) .nil) rfl) (by have := hl xs hkl; omega) fun x hx => ⟨_, .name (.inl rfl), .cons rfl .nil, .cmp (.name rfl) (.name rfl) .inLS, fun _ => .name rfl⟩) (.list .nil (Nat.zero_le _)) .neNil

theorem joinL_low (p : List Nat) (ls : List (List Nat)) : ls.length * p.length ≤ (joinL p ls).length + p.length := by
  cases ls with
  | nil => simp
  | cons x r =>
    rw [joinL_cons]
    have h : ∀ r : List (List Nat), r.length * p.length ≤ (r.map fun t => p ++ t).flatten.length := by
      intro r
      induction r with
      | nil => simp
      | cons t r ih => simp only [List.map_cons, List.flatten_cons, List.length_append, List.length_cons, Nat.add_mul]; omega
    have := h r
    simp only [List.length_append, List.length_cons, Nat.add_mul]; omega
theorem key_len (h : Thg d) : ∀ xs, keyL d = some xs → xs.length ≤ 100000 := by
  have e2 : (cs ", ").length = 2 := by decide
  intro xs hx
  obtain ⟨ht, hs, hl⟩ := h
  cases ht with
  | @list _ ds hd =>
    cases hx
    have h1 := List.length_filterMap_le strOf ds
    have h2 := joinL_low (cs ", ") (ds.map wrD)
    have h3 : (listL (wrDs ds)).length ≤ 3000 := hl
    rw [wrDs_map, listL_eq] at h3
    simp only [List.length_append] at h3
    rw [e2, List.length_map] at h2
    omega
  | @tuple _ ds hd =>
    cases hx
    have h1 := List.length_filterMap_le strOf ds
    have h2 := joinL_low (cs ", ") (ds.map wrD)
    have h3 : (tupL (wrDs ds)).length ≤ 3000 := hl
    rw [wrDs_map, tupL_eq] at h3
    simp only [List.length_append] at h3
    rw [e2, List.length_map] at h2
    omega
  | dict => cases hx; show 1 ≤ 100000; decide
  | _ => cases hx

noncomputable abbrev tr08 : Stmt := stN 1 (forB (stN 0 (forB (stN 3 (bd08 11)))))
theorem try08 (L : L08 c K f) {D₀ : D} {w : Addr × List String} (hw : w ∈ wr08) (h : Thg d) : Sx c 39 (sc08 11) (σB D₀ w d) tr08 fun af ρ' => af = .next ∧ SubS (σA D₀ w) ρ' := by
  have hn := L.E.Q.B.hn
  have hwl := h.len
  have hnl := nm_len d
  cases hb : refB d w.2 with
  | true =>
    have e1 : (cs "cannot serialize ").length = 17 := by decide
    have e2 : (cs " (type ").length = 7 := by decide
    have e3 : (cs ")").length = 1 := by decide
    refine .mono (.tryAs (σ := σA D₀ w) (x := "error") (y := "back") (ds := [d]) hn L.lsc (by decide) (.name rfl) (wr_callee L hw) (.cons (.name rfl) .nil) (wr_refused (n := 29) L.E h hw hb) L.E.bx.ty rfl rfl (fun H ev hstr => ?_) (by intro q hq; simp only [List.mem_cons, List.not_mem_nil, or_false] at hq; rcases hq with rfl | rfl | rfl; exact (by decide : "things" ≠ "error"); exact (by decide : "writer" ≠ "error"); exact (by decide : "signs" ≠ "error"))) (by rintro _ _ ⟨rfl, rfl⟩; exact ⟨rfl, .cons rfl (.cons rfl (.cons rfl .nil))⟩)
    refine .last (.ite (b := false) (.to (.boolop (.or (.not (.val (.name (d := .bool (refB d w.2)) rfl) .bool)) fun _ => .or (.cmp (.call (.blt (c := c.at H) L.E.Q.B.str.1 L.E.Q.B.str.2) (.type _) (.cons (.name rfl) .nil) hstr) (.bin (.bin (.bin (.bin .lit (.name rfl) (.cat (by omega))) .lit (.cat (by rw [List.length_append]; omega))) (.name rfl) (.cat (by rw [List.length_append, List.length_append]; omega))) .lit (.cat (by rw [List.length_append, List.length_append, List.length_append]; omega))) .neS) fun _ => .nilOr)) (by rw [hb]; simp [wordsOf])) (fun q => nomatch q) fun _ => .nil ⟨rfl, .cons rfl (.cons rfl (.cons rfl .nil))⟩)
  | false =>
    obtain ⟨hr, hI⟩ := wr_back (n := 29) L.E h hw hb
    refine .dup (x := "value") (d := d) rfl hr fun a => ?_
    refine .tryE (P₁ := fun af ρ' => af = .next ∧ ρ' = setS (("value", .val (.val (.ref a))) :: σB D₀ w d) "back" (.val (.val (.ref a)))) (.last (.assign (.callI (.name rfl) (wr_callee L hw) rfl hI) (.inl rfl))) ?_ (fun _ _ h q => absurd q.1 h)
    rintro _ ⟨-, rfl⟩
    exact .last (.ite (b := false) (.to (.boolop (.or (.val (.name (d := .bool (refB d w.2)) rfl) .bool) fun _ => .or (.cmp (.name rfl) (.name rfl) .isntSelf) fun _ => .nilOr)) (by rw [hb]; rfl)) (fun q => nomatch q) fun _ => .nil ⟨rfl, .cons rfl (.cons rfl (.cons rfl .nil))⟩)

set_option maxHeartbeats 1000000 in
theorem law08 (L : L08 c K f) {ns : List Int} (hl : ns.length ≤ 63) : FnT c 40 (.ref 151) [.list (ns.map .int)] (.bool true) := by
  have hn := L.E.Q.B.hn
  refine FnT.of (n := 39) L.law rfl ?_
  refine .cons (P₁ := fun af ρ' => af = .next ∧ ∃ ms : List Int, ms.length ≤ 64 ∧ ρ' = [("script", .val (.list (ms.map .int)))]) (.ite (b := ns.isEmpty) (.to (.cmp (.name rfl) (.list .nil (Nat.zero_le _)) .eqNil) (by cases ns <;> rfl)) (fun _ => ?_) fun _ => .nil ⟨rfl, ns, by omega, rfl⟩) ?_ (fun _ _ h q => absurd q.1 h)
  · refine .last (.mono (.assign (d := .list (((List.range 64).map fun i : Nat => (0 + (i : Int) * 1)).map .int)) (.to (.call (.blt L.list.1 L.list.2) (.type _) (.cons (.call (.blt L.range.1 L.range.2) (.type _) (.cons .int .nil) .range1) .nil) (.listRange (m := 64) (by decide) (by decide) (by decide))) (by rw [List.map_map]; rfl)) (.inl rfl)) ?_)
    rintro _ _ ⟨rfl, rfl⟩
    exact ⟨rfl, _, by simp, rfl⟩
  rintro _ ⟨-, ms, hml, rfl⟩
  refine .stepX (.assignE (P := P08) (.glob L.gth rfl) L.hth.callee (.cons (.name rfl) .nil) (things_fn (n := 36) L.E.Q L.hth hml) (.inl rfl)) ?_
  rintro _ ⟨D₀, ⟨ths, hok, ⟨ts, its, hts⟩, htl, rfl⟩, rfl⟩
  refine .step (.assign (d := .list (wr08.map wrT08)) ?_ (.inl rfl)) ?_
  · exact .list (.cons (.tuple (.cons (.glob L.g3 rfl) (.cons (.list (.cons .lit (.cons .lit (.cons .lit .nil))) (by show 3 ≤ sizeLine; decide)) .nil)) (by show 2 ≤ sizeLine; decide)) (.cons (.tuple (.cons (.glob L.g4 rfl) (.cons (.list (.cons .lit (.cons .lit (.cons .lit (.cons .lit (.cons .lit (.cons .lit (.cons .lit .nil))))))) (by show 7 ≤ sizeLine; decide)) .nil)) (by show 2 ≤ sizeLine; decide)) (.cons (.tuple (.cons (.glob L.g5 rfl) (.cons (.list (.cons .lit (.cons .lit (.cons .lit .nil))) (by show 3 ≤ sizeLine; decide)) .nil)) (by show 2 ≤ sizeLine; decide)) (.cons (.tuple (.cons (.glob L.g6 rfl) (.cons (.list (.cons .lit (.cons .lit (.cons .lit (.cons .lit .nil)))) (by show 4 ≤ sizeLine; decide)) .nil)) (by show 2 ≤ sizeLine; decide)) (.cons (.tuple (.cons (.glob L.g7 rfl) (.cons (.list (.cons .lit (.cons .lit (.cons .lit (.cons .lit (.cons .lit (.cons .lit .nil)))))) (by show 6 ≤ sizeLine; decide)) .nil)) (by show 2 ≤ sizeLine; decide)) .nil))))) (by show 5 ≤ sizeLine; decide)
  refine .cons (P₁ := fun af ρ' => af = .next ∧ ρ' = [("things", .val (.list (ths.map thD)))]) (.forS (g := wrT08) (xs := wr08) (fun _ => [("things", .val (.list (ths.map thD)))]) (.name rfl) .list (.cons rfl .nil) (fun done w rest e => ?_) ⟨rfl, rfl⟩) ?_ (fun _ _ h q => absurd q.1 h)
  · have hw : w ∈ wr08 := by rw [e]; simp
    refine ⟨_, .tuple (.cons rfl (.name (.inl rfl)) (.cons rfl (.name (.inr ⟨rfl, rfl⟩)) .nil)), ?_⟩
    refine .last (.mono (P := fun af ρ' => af = .next ∧ ρ' = σA (.list (ths.map thD)) w) (.forS (g := thD) (xs := ths) (fun _ => σA (.list (ths.map thD)) w) (.name rfl) .list (.cons rfl (.cons rfl (.cons rfl .nil))) (fun done d rest e => ?_) ⟨rfl, rfl⟩) ?_)
    · have hd : Thg d := hok d (by rw [e]; simp)
      refine ⟨_, .tuple (.cons rfl (.name (.inl rfl)) (.cons rfl (.name (.inl rfl)) (.cons rfl (.name (.inl rfl)) (.cons rfl (.name (.inl rfl)) .nil)))), ?_⟩
      refine .step (.assign (refused08 (D₀ := .list (ths.map thD)) (rest := []) (P := fun _ _ => True) hn hd (key_len hd) rfl rfl rfl) (.inl rfl)) ?_
      refine .ent (ρ' := σB (.list (ths.map thD)) w d) (.sub (.cons rfl (.cons rfl (.cons rfl (.cons rfl (.cons rfl (.cons rfl (.cons rfl .nil)))))))) ?_
      refine .last (.mono (try08 L hw hd) ?_)
      rintro _ _ ⟨rfl, hs⟩
      exact hs
    · rintro _ _ ⟨rfl, rfl⟩
      exact .cons rfl .nil
  rintro _ ⟨-, rfl⟩
  have hlast : (ths.map thD)[(ths.map thD).length - 1]? = some (thD (.list its)) := by rw [hts]; simp
  have hpos : 1 ≤ (ths.map thD).length := by rw [hts]; simp
  have hthing : Thg (.list its) := hok _ (by rw [hts]; simp)
  have hits : ∀ x ∈ its, Tg 5 x := by
    have := hthing.tg
    cases this with
    | list h => exact h
  have hget : ∀ {k : Bool} {ρ : Sto} {p1 p2 p3 p4 : Pos} {kk : Nat}, ρ.lookup "things" = some (.val (.list (ths.map thD))) → Ev c 39 (sc08 11) k ρ (.Subscript (.Name (Str.ofString "things") p1) (.UnaryOp .USub (.Constant (.int 1) kk p2) p3) p4) (thD (.list its)) := fun hx =>
    .subL (.name hx) (.neg .int) (.listNeg (m := 1) (by decide) hpos hlast (by decide))
  refine .last (.ret (.to (.cmp (.call (.blt L.repr.1 L.repr.2) (.builtin _) (.cons (.subT (ds := _) (hget rfl) .int (tup_at (j := 0) rfl (by show 4 ≤ 1000; decide))) .nil) (.reprL (n := 37) L.E.gn (rpL_of L.E hits (by omega)) (by have := hthing.len; show (wrD (.list its)).length ≤ _; omega))) (.subT (ds := _) (hget rfl) .int (tup_at (j := 1) rfl (by show 4 ≤ 1000; decide))) .eqS) ?_) rfl)
  show D.bool (decide (listL (wrDs its) = wrD (.list its))) = _
  rw [show wrD (.list its) = listL (wrDs its) from rfl]
  simp
end
end Mine
namespace Mine
set_option maxRecDepth 100000
noncomputable def lsc08 (s : Scope) : Prop := (s.names.lookup (Str.ofString "writers")).isSome = true
theorem IsDef.of {c : Cx} {K : Frag} {a : Addr} {sc : Scope} {ps : List String} {body : List Stmt} {oc : Value} {od : Option Addr} {fd : FuncData} {osl : Array (Option Value)} (X : K.In c.base) (ho : K.lookup a = some ⟨oc, od, .func fd, osl⟩)
    (hb : fd.body = .stmts body) (hs : fd.scope = sc) (hc : fd.closure = []) (hg : fd.globals = mainGlobals) (hbl : fd.builtins = builtinsNs) (hcd : codeIn K fd.code fd.qualname = true)
    (hbind : ∀ vs : List Value, vs.length = ps.length → bindArgs fd ⟨vs, []⟩ = pure (bindsOf ps vs)) (kinds : ∀ p ∈ ps, CanStore sc p) (nodup : ps.Nodup) (cnd : ((cellsFrom 0 sc.names []).map (·.1)).Nodup) (co : sc.isCoroutine = false) (gen : sc.isGenerator = false) (kind : sc.kind = .function)
    (nofree : sc.names.all (fun p => p.2 != .free) = true) (nl : ¬ c.lsc sc) : IsDef c a sc ps body := ⟨IsDefL.of X ho hb hs hc hg hbl hcd hbind kinds nodup cnd co gen kind nofree, nl⟩
end Mine
set_option maxHeartbeats 8000000 in
theorem PySem.Challenge.cw_dn0276_08_holds : PySem.Challenge.rw_dn0276_08.Holds := by
  w_on
  o_law
  z_head
  (case hw => w_witness2)
  k_fill
  intro w s₀ s₁ mg mb G y fa o pm cd doc dV kV ho hd hcd hD hmg hg args vals as L hpre hlay hrd hwl hlo
  z_open y L KX ZH ZN ZT
  refine Ground.open G ?_
  intro T B D TE TW
  wrow_args hpre hlay hrd hwl hlo
  have hfa : fa = 151 := by
    have := (mg_of (n := Str.ofString "law") (v := .ref 151) KX T.g rfl).symm.trans hmg
    injection this with this
    injection this with this
    exact this.symm
  subst hfa
  refine Mine.head_end (lsc := Mine.lsc08) (qc := 88) T L (by assumption) (by assumption) hg ZT (by decide) ?_
  let c : Mine.Cx := ⟨PySem.Challenge.rw_dn0276_08.row.prog, w, s₁.heap, mg, mb, Mine.lsc08, True, 88, True⟩
  have Y : Mine.QC c (PySem.Challenge.cw_dn0276_08_holds.heap_182 w.params) := ⟨KX, ⟨rfl, rfl, rfl, rfl, rfl⟩, rfl, ⟨_, _, _, _, _, rfl, rfl⟩, rfl, rfl, rfl, rfl, rfl, rfl, rfl, rfl, rfl⟩
  have BB : Mine.B08 c (PySem.Challenge.cw_dn0276_08_holds.heap_182 w.params) := ⟨Y, ⟨rfl, rfl, rfl⟩, trivial, (Mine.blt_of KX T rfl (by decide +kernel) (by decide)), (Mine.blt_of KX T rfl (by decide +kernel) (by decide)), (Mine.blt_of KX T rfl (by decide +kernel) (by decide)), (Mine.blt_of KX T rfl (by decide +kernel) (by decide))⟩
  have I : Mine.QI c (PySem.Challenge.cw_dn0276_08_holds.heap_182 w.params) 29 := ⟨rfl, rfl, rfl, by show ¬ (_ = true); decide, fun xa v => Mine.IsDefB.of KX rfl rfl rfl rfl rfl rfl rfl (fun S => rfl) (by simp; exact ⟨.inl rfl, .inl rfl, .inl rfl⟩) (by decide) (by decide) rfl rfl rfl rfl⟩
  have Q : Mine.C08 c (PySem.Challenge.cw_dn0276_08_holds.heap_182 w.params) 29 := ⟨BB, I, KX, rfl, (mg_of KX T.g rfl), (Mine.IsDef.of KX rfl rfl rfl rfl rfl rfl rfl (Mine.bindTwo fun v w => rfl) (by simp; exact ⟨.inl rfl, .inl rfl⟩) (by decide) (by decide) rfl rfl rfl rfl (by show ¬ (_ = true); decide)), (mg_of KX T.g rfl)⟩
  have bx : Mine.BX c := ⟨(Mine.blt_of KX T rfl (by decide +kernel) (by decide)), (Mine.blt_of KX T rfl (by decide +kernel) (by decide)), (Mine.blt_of KX T rfl (by decide +kernel) (by decide)), (Mine.IsDef.of KX rfl rfl rfl rfl rfl rfl rfl (Mine.bindOne fun v => rfl) (by simp; exact .inl rfl) (by decide) (by decide) rfl rfl rfl rfl (by show ¬ (_ = true); decide)), (mg_of KX T.g rfl)⟩
  have E : Mine.E08 c (PySem.Challenge.cw_dn0276_08_holds.heap_182 w.params) 29 := ⟨Q, ⟨rfl, rfl, rfl⟩, (Mine.IsDef.of KX rfl rfl rfl rfl rfl rfl rfl (Mine.bindTwo fun v w => rfl) (by simp; exact ⟨.inl rfl, .inl rfl⟩) (by decide) (by decide) rfl rfl rfl rfl (by show ¬ (_ = true); decide)), ⟨rfl, rfl⟩, (Mine.IsDef.of KX rfl rfl rfl rfl rfl rfl rfl (Mine.bindOne fun v => rfl) (by simp; exact .inl rfl) (by decide) (by decide) rfl rfl rfl rfl (by show ¬ (_ = true); decide)), ⟨rfl, rfl, rfl, _, rfl, rfl⟩, bx, trivial, (Mine.IsDef.of KX rfl rfl rfl rfl rfl rfl rfl (Mine.bindOne fun v => rfl) (by simp; exact .inl rfl) (by decide) (by decide) rfl rfl rfl rfl (by show ¬ (_ = true); decide)), (Mine.IsDef.of KX rfl rfl rfl rfl rfl rfl rfl (Mine.bindOne fun v => rfl) (by simp; exact .inl rfl) (by decide) (by decide) rfl rfl rfl rfl (by show ¬ (_ = true); decide)), (Mine.IsDef.of KX rfl rfl rfl rfl rfl rfl rfl (Mine.bindOne fun v => rfl) (by simp; exact .inl rfl) (by decide) (by decide) rfl rfl rfl rfl (by show ¬ (_ = true); decide)), (Mine.IsDef.of KX rfl rfl rfl rfl rfl rfl rfl (Mine.bindOne fun v => rfl) (by simp; exact .inl rfl) (by decide) (by decide) rfl rfl rfl rfl (by show ¬ (_ = true); decide)), (Mine.IsDef.of KX rfl rfl rfl rfl rfl rfl rfl (Mine.bindOne fun v => rfl) (by simp; exact .inl rfl) (by decide) (by decide) rfl rfl rfl rfl (by show ¬ (_ = true); decide))⟩
  have LL : Mine.L08 c (PySem.Challenge.cw_dn0276_08_holds.heap_182 w.params) 29 := ⟨E, (by show _ = true; decide), Mine.IsDefL.of KX rfl rfl rfl rfl rfl rfl rfl (Mine.bindOne fun v => rfl) (by simp; exact .inl rfl) (by decide) (by decide) rfl rfl rfl rfl, (Mine.IsDef.of KX rfl rfl rfl rfl rfl rfl rfl (Mine.bindOne fun v => rfl) (by simp; exact .inl rfl) (by decide) (by decide) rfl rfl rfl rfl (by show ¬ (_ = true); decide)), (mg_of KX T.g rfl), (mg_of KX T.g rfl), (mg_of KX T.g rfl), (mg_of KX T.g rfl), (mg_of KX T.g rfl), (mg_of KX T.g rfl), (Mine.blt_of KX T rfl (by decide +kernel) (by decide)), (Mine.blt_of KX T rfl (by decide +kernel) (by decide)), (Mine.blt_of KX T rfl (by decide +kernel) (by decide))⟩
  exact Mine.law08 LL (by omega)
