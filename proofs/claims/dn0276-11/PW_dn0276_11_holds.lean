import PyProof.Rows.All
import Wide.All
import OpenK.AllK
import Wide.FinOn
import PyProof.ExcStrAll.TypeError
import PyProof.ExcStrCall
import PyProof.RulesAs
import KE.KPar
import PyProof.AttrMissHeap
import PyProof.Rows.SetFrom
import KE.KItemsList
import PySem.Challenge.RW_dn0276_11
open PySem PySem.W PyProof.Rows
set_option Elab.async false
set_option linter.unusedVariables false

namespace Mine

/-- a text by its signs -/
noncomputable abbrev S (l : List Nat) : Str := ⟨l.toArray⟩

theorem obj_eq {o : Obj} {cl : Value} {dt : Data} (h1 : o.cls = cl) (h2 : o.dict = none ∧ o.slots = #[]) (h3 : o.data = dt) : o = { cls := cl, data := dt } := by
  obtain ⟨a, b, d, e⟩ := o
  simp only at h1 h2 h3
  rw [h1, h2.1, h2.2, h3]

/-- abstract data -/
inductive D where
  | none
  | bool (b : Bool)
  | int (i : Int)
  | str (x : Str)
  | tstr (x : Str)
  | bytes (b : List Nat)
  | val (v : Value)
  | range (a b st : Int)
  | list (xs : List D)
  | tuple (xs : List D)
  | dict (kvs : List (List Nat × D))
  deriving Inhabited

/-- what stays the same through one law -/
structure Cx where
  prog : Program
  w : World
  base : Heap
  mg : Str → Option Value
  mb : Str → Option Value
  lsc : Scope → Prop
  hn : Prop

noncomputable abbrev Cx.M (c : Cx) : Model := model c.prog c.w

noncomputable def Keeps (h h' : Heap) : Prop := ∀ b o, h.get? b = some o → h'.get? b = some o
theorem Keeps.refl (h : Heap) : Keeps h h := fun _ _ e => e
theorem Keeps.trans {h h' h'' : Heap} (a : Keeps h h') (b : Keeps h' h'') : Keeps h h'' := fun x o e => b x o (a x o e)

structure Cx.Good (c : Cx) : Prop where
  g : c.base.Ns mainGlobals c.mg
  b : c.base.Ns builtinsNs c.mb
  lim : c.base.NoLimit

/-- an evaluation only adds -/
structure Gr (s s' : Shared) : Prop where
  keep : Keeps s.heap s'.heap
  tok : s.toks ≤ s'.toks
  gens : s'.gens = s.gens
  os : s'.os = s.os
theorem Gr.refl (s : Shared) : Gr s s := ⟨Keeps.refl _, Nat.le_refl _, rfl, rfl⟩
theorem Gr.trans {s s' s'' : Shared} (a : Gr s s') (b : Gr s' s'') : Gr s s'' :=
  ⟨a.keep.trans b.keep, Nat.le_trans a.tok b.tok, b.gens.trans a.gens, b.os.trans a.os⟩
theorem Gr.toks {s : Shared} {k : Nat} (h : s.toks ≤ k) : Gr s { s with toks := k } := ⟨Keeps.refl _, h, rfl, rfl⟩
theorem Gr.push {s : Shared} (o : Obj) : Gr s { s with heap := s.heap.push o } :=
  ⟨fun _ _ e => Heap.get?_push_of_some o e, Nat.le_refl _, rfl, rfl⟩

noncomputable abbrev Vol0 : Addr → Prop := fun _ => False

mutual
/-- the value stands for the data; no node of it lies in V -/
inductive Rep (c : Cx) (V : Addr → Prop) (s : Shared) : D → Value → Prop
  | none : Rep c V s .none .none
  | bool (b) : Rep c V s (.bool b) (.bool b)
  | int (i t) : Rep c V s (.int i) (.int i t)
  | str (x t) : Rep c V s (.str x) (.str x t)
  | tstr (x t) : t ≠ 0 → t < s.toks → Rep c V s (.tstr x) (.str x t)
  | bytes (b t) : Rep c V s (.bytes b) (.bytes (b.map UInt8.ofNat).toArray t)
  | val (v) : Rep c V s (.val v) v
  | range {r a b st t u v} : ¬ V r → IsRange s.heap r a b st t u v → Rep c V s (.range a b st) (.ref r)
  | list {a o vs n ds} : ¬ V a → s.heap.get? a = some o → o.cls = .type "list" → (o.dict = Option.none ∧ o.slots = #[]) → o.data = .seq vs n → RepL c V s ds vs.toList →
      Rep c V s (.list ds) (.ref a)
  | tuple {a o vs n ds} : ¬ V a → s.heap.get? a = some o → o.cls = .type "tuple" → (o.dict = Option.none ∧ o.slots = #[]) → o.data = .seq vs n → RepL c V s ds vs.toList →
      Rep c V s (.tuple ds) (.ref a)
  | dict {a o es n kvs} : ¬ V a → (a == sysModules) = false → s.heap.get? a = some o → o.ExactDict → o.data = .dict es n → RepD c V s kvs es.toList →
      Rep c V s (.dict kvs) (.ref a)
inductive RepL (c : Cx) (V : Addr → Prop) (s : Shared) : List D → List Value → Prop
  | nil : RepL c V s [] []
  | cons {d v ds vs} : Rep c V s d v → RepL c V s ds vs → RepL c V s (d :: ds) (v :: vs)
inductive RepD (c : Cx) (V : Addr → Prop) (s : Shared) : List (List Nat × D) → List DictEntry → Prop
  | nil : RepD c V s [] []
  | cons {k d t e kvs es} : e.key = .str (S k) t → e.hash = hashStr c.w (S k) → Rep c V s d e.val →
      RepD c V s kvs es → RepD c V s ((k, d) :: kvs) (e :: es)
end

/-- what may change under a Rep -/
noncomputable def Calm (V : Addr → Prop) (s s' : Shared) : Prop :=
  s.toks ≤ s'.toks ∧ ∀ b o, ¬ V b → s.heap.get? b = some o → ((∃ xs n, o.data = .seq xs n) ∨ (∃ es n, o.data = .dict es n) ∨ o.cls = .type "range") → s'.heap.get? b = some o

mutual
theorem Rep.calm {c : Cx} {V V' : Addr → Prop} {s s' : Shared} (hc : Calm V s s') (hv : ∀ a, V' a → V a) : ∀ {d v}, Rep c V s d v → Rep c V' s' d v
  | _, _, .none => .none
  | _, _, .bool b => .bool b
  | _, _, .int i t => .int i t
  | _, _, .str x t => .str x t
  | _, _, .tstr x t h1 h2 => .tstr x t h1 (Nat.lt_of_lt_of_le h2 hc.1)
  | _, _, .bytes b t => .bytes b t
  | _, _, .val v => .val v
  | _, _, .range na h => .range (fun q => na (hv _ q)) (hc.2 _ _ na h (.inr (.inr rfl)))
  | _, _, .list na ho hcl hd hdt r => .list (fun q => na (hv _ q)) (hc.2 _ _ na ho (.inl ⟨_, _, hdt⟩)) hcl hd hdt (RepL.calm hc hv r)
  | _, _, .tuple na ho hcl hd hdt r => .tuple (fun q => na (hv _ q)) (hc.2 _ _ na ho (.inl ⟨_, _, hdt⟩)) hcl hd hdt (RepL.calm hc hv r)
  | _, _, .dict na hsm ho hx hdt r => .dict (fun q => na (hv _ q)) hsm (hc.2 _ _ na ho (.inr (.inl ⟨_, _, hdt⟩))) hx hdt (RepD.calm hc hv r)
theorem RepL.calm {c : Cx} {V V' : Addr → Prop} {s s' : Shared} (hc : Calm V s s') (hv : ∀ a, V' a → V a) : ∀ {d v}, RepL c V s d v → RepL c V' s' d v
  | _, _, .nil => .nil
  | _, _, .cons r rs => .cons (Rep.calm hc hv r) (RepL.calm hc hv rs)
theorem RepD.calm {c : Cx} {V V' : Addr → Prop} {s s' : Shared} (hc : Calm V s s') (hv : ∀ a, V' a → V a) : ∀ {d v}, RepD c V s d v → RepD c V' s' d v
  | _, _, .nil => .nil
  | _, _, .cons hk hh r rs => .cons hk hh (Rep.calm hc hv r) (RepD.calm hc hv rs)
end

theorem Gr.calm {s s' : Shared} (g : Gr s s') (V : Addr → Prop) : Calm V s s' := ⟨g.tok, fun _ _ _ e _ => g.keep _ _ e⟩
theorem Rep.gr {c V s s' d v} (r : Rep c V s d v) (g : Gr s s') : Rep c V s' d v := r.calm (g.calm V) fun _ q => q
theorem RepL.gr {c V s s' d v} (r : RepL c V s d v) (g : Gr s s') : RepL c V s' d v := r.calm (g.calm V) fun _ q => q
theorem Rep.weak {c V V' s d v} (r : Rep c V s d v) (hv : ∀ a, V' a → V a) : Rep c V' s d v := r.calm (Gr.calm (.refl s) V) hv
theorem RepL.weak {c V V' s d v} (r : RepL c V s d v) (hv : ∀ a, V' a → V a) : RepL c V' s d v := r.calm (Gr.calm (.refl s) V) hv

theorem RepL.length {c V s} : ∀ {ds vs}, RepL c V s ds vs → ds.length = vs.length
  | _, _, .nil => rfl
  | _, _, .cons _ r => by simp [r.length]
theorem RepL.append {c V s} : ∀ {ds vs ds' vs'}, RepL c V s ds vs → RepL c V s ds' vs' → RepL c V s (ds ++ ds') (vs ++ vs')
  | _, _, _, _, .nil, r => r
  | _, _, _, _, .cons a r, r' => .cons a (r.append r')
theorem RepL.get {c V s} : ∀ {ds vs} {i : Nat} {d}, RepL c V s ds vs → ds[i]? = some d → ∃ v, vs[i]? = some v ∧ Rep c V s d v
  | _, _, 0, _, .cons a _, e => by cases e; exact ⟨_, rfl, a⟩
  | _, _, i + 1, _, .cons _ r, e => by
    obtain ⟨v, h1, h2⟩ := r.get (i := i) (by simpa using e)
    exact ⟨v, by simpa using h1, h2⟩
  | _, _, _, _, .nil, e => by simp at e
theorem ofString_inj {x y : String} (h : Str.ofString x = Str.ofString y) : x = y := by
  rw [Str.ofString_eq_toList, Str.ofString_eq_toList] at h
  injection h with h
  have h2 : x.toList.map Char.toNat = y.toList.map Char.toNat := by
    have := congrArg Array.toList h
    simpa using this
  have inj : ∀ (a b : List Char), a.map Char.toNat = b.map Char.toNat → a = b := by
    intro a
    induction a with
    | nil => intro b hb; cases b with
      | nil => rfl
      | cons _ _ => simp at hb
    | cons p a ih => intro b hb; cases b with
      | nil => simp at hb
      | cons q b =>
        simp only [List.map_cons, List.cons.injEq] at hb
        rw [ih b hb.2, show p = q from by
          apply Char.ext
          apply UInt32.toNat_inj.mp
          exact hb.1]
  exact String.toList_inj.mp (inj _ _ h2)

/-- the state a call finds -/
structure St (c : Cx) (V : Addr → Prop) (s : Shared) : Prop where
  good : c.Good
  keep : Keeps c.base s.heap
  tok : s.toks ≠ 0
  live : ∀ a, V a → ∃ o, s.heap.get? a = some o
theorem St.gr {c V s s'} (h : St c V s) (g : Gr s s') : St c V s' :=
  ⟨h.good, h.keep.trans g.keep, fun e => h.tok (Nat.le_zero.mp (e ▸ g.tok)), fun a q => let ⟨o, e⟩ := h.live a q; ⟨o, g.keep _ _ e⟩⟩
theorem St.weak {c V V' s} (h : St c V s) (hv : ∀ a, V' a → V a) : St c V' s := ⟨h.good, h.keep, h.tok, fun a q => h.live a (hv a q)⟩

/-- room on the stack for n more frames; nothing is being handled -/
structure Room (c : Cx) (n : Nat) (A : Around) : Prop where
  handled : c.hn → A.handled = none
  depth : A.depth + n < 900
  units : A.units + 10 * n + 100 < cLine
theorem Room.mono {c n m A} (h : Room c n A) (hm : m ≤ n) : Room c m A := ⟨h.handled, by have := h.depth; omega, by have := h.units; omega⟩
theorem Room.deeper {c n A} (h : Room c (n + 1) A) (env : Env) : Room c n (A.deeper env) :=
  ⟨h.handled, by have := h.depth; show A.depth + 1 + n < 900; omega, by have := h.units; show A.units + 3 + 10 * n + 100 < cLine; omega⟩
theorem Room.lim {c n A} (h : Room c n A) : A.depth < recursionLimit := by have := h.depth; unfold recursionLimit; omega

/-- f called with ds gives d -/
structure FnR (c : Cx) (n : Nat) (f : Value) (ds : List D) (d : D) : Prop where
  run : ∀ A V s vs, Room c n A → St c V s → RepL c V s ds vs →
    wpAny c.M A (call f vs) (fun v s' => Gr s s' ∧ Rep c V s' d v) (fun _ _ => False) s

/-- something that is kept at some places of the heap, told by a predicate of these alone -/
structure Res where
  v : Value
  P : List Addr → Heap → Prop
  live : ∀ fp h, P fp h → ∀ a ∈ fp, ∃ o, h.get? a = some o
  nocell : ∀ fp h, P fp h → ∀ a ∈ fp, ∀ o v, h.get? a = some o → o.data ≠ .cell v
  keep : ∀ fp h h', P fp h → (∀ a ∈ fp, ∀ o, h.get? a = some o → h'.get? a = some o) → P fp h'

inductive Slot where
  | val (d : D)
  | own (l : List Slot)
  | res (R : Res)
instance : Inhabited Slot := ⟨.val .none⟩
noncomputable abbrev Sto := List (String × Slot)

mutual
inductive RepS (c : Cx) (V : Addr → Prop) (s : Shared) : Slot → Value → List Addr → Prop
  | val {d v} : Rep c V s d v → RepS c V s (.val d) v []
  | res {R fp} : R.P fp s.heap → RepS c V s (.res R) R.v fp
  | own {a o vs n sl fp} : s.heap.get? a = some o → o.cls = .type "list" → (o.dict = Option.none ∧ o.slots = #[]) → o.data = .seq vs n → RepSL c V s sl vs.toList fp → RepS c V s (.own sl) (.ref a) (a :: fp)
inductive RepSL (c : Cx) (V : Addr → Prop) (s : Shared) : List Slot → List Value → List Addr → Prop
  | nil : RepSL c V s [] [] []
  | cons {sl v fp sls vs fps} : RepS c V s sl v fp → RepSL c V s sls vs fps → RepSL c V s (sl :: sls) (v :: vs) (fp ++ fps)
end

/-- the name's value -/
inductive Loc (env : Env) (s : Shared) (m : Str → Option Value) (x : String) (v : Value) : Prop
  | loc : env.kindOf (Str.ofString x) = some .local → m (Str.ofString x) = some v → Loc env s m x v
  | cell {a o} : (env.kindOf (Str.ofString x) = some .cell ∨ (env.kindOf (Str.ofString x) = some .free ∧ x ≠ "__classdict__")) → env.cells.lookup (Str.ofString x) = some a → s.heap.get? a = some o →
      o.data = .cell (some v) → Loc env s m x v

inductive StoR (c : Cx) (env : Env) (V : Addr → Prop) (s : Shared) (m : Str → Option Value) : Sto → List Addr → Prop
  | nil : StoR c env V s m [] []
  | cons {x sl v fp ρ fps} : Loc env s m x v → RepS c V s sl v fp → StoR c env V s m ρ fps → StoR c env V s m ((x, sl) :: ρ) (fp ++ fps)

noncomputable abbrev Vol (V0 : Addr → Prop) (X : List Addr) : Addr → Prop := fun a => V0 a ∨ a ∈ X

/-- the frame: env's names are as ρ says -/
structure Fm (c : Cx) (sc : Scope) (env : Env) (V0 : Addr → Prop) (h0 : Heap) (Cs : List (Str × Addr)) (X : List Addr) (ρ : Sto) (s : Shared) : Prop where
  good : c.Good
  scope : env.scope = sc
  kind : sc.kind = .function
  globals : env.globals = mainGlobals
  builtins : env.builtins = builtinsNs
  base : Keeps c.base h0
  keep : Keeps h0 s.heap
  tok : s.toks ≠ 0
  live0 : ∀ a, V0 a → (∃ o, s.heap.get? a = some o) ∧ a ∉ X
  ccells : ∀ x, (sc.names.lookup x = some .cell ∨ sc.names.lookup x = some .free) → ∃ a, env.cells.lookup x = some a
  new : ∀ a ∈ X, h0.get? a = none
  cells : ∀ x a, Cs.lookup x = some a → env.cells.lookup x = some a
  cinj : ∀ x y a, env.cells.lookup x = some a → env.cells.lookup y = some a → x = y
  sto : ∃ m fps, s.heap.Ns env.locals m ∧ X = env.locals :: (Cs.map (·.2) ++ fps) ∧ X.Nodup ∧ (∀ a ∈ X, ∃ o, s.heap.get? a = some o) ∧ (∀ p ∈ Cs, ∃ v, s.heap.IsCell p.2 v) ∧ StoR c env (Vol V0 X) s m ρ fps

/-- k = true: the value may be kept; k = false: it is looked at only -/
noncomputable abbrev VK (k : Bool) (V0 : Addr → Prop) (X : List Addr) : Addr → Prop := fun a => k = true ∧ Vol V0 X a

/-- e has the value d -/
structure Ev (c : Cx) (n : Nat) (sc : Scope) (k : Bool) (ρ : Sto) (e : Expr) (d : D) : Prop where
  run : ∀ A env V0 h0 Cs X s, Room c n A → Fm c sc env V0 h0 Cs X ρ s →
    wpAny c.M A (eval e env) (fun v s' => Gr s s' ∧ Rep c (VK k V0 X) s' d v) (fun _ _ => False) s

end Mine
namespace Mine

theorem St.pos {c V s} (h : St c V s) : 0 < s.toks := Nat.pos_of_ne_zero h.tok

/-- the end of a step: the counter only grows -/
theorem wp_end {α : Type} {c : Cx} {A : Around} {t : Sem α} {s : Shared} {P : α → Shared → Prop}
    (h : wpAny c.M A t (fun v s' => Keeps s.heap s'.heap ∧ s'.gens = s.gens ∧ s'.os = s.os ∧ (s.toks ≤ s'.toks → P v s')) (fun _ _ => False) s) :
    wpAny c.M A t (fun v s' => Gr s s' ∧ P v s') (fun _ _ => False) s :=
  wpAny_with_toks (Nat.le_refl _) (wpAny_mono h (fun _ _ q ht => ⟨⟨q.1, ht, q.2.1, q.2.2.1⟩, q.2.2.2 ht⟩) fun _ _ q => q.elim)

theorem wp_gr {α : Type} {c : Cx} {A : Around} {t : Sem α} {s s₀ : Shared} {P : α → Shared → Prop} (g : Gr s₀ s)
    (h : wpAny c.M A t (fun v s' => Gr s s' ∧ P v s') (fun _ _ => False) s) :
    wpAny c.M A t (fun v s' => Gr s₀ s' ∧ P v s') (fun _ _ => False) s :=
  wpAny_mono h (fun _ _ q => ⟨g.trans q.1, q.2⟩) fun _ _ q => q

mutual
theorem RepS.calm {c : Cx} {V V' : Addr → Prop} {s s' : Shared} (hc : Calm V s s') (hv : ∀ a, V' a → V a) : ∀ {sl v fp}, RepS c V s sl v fp →
    (∀ a ∈ fp, ∀ o, s.heap.get? a = some o → s'.heap.get? a = some o) → RepS c V' s' sl v fp
  | _, _, _, .val r, _ => .val (r.calm hc hv)
  | _, _, _, .res (R := R) h, hk => .res (R.keep _ _ _ h hk)
  | _, _, _, .own ho hcl hd hdt r, hk => .own (hk _ (.head _) _ ho) hcl hd hdt (RepSL.calm hc hv r fun a ha => hk a (.tail _ ha))
theorem RepSL.calm {c : Cx} {V V' : Addr → Prop} {s s' : Shared} (hc : Calm V s s') (hv : ∀ a, V' a → V a) : ∀ {sl v fp}, RepSL c V s sl v fp →
    (∀ a ∈ fp, ∀ o, s.heap.get? a = some o → s'.heap.get? a = some o) → RepSL c V' s' sl v fp
  | _, _, _, .nil, _ => .nil
  | _, _, _, .cons r rs, hk => .cons (RepS.calm hc hv r fun a ha => hk a (List.mem_append_left _ ha)) (RepSL.calm hc hv rs fun a ha => hk a (List.mem_append_right _ ha))
end

theorem Loc.calm {env : Env} {s s' : Shared} {m m' : Str → Option Value} {x : String} {v : Value} (h : Loc env s m x v)
    (hm : env.kindOf (Str.ofString x) = some .local → m' (Str.ofString x) = m (Str.ofString x)) (hc : ∀ a o w, env.cells.lookup (Str.ofString x) = some a → s.heap.get? a = some o → o.data = .cell w → s'.heap.get? a = some o) : Loc env s' m' x v := by
  cases h with
  | loc h1 h2 => exact .loc h1 ((hm h1).trans h2)
  | cell h1 h2 h3 h4 => exact .cell h1 h2 (hc _ _ _ h2 h3 h4) h4

theorem StoR.gr {c : Cx} {env : Env} {V : Addr → Prop} {s s' : Shared} {m : Str → Option Value} (g : Gr s s') : ∀ {ρ fps}, StoR c env V s m ρ fps → StoR c env V s' m ρ fps
  | _, _, .nil => .nil
  | _, _, .cons l r rs => .cons (l.calm (fun _ => rfl) fun _ _ _ _ e _ => g.keep _ _ e) (r.calm (g.calm V) (fun _ q => q) fun _ _ _ e => g.keep _ _ e) (rs.gr g)

theorem Fm.gr {c sc env V0 h0 Cs X ρ s s'} (F : Fm c sc env V0 h0 Cs X ρ s) (g : Gr s s') : Fm c sc env V0 h0 Cs X ρ s' :=
  ⟨F.good, F.scope, F.kind, F.globals, F.builtins, F.base, F.keep.trans g.keep, fun e => F.tok (Nat.le_zero.mp (e ▸ g.tok)), fun a q => ⟨let ⟨o, e⟩ := (F.live0 a q).1; ⟨o, g.keep _ _ e⟩, (F.live0 a q).2⟩, F.ccells, F.new, F.cells, F.cinj,
   let ⟨m, fps, h1, h2, h3, h4, h6, h5⟩ := F.sto
   ⟨m, fps, h1.keeps g.keep, h2, h3, fun a ha => let ⟨o, e⟩ := h4 a ha; ⟨o, g.keep _ _ e⟩, fun p hp => let ⟨v, q⟩ := h6 p hp; ⟨v, q.keeps g.keep⟩, h5.gr g⟩⟩

theorem Fm.st {c sc env V0 h0 Cs X ρ s} (F : Fm c sc env V0 h0 Cs X ρ s) (k : Bool) : St c (VK k V0 X) s :=
  ⟨F.good, F.base.trans F.keep, F.tok, fun a q => by
    rcases q.2 with q | q
    · exact (F.live0 a q).1
    · obtain ⟨m, fps, _, _, _, h4, _, _⟩ := F.sto; exact h4 a q⟩

theorem StoR.get {c : Cx} {env : Env} {V : Addr → Prop} {s : Shared} {m : Str → Option Value} {x : String} {sl : Slot} : ∀ {ρ fps}, StoR c env V s m ρ fps → ρ.lookup x = some sl →
    ∃ v fp, Loc env s m x v ∧ RepS c V s sl v fp ∧ (∀ a ∈ fp, a ∈ fps)
  | _, _, .nil, e => by cases e
  | _, _, .cons (x := y) (v := v) (fp := fp) l r rs, e => by
    rw [List.lookup_cons] at e
    by_cases hy : x = y
    · subst hy
      simp only [beq_self_eq_true] at e
      cases e
      exact ⟨v, fp, l, r, fun a ha => List.mem_append_left _ ha⟩
    · have : (x == y) = false := by simpa using hy
      rw [this] at e
      obtain ⟨v', fp', h1, h2, h3⟩ := rs.get e
      exact ⟨v', fp', h1, h2, fun a ha => List.mem_append_right _ (h3 a ha)⟩

theorem ofString_ne {x y : String} (h : x ≠ y) : (Str.ofString x == Str.ofString y) = false := by
  rw [beq_eq_false_iff_ne]; exact fun e => h (ofString_inj e)

/-- reading a name -/
theorem Loc.load {M : Model} {A : Around} {E : Value → Shared → Prop} {env : Env} {s : Shared} {m : Str → Option Value} {x : String} {v : Value} {Q : Value → Shared → Prop}
    (hk : env.scope.kind = .function) (hn : s.heap.Ns env.locals m) (l : Loc env s m x v) (h : Q v s) : wpAny M A (loadName env (Str.ofString x)) Q E s := by
  cases l with
  | loc h1 h2 => exact wpAny_loadName_local hk h1 hn h2 h
  | cell h1 h2 h3 h4 =>
    rcases h1 with h1 | ⟨h1, h1'⟩
    · exact wpAny_loadName_cell hk h1 h2 ⟨_, h3, h4⟩ h
    · exact wpAny_loadName_free hk h1 h2 ⟨_, h3, h4⟩ h (ofString_ne h1')

mutual
noncomputable def Slot.d : Slot → D
  | .val d => d
  | .res R => .val R.v
  | .own l => .list (Slot.ds l)
noncomputable def Slot.ds : List Slot → List D
  | [] => []
  | sl :: r => sl.d :: Slot.ds r
end

mutual
theorem RepS.look {c V s} : ∀ {sl v fp}, RepS c V s sl v fp → Rep c Vol0 s sl.d v
  | _, _, _, .val r => r.weak fun _ q => q.elim
  | _, _, _, .res _ => .val _
  | _, _, _, .own ho hcl hd hdt r => .list id ho hcl hd hdt (RepSL.look r)
theorem RepSL.look {c V s} : ∀ {sl v fp}, RepSL c V s sl v fp → RepL c Vol0 s (Slot.ds sl) v
  | _, _, _, .nil => .nil
  | _, _, _, .cons r rs => .cons (RepS.look r) (RepSL.look rs)
end

section
variable {c : Cx} {n : Nat} {sc : Scope} {k : Bool} {ρ : Sto}

theorem Ev.name {x : String} {pos : Pos} {d : D} (h : ρ.lookup x = some (.val d)) (hx : x ≠ "__debug__" := by decide) : Ev c n sc k ρ (.Name (Str.ofString x) pos) d := by
  constructor; intro A env V0 h0 Cs X s _ F
  obtain ⟨m, fps, hn, _, _, _, _, hs⟩ := F.sto
  obtain ⟨v, fp, l, r, _⟩ := hs.get h
  refine wpAny_Name (l.load (by rw [F.scope]; exact F.kind) hn ⟨.refl s, ?_⟩) (ofString_ne hx)
  cases r with
  | val r => exact r.weak fun _ q => q.2

/-- an owned list is looked at -/
theorem Ev.look {x : String} {pos : Pos} {sl : Slot} {d : D} (h : ρ.lookup x = some sl) (hd : sl.d = d) (hx : x ≠ "__debug__" := by decide) : Ev c n sc false ρ (.Name (Str.ofString x) pos) d := by
  constructor; intro A env V0 h0 Cs X s _ F
  obtain ⟨m, fps, hn, _, _, _, _, hs⟩ := F.sto
  obtain ⟨v, fp, l, r, _⟩ := hs.get h
  refine wpAny_Name (l.load (by rw [F.scope]; exact F.kind) hn ⟨.refl s, ?_⟩) (ofString_ne hx)
  subst hd
  exact r.look.weak fun _ q => nomatch q.1

theorem Ev.weak {e : Expr} {d : D} (h : Ev c n sc true ρ e d) : Ev c n sc k ρ e d := .mk fun A env V0 h0 Cs X s hA F =>
  wpAny_mono (h.run A env V0 h0 Cs X s hA F) (fun _ _ q => ⟨q.1, q.2.weak fun _ q => ⟨rfl, q.2⟩⟩) fun _ _ q => q

noncomputable def D.flat : D → Bool
  | .none | .bool _ | .int _ | .str _ | .tstr _ | .bytes _ | .val _ => true
  | _ => false
theorem Rep.flat {c V V' s} : ∀ {d v}, Rep c V s d v → d.flat = true → Rep c V' s d v
  | _, _, .none, _ => .none
  | _, _, .bool b, _ => .bool b
  | _, _, .int i t, _ => .int i t
  | _, _, .str x t, _ => .str x t
  | _, _, .tstr x t a b, _ => .tstr x t a b
  | _, _, .bytes b t, _ => .bytes b t
  | _, _, .val v, _ => .val v
  | _, _, .range .., h => nomatch h
  | _, _, .list .., h => nomatch h
  | _, _, .tuple .., h => nomatch h
  | _, _, .dict .., h => nomatch h

theorem Ev.lookAt {e : Expr} {d : D} (h : Ev c n sc false ρ e d) (hd : d.flat = true) : Ev c n sc k ρ e d := .mk fun A env V0 h0 Cs X s hA F =>
  wpAny_mono (h.run A env V0 h0 Cs X s hA F) (fun _ _ q => ⟨q.1, q.2.flat hd⟩) fun _ _ q => q

theorem Ev.int {i : Int} {kk : Nat} {pos : Pos} : Ev c n sc k ρ (.Constant (.int i) kk pos) (.int i) := .mk fun A env V0 h0 Cs X s _ _ =>
  wp_end (wpAny_Constant_int ⟨fun _ _ e => e, rfl, rfl, fun _ => .int _ _⟩)
theorem Ev.str {x : Str} {kk : Nat} {pos : Pos} : Ev c n sc k ρ (.Constant (.str x) kk pos) (.str x) := .mk fun A env V0 h0 Cs X s _ _ =>
  wp_end (wpAny_Constant_str ⟨fun _ _ e => e, rfl, rfl, fun _ => .str _ _⟩)
theorem Ev.bool {b : Bool} {kk : Nat} {pos : Pos} : Ev c n sc k ρ (.Constant (.bool b) kk pos) (.bool b) := .mk fun A env V0 h0 Cs X s _ _ =>
  wpAny_Constant_bool ⟨.refl s, .bool _⟩
theorem Ev.none {kk : Nat} {pos : Pos} : Ev c n sc k ρ (.Constant .none kk pos) .none := .mk fun A env V0 h0 Cs X s _ _ =>
  wpAny_Constant_none ⟨.refl s, .none⟩

/-- a name of the module's top -/
theorem Ev.glob {x : String} {pos : Pos} {v : Value} (h : c.mg (Str.ofString x) = some v) (hk : sc.names.lookup (Str.ofString x) = some .globalImplicit := by rfl) (hx : x ≠ "__debug__" := by decide) :
    Ev c n sc k ρ (.Name (Str.ofString x) pos) (.val v) := .mk fun A env V0 h0 Cs X s _ F =>
  Calls.Name_function_global (by rw [F.scope]; exact F.kind) (by show env.scope.names.lookup _ = _; rw [F.scope]; exact hk)
    (Calls.loadGlobal_global (by rw [F.globals]; exact (F.good.g.keeps F.base).keeps F.keep) h ⟨.refl s, .val _⟩) (ofString_ne hx)
/-- a name of the built-ins -/
theorem Ev.blt {x : String} {pos : Pos} {v : Value} (h0 : c.mg (Str.ofString x) = Option.none) (h : c.mb (Str.ofString x) = some v) (hk : sc.names.lookup (Str.ofString x) = some .globalImplicit := by rfl) (hx : x ≠ "__debug__" := by decide) :
    Ev c n sc k ρ (.Name (Str.ofString x) pos) (.val v) := .mk fun A env V0 h0' Cs X s _ F =>
  Calls.Name_function_global (by rw [F.scope]; exact F.kind) (by show env.scope.names.lookup _ = _; rw [F.scope]; exact hk)
    (Calls.loadGlobal_builtin (by rw [F.globals]; exact (F.good.g.keeps F.base).keeps F.keep) h0 (by rw [F.builtins]; exact (F.good.b.keeps F.base).keeps F.keep) h ⟨.refl s, .val _⟩) (ofString_ne hx)

noncomputable def BinR (c : Cx) (op : Operator) (d₁ d₂ d : D) : Prop :=
  ∀ A V s v₁ v₂, Room c 0 A → St c V s → Rep c V s d₁ v₁ → Rep c V s d₂ v₂ → wpAny c.M A (binaryOp op v₁ v₂) (fun v s' => Gr s s' ∧ Rep c V s' d v) (fun _ _ => False) s
noncomputable def InpR (c : Cx) (op : Operator) (d₁ d₂ d : D) : Prop :=
  ∀ A V s v₁ v₂, Room c 0 A → St c V s → Rep c V s d₁ v₁ → Rep c V s d₂ v₂ → wpAny c.M A (inplaceOp op v₁ v₂) (fun v s' => Gr s s' ∧ Rep c V s' d v) (fun _ _ => False) s
noncomputable def CmpR (c : Cx) (op : CmpOp) (d₁ d₂ : D) (b : Bool) : Prop :=
  ∀ A V s v₁ v₂, Room c 0 A → St c V s → Rep c V s d₁ v₁ → Rep c V s d₂ v₂ → wpAny c.M A (compareOp op v₁ v₂) (fun v s' => Gr s s' ∧ v = .bool b) (fun _ _ => False) s
noncomputable def ItemR (c : Cx) (d₁ d₂ d : D) : Prop :=
  ∀ A V s v₁ v₂, Room c 0 A → St c V s → Rep c V s d₁ v₁ → Rep c V s d₂ v₂ → wpAny c.M A (getItem v₁ v₂) (fun v s' => Gr s s' ∧ Rep c V s' d v) (fun _ _ => False) s
noncomputable def TruR (c : Cx) (d : D) (b : Bool) : Prop :=
  ∀ A V s v, Room c 0 A → St c V s → Rep c V s d v → wpAny c.M A (truthy v) (fun r s' => Gr s s' ∧ r = b) (fun _ _ => False) s

theorem Room.zero {n A} (h : Room c n A) : Room c 0 A := h.mono (Nat.zero_le _)

theorem Ev.bin {l r : Expr} {op : Operator} {pos : Pos} {d₁ d₂ d : D} (h1 : Ev c n sc k ρ l d₁) (h2 : Ev c n sc k ρ r d₂) (h : BinR c op d₁ d₂ d) : Ev c n sc k ρ (.BinOp l op r pos) d :=
  .mk fun A env V0 h0 Cs X s hA F => wpAny_BinOp (wpAny_mono (h1.run A env V0 h0 Cs X s hA F) (fun v₁ s₁ q₁ => wpAny_mono (h2.run A env V0 h0 Cs X s₁ hA (F.gr q₁.1)) (fun v₂ s₂ q₂ =>
    wp_gr (q₁.1.trans q₂.1) (h A _ s₂ v₁ v₂ hA.zero ((F.st k).gr (q₁.1.trans q₂.1)) (q₁.2.gr q₂.1) q₂.2)) fun _ _ q => q) fun _ _ q => q)

theorem Ev.cmp {l r : Expr} {op : CmpOp} {pos : Pos} {d₁ d₂ : D} {b : Bool} (h1 : Ev c n sc false ρ l d₁) (h2 : Ev c n sc false ρ r d₂) (h : CmpR c op d₁ d₂ b)
    (hm : behindInMarks op r = false := by with_unfolding_all rfl) : Ev c n sc k ρ (.Compare l [op] [r] pos) (.bool b) :=
  .mk fun A env V0 h0 Cs X s hA F => wpAny_Compare1 (wpAny_mono (h1.run A env V0 h0 Cs X s hA F) (fun v₁ s₁ q₁ => wpAny_mono (h2.run A env V0 h0 Cs X s₁ hA (F.gr q₁.1)) (fun v₂ s₂ q₂ =>
    wp_gr (q₁.1.trans q₂.1) (wpAny_mono (h A _ s₂ v₁ v₂ hA.zero ((F.st false).gr (q₁.1.trans q₂.1)) (q₁.2.gr q₂.1) q₂.2) (fun v s' q => ⟨q.1, by rw [q.2]; exact .bool b⟩) fun _ _ q => q)) fun _ _ q => q) fun _ _ q => q) hm

/-- a test -/
structure Tst (c : Cx) (n : Nat) (sc : Scope) (ρ : Sto) (e : Expr) (b : Bool) : Prop where
  run : ∀ A env V0 h0 Cs X s, Room c n A → Fm c sc env V0 h0 Cs X ρ s →
    wpAny c.M A (isTrue e env (eval e env)) (fun r s' => Gr s s' ∧ r = b) (fun _ _ => False) s

theorem Tst.cmp {l r : Expr} {op : CmpOp} {pos : Pos} {d₁ d₂ : D} {b : Bool} (h1 : Ev c n sc false ρ l d₁) (h2 : Ev c n sc false ρ r d₂) (h : CmpR c op d₁ d₂ b)
    (hm : behindInMarks op r = false := by with_unfolding_all rfl) : Tst c n sc ρ (.Compare l [op] [r] pos) b :=
  .mk fun A env V0 h0 Cs X s hA F => wpAny_isTrue_Compare1 (wpAny_mono (h1.run A env V0 h0 Cs X s hA F) (fun v₁ s₁ q₁ => wpAny_mono (h2.run A env V0 h0 Cs X s₁ hA (F.gr q₁.1)) (fun v₂ s₂ q₂ =>
    (wpAny_mono (h A _ s₂ v₁ v₂ hA.zero ((F.st false).gr (q₁.1.trans q₂.1)) (q₁.2.gr q₂.1) q₂.2) (fun v s' q => by
      rw [q.2]; exact wpAny_truthy_bool ⟨(q₁.1.trans q₂.1).trans q.1, rfl⟩) fun _ _ q => q)) fun _ _ q => q) fun _ _ q => q) hm
theorem Tst.not {e : Expr} {pos : Pos} {b : Bool} (h : Tst c n sc ρ e b) : Tst c n sc ρ (.UnaryOp .Not e pos) (!b) :=
  .mk fun A env V0 h0 Cs X s hA F => wpAny_isTrue_Not (wpAny_mono (h.run A env V0 h0 Cs X s hA F) (fun r s' q => ⟨q.1, by rw [q.2]⟩) fun _ _ q => q)
theorem Tst.val {e : Expr} {d : D} {b : Bool} (h : Ev c n sc false ρ e d) (ht : TruR c d b)
    (hw : ∀ env : Env, isTrue e env (eval e env) = (do let v ← eval e env; standAt e.pos; holding [v] (truthy v)) := by intro _; rfl) : Tst c n sc ρ e b :=
  .mk fun A env V0 h0 Cs X s hA F => by
    rw [hw]
    exact wpAny_bind (wpAny_mono (h.run A env V0 h0 Cs X s hA F) (fun v s' q => wpAny_bind (wpAny_standAt (wpAny_holding (wp_gr q.1 (ht A _ s' v hA.zero ((F.st false).gr q.1) q.2))))) fun _ _ q => q)
structure Tsts (c : Cx) (n : Nat) (sc : Scope) (ρ : Sto) (op : BoolOp) (es : List Expr) (b : Bool) : Prop where
  run : ∀ A env V0 h0 Cs X s, Room c n A → Fm c sc env V0 h0 Cs X ρ s →
    wpAny c.M A (allTrue op es env) (fun r s' => Gr s s' ∧ r = b) (fun _ _ => False) s
theorem Tst.boolop {op : BoolOp} {es : List Expr} {pos : Pos} {b : Bool} (h : Tsts c n sc ρ op es b) : Tst c n sc ρ (.BoolOp op es pos) b :=
  .mk fun A env V0 h0 Cs X s hA F => wpAny_isTrue_BoolOp (h.run A env V0 h0 Cs X s hA F)
theorem Tsts.nilAnd : Tsts c n sc ρ .And [] true := .mk fun A env V0 h0 Cs X s _ _ => wpAny_allTrue_And_nil ⟨.refl s, rfl⟩
theorem Tsts.nilOr : Tsts c n sc ρ .Or [] false := .mk fun A env V0 h0 Cs X s _ _ => wpAny_allTrue_Or_nil ⟨.refl s, rfl⟩
theorem Tsts.and {e : Expr} {es : List Expr} {a b : Bool} (h : Tst c n sc ρ e a) (hs : a = true → Tsts c n sc ρ .And es b) : Tsts c n sc ρ .And (e :: es) (a && b) :=
  .mk fun A env V0 h0 Cs X s hA F => wpAny_allTrue_And_cons (wpAny_mono (h.run A env V0 h0 Cs X s hA F) (fun r s' q => by
    obtain ⟨g, rfl⟩ := q
    cases r with
    | false => exact ⟨g, rfl⟩
    | true => exact wp_gr g ((hs rfl).run A env V0 h0 Cs X s' hA (F.gr g))) fun _ _ q => q)
theorem Tsts.or {e : Expr} {es : List Expr} {a b : Bool} (h : Tst c n sc ρ e a) (hs : a = false → Tsts c n sc ρ .Or es b) : Tsts c n sc ρ .Or (e :: es) (a || b) :=
  .mk fun A env V0 h0 Cs X s hA F => wpAny_allTrue_Or_cons (wpAny_mono (h.run A env V0 h0 Cs X s hA F) (fun r s' q => by
    obtain ⟨g, rfl⟩ := q
    cases r with
    | true => exact ⟨g, rfl⟩
    | false => exact wp_gr g ((hs rfl).run A env V0 h0 Cs X s' hA (F.gr g))) fun _ _ q => q)

theorem Ev.ite {t a b : Expr} {pos : Pos} {x : Bool} {d : D} (h : Tst c n sc ρ t x) (ha : x = true → Ev c n sc k ρ a d) (hb : x = false → Ev c n sc k ρ b d) : Ev c n sc k ρ (.IfExp t a b pos) d :=
  .mk fun A env V0 h0 Cs X s hA F => wpAny_IfExp (wpAny_mono (h.run A env V0 h0 Cs X s hA F) (fun r s' q => by
    obtain ⟨g, rfl⟩ := q
    cases r with
    | true => exact wp_gr g ((ha rfl).run A env V0 h0 Cs X s' hA (F.gr g))
    | false => exact wp_gr g ((hb rfl).run A env V0 h0 Cs X s' hA (F.gr g))) fun _ _ q => q)

end
end Mine
namespace Mine

noncomputable def delS (x : String) : Sto → Sto
  | [] => []
  | (y, sl) :: r => if y = x then delS x r else (y, sl) :: delS x r
noncomputable def setS (ρ : Sto) (x : String) (sl : Slot) : Sto := (x, sl) :: delS x ρ

/-- what a piece of code may do to the state: X are the places that it may turn -/
structure Stp (X : List Addr) (s : Shared) (X' : List Addr) (s' : Shared) : Prop where
  keep : ∀ b o, b ∉ X → s.heap.get? b = some o → s'.heap.get? b = some o
  tok : s.toks ≤ s'.toks
  gens : s'.gens = s.gens
  os : s'.os = s.os
  new : ∀ b ∈ X', b ∈ X ∨ s.heap.get? b = none
  live : ∀ b ∈ X, ∀ o, s.heap.get? b = some o → ∃ o', s'.heap.get? b = some o'
theorem Stp.refl (X : List Addr) (s : Shared) : Stp X s X s := ⟨fun _ _ _ e => e, Nat.le_refl _, rfl, rfl, fun _ h => .inl h, fun _ _ o e => ⟨o, e⟩⟩
theorem Stp.of_gr {X : List Addr} {s s' : Shared} (g : Gr s s') : Stp X s X s' := ⟨fun _ _ _ e => g.keep _ _ e, g.tok, g.gens, g.os, fun _ h => .inl h, fun _ _ o e => ⟨o, g.keep _ _ e⟩⟩
theorem Stp.trans {X X' X'' : List Addr} {s s' s'' : Shared} (a : Stp X s X' s') (b : Stp X' s' X'' s'') : Stp X s X'' s'' :=
  ⟨fun x o hx e => b.keep x o (fun q => (a.new x q).elim hx fun q => (by rw [q] at e; cases e)) (a.keep x o hx e), Nat.le_trans a.tok b.tok, b.gens.trans a.gens, b.os.trans a.os,
   fun x hx => (by
    rcases b.new x hx with q | q
    · exact a.new x q
    · by_cases hX : x ∈ X
      · exact .inl hX
      · refine .inr ?_
        cases e : s.heap.get? x with
        | none => rfl
        | some o => rw [a.keep x o hX e] at q; cases q),
   fun x hx o e => by
    obtain ⟨o', e'⟩ := a.live x hx o e
    by_cases h' : x ∈ X'
    · exact b.live x h' o' e'
    · exact ⟨o', b.keep x o' h' e'⟩⟩
theorem Stp.sub {X Y X' : List Addr} {s s' : Shared} (a : Stp X s X' s') (h : ∀ b ∈ X, b ∈ Y) : Stp Y s X' s' :=
  ⟨fun b o hb e => a.keep b o (fun q => hb (h b q)) e, a.tok, a.gens, a.os, fun b hb => (a.new b hb).imp (h b) id, fun b hb o e => by
    by_cases hX : b ∈ X
    · exact a.live b hX o e
    · exact ⟨o, a.keep b o hX e⟩⟩
theorem Stp.sub' {X X' Y : List Addr} {s s' : Shared} (a : Stp X s X' s') (h : ∀ b ∈ Y, b ∈ X') : Stp X s Y s' :=
  ⟨a.keep, a.tok, a.gens, a.os, fun b hb => a.new b (h b hb), a.live⟩

mutual
theorem Rep.ext {c : Cx} {V W : Addr → Prop} {s : Shared} (hw : ∀ a, W a → s.heap.get? a = none) : ∀ {d v}, Rep c V s d v → Rep c (fun a => V a ∨ W a) s d v
  | _, _, .none => .none
  | _, _, .bool b => .bool b
  | _, _, .int i t => .int i t
  | _, _, .str x t => .str x t
  | _, _, .tstr x t h1 h2 => .tstr x t h1 h2
  | _, _, .bytes b t => .bytes b t
  | _, _, .val v => .val v
  | _, _, .range na h => .range (fun q => q.elim na fun q => by unfold IsRange at h; rw [hw _ q] at h; cases h) h
  | _, _, .list na ho hcl hd hdt r => .list (fun q => q.elim na fun q => by rw [hw _ q] at ho; cases ho) ho hcl hd hdt (RepL.ext hw r)
  | _, _, .tuple na ho hcl hd hdt r => .tuple (fun q => q.elim na fun q => by rw [hw _ q] at ho; cases ho) ho hcl hd hdt (RepL.ext hw r)
  | _, _, .dict na hsm ho hx hdt r => .dict (fun q => q.elim na fun q => by rw [hw _ q] at ho; cases ho) hsm ho hx hdt (RepD.ext hw r)
theorem RepL.ext {c : Cx} {V W : Addr → Prop} {s : Shared} (hw : ∀ a, W a → s.heap.get? a = none) : ∀ {d v}, RepL c V s d v → RepL c (fun a => V a ∨ W a) s d v
  | _, _, .nil => .nil
  | _, _, .cons r rs => .cons (Rep.ext hw r) (RepL.ext hw rs)
theorem RepD.ext {c : Cx} {V W : Addr → Prop} {s : Shared} (hw : ∀ a, W a → s.heap.get? a = none) : ∀ {d v}, RepD c V s d v → RepD c (fun a => V a ∨ W a) s d v
  | _, _, .nil => .nil
  | _, _, .cons hk hh r rs => .cons hk hh (Rep.ext hw r) (RepD.ext hw rs)
end
mutual
theorem RepS.ext {c : Cx} {V W : Addr → Prop} {s : Shared} (hw : ∀ a, W a → s.heap.get? a = none) : ∀ {d v fp}, RepS c V s d v fp → RepS c (fun a => V a ∨ W a) s d v fp
  | _, _, _, .val r => .val (r.ext hw)
  | _, _, _, .res h => .res h
  | _, _, _, .own ho hcl hd hdt r => .own ho hcl hd hdt (RepSL.ext hw r)
theorem RepSL.ext {c : Cx} {V W : Addr → Prop} {s : Shared} (hw : ∀ a, W a → s.heap.get? a = none) : ∀ {d v fp}, RepSL c V s d v fp → RepSL c (fun a => V a ∨ W a) s d v fp
  | _, _, _, .nil => .nil
  | _, _, _, .cons r rs => .cons (RepS.ext hw r) (RepSL.ext hw rs)
end
theorem RepS.weak {c : Cx} {V V' : Addr → Prop} {s : Shared} {sl v fp} (r : RepS c V s sl v fp) (hv : ∀ a, V' a → V a) : RepS c V' s sl v fp := r.calm (Gr.calm (.refl s) V) hv fun _ _ _ e => e
theorem StoR.ext {c : Cx} {env : Env} {V W : Addr → Prop} {s : Shared} {m : Str → Option Value} (hw : ∀ a, W a → s.heap.get? a = none) : ∀ {ρ fps}, StoR c env V s m ρ fps → StoR c env (fun a => V a ∨ W a) s m ρ fps
  | _, _, .nil => .nil
  | _, _, .cons l r rs => .cons l (r.ext hw) (rs.ext hw)
theorem StoR.weak {c : Cx} {env : Env} {V V' : Addr → Prop} {s : Shared} {m : Str → Option Value} (hv : ∀ a, V' a → V a) : ∀ {ρ fps}, StoR c env V s m ρ fps → StoR c env V' s m ρ fps
  | _, _, .nil => .nil
  | _, _, .cons l r rs => .cons l (r.weak hv) (rs.weak hv)

theorem StoR.del {c : Cx} {env : Env} {V : Addr → Prop} {s : Shared} {m : Str → Option Value} (x : String) : ∀ {ρ fps}, StoR c env V s m ρ fps → ∃ fps' rest, StoR c env V s m (delS x ρ) fps' ∧ (rest ++ fps').Perm fps
  | _, _, .nil => ⟨[], [], .nil, .refl _⟩
  | _, _, .cons (x := y) (fp := fp) l r rs => by
    obtain ⟨fps', rest, h1, h2⟩ := rs.del x
    unfold delS
    by_cases hy : y = x
    · rw [if_pos hy]
      exact ⟨fps', fp ++ rest, h1, by rw [List.append_assoc]; exact h2.append_left fp⟩
    · rw [if_neg hy]
      exact ⟨fp ++ fps', rest, .cons l r h1, (by
        rw [← List.append_assoc]
        refine (List.Perm.append_right _ List.perm_append_comm).trans ?_
        rw [List.append_assoc]; exact h2.append_left fp)⟩

theorem delS_ne {x : String} : ∀ {ρ : Sto}, ∀ p ∈ delS x ρ, p.1 ≠ x
  | [], _, hp => by cases hp
  | (y, sl) :: r, p, hp => by
    unfold delS at hp
    split at hp
    · exact delS_ne p hp
    · rcases List.mem_cons.mp hp with rfl | hp
      · assumption
      · exact delS_ne p hp

/-- the store under a change at a place of X that no footprint holds -/
theorem StoR.change {c : Cx} {env : Env} {V : Addr → Prop} {s s' : Shared} {m m' : Str → Option Value} (hc : Calm V s s') : ∀ {ρ fps}, StoR c env V s m ρ fps →
    (∀ a ∈ fps, ∀ o, s.heap.get? a = some o → s'.heap.get? a = some o) →
    (∀ p ∈ ρ, env.kindOf (Str.ofString p.1) = some .local → m' (Str.ofString p.1) = m (Str.ofString p.1)) →
    (∀ p ∈ ρ, ∀ a o w, env.cells.lookup (Str.ofString p.1) = some a → s.heap.get? a = some o → o.data = .cell w → s'.heap.get? a = some o) → StoR c env V s' m' ρ fps
  | _, _, .nil, _, _, _ => .nil
  | _, _, .cons l r rs, h1, h2, h3 => .cons (l.calm (h2 _ (.head _)) (h3 _ (.head _))) (r.calm hc (fun _ q => q) fun a ha => h1 a (List.mem_append_left _ ha))
      (rs.change hc (fun a ha => h1 a (List.mem_append_right _ ha)) (fun p hp => h2 p (.tail _ hp)) fun p hp => h3 p (.tail _ hp))

mutual
theorem RepS.alive {c V s} : ∀ {sl v fp}, RepS c V s sl v fp → ∀ a ∈ fp, ∃ o, s.heap.get? a = some o
  | _, _, _, .val _, a, ha => by cases ha
  | _, _, _, .res (R := R) h, a, ha => R.live _ _ h a ha
  | _, _, _, .own ho _ _ _ r, a, ha => by
    rcases List.mem_cons.mp ha with rfl | ha
    · exact ⟨_, ho⟩
    · exact RepSL.alive r a ha
theorem RepSL.alive {c V s} : ∀ {sl v fp}, RepSL c V s sl v fp → ∀ a ∈ fp, ∃ o, s.heap.get? a = some o
  | _, _, _, .nil, a, ha => by cases ha
  | _, _, _, .cons r rs, a, ha => by
    rcases List.mem_append.mp ha with ha | ha
    · exact RepS.alive r a ha
    · exact RepSL.alive rs a ha
end

/-- a name that may be stored -/
noncomputable def CanStore (sc : Scope) (x : String) : Prop := sc.names.lookup (Str.ofString x) = some .local ∨ sc.names.lookup (Str.ofString x) = some .cell
/-- all cells of the scope are the frame's own; a frame of the kind lsc is the only one on the stack -/
structure OwnT (c : Cx) (A : Around) (env : Env) (sc : Scope) (Cs : List (Str × Addr)) : Prop where
  own : ∀ x, sc.names.lookup x = some .cell → ∃ a, Cs.lookup x = some a
  top : c.lsc sc → A.frames = some [env] ∧ env.frame = some env.locals
noncomputable def Own (sc : Scope) (Cs : List (Str × Addr)) : Prop := ∀ x, sc.names.lookup x = some .cell → ∃ a, Cs.lookup x = some a

theorem mem_lookup {α β : Type} [BEq α] [LawfulBEq α] : ∀ {l : List (α × β)} {x : α} {a : β}, l.lookup x = some a → (x, a) ∈ l
  | (y, b) :: r, x, a, h => by
    rw [List.lookup_cons] at h
    by_cases hy : x = y
    · subst hy; simp only [beq_self_eq_true] at h; cases h; exact .head _
    · have : (x == y) = false := by simpa using hy
      rw [this] at h; exact .tail _ (mem_lookup h)

section
variable {c : Cx} {n : Nat} {sc : Scope} {env : Env} {V0 : Addr → Prop} {h0 : Heap} {Cs : List (Str × Addr)} {X : List Addr} {ρ : Sto} {s s₁ : Shared} {A : Around}

theorem calm_at {a : Addr} {V : Addr → Prop} {s : Shared} {h' : Heap} {tk : Nat} (hs : Heap.SameBut a s.heap h') (hv : V a) (ht : s.toks ≤ tk) : Calm V s { s with heap := h', toks := tk } :=
  ⟨ht, fun b o nb e _ => (hs.2 b fun q => nb (q ▸ hv)).trans e⟩

/-- storing a value in a name -/
theorem Fm.store {x : String} {sl : Slot} {v : Value} {fp : List Addr} (F : Fm c sc env V0 h0 Cs X ρ s) (g : Gr s s₁) (hO : sc.names.lookup (Str.ofString x) = some .cell → ∃ a, Cs.lookup (Str.ofString x) = some a) (hk : CanStore sc x)
    (r : RepS c (Vol V0 (X ++ fp)) s₁ sl v fp) (hn : fp.Nodup) (hf : ∀ a ∈ fp, s.heap.get? a = none) :
    wpAny c.M A (storeName env (Str.ofString x) v) (fun _ s' => ∃ X', Stp X s X' s' ∧ Fm c sc env V0 h0 Cs X' (setS ρ x sl) s') (fun _ _ => False) s₁ := by
  obtain ⟨m, fps, hns, hX, hnd, hlv, hcl, hst⟩ := F.sto
  have hfX : ∀ a ∈ fp, a ∉ X := fun a ha hx => by obtain ⟨o, e⟩ := hlv a hx; rw [hf a ha] at e; cases e
  have hvk : sc.kind = .function := F.kind
  have hke : env.scope.kind = .function := by rw [F.scope]; exact hvk
  -- the store before, apart from the new places
  have hst1 : StoR c env (Vol V0 (X ++ fp)) s₁ m ρ fps := ((hst.ext (W := fun a => a ∈ fp) hf).gr g).weak fun a q => by
    rcases q with q | q
    · exact .inl (.inl q)
    · rcases List.mem_append.mp q with q | q
      · exact .inl (.inr q)
      · exact .inr q
  obtain ⟨fps', rest, hdel, hperm⟩ := hst1.del x
  have hsubX : ∀ a ∈ fps', a ∈ fps := fun a ha => hperm.subset (List.mem_append_right _ ha)
  -- the places behind the store
  have hX' : (env.locals :: (Cs.map (·.2) ++ (fp ++ fps'))).Nodup := by
    have hx1 : (env.locals :: (Cs.map (·.2) ++ fps)).Nodup := hX ▸ hnd
    have hp : (rest ++ (env.locals :: (Cs.map (·.2) ++ fps'))).Perm (env.locals :: (Cs.map (·.2) ++ fps)) := by
      refine List.perm_middle.trans (List.Perm.cons _ ?_)
      rw [← List.append_assoc]
      refine (List.Perm.append_right _ List.perm_append_comm).trans ?_
      rw [List.append_assoc]
      exact hperm.append_left _
    have hx2 := (List.nodup_append.mp (hp.nodup_iff.mpr hx1)).2.1
    have hp2 : (fp ++ (env.locals :: (Cs.map (·.2) ++ fps'))).Perm (env.locals :: (Cs.map (·.2) ++ (fp ++ fps'))) := by
      refine List.perm_middle.trans (List.Perm.cons _ ?_)
      rw [← List.append_assoc, ← List.append_assoc]
      exact List.Perm.append_right _ List.perm_append_comm
    refine hp2.nodup_iff.mp (List.nodup_append.mpr ⟨hn, hx2, fun a ha b hb e => ?_⟩)
    subst e
    refine hfX a ha (hX ▸ ?_)
    rcases List.mem_cons.mp hb with q | q
    · exact q ▸ .head _
    · refine .tail _ ?_
      rcases List.mem_append.mp q with q | q
      · exact List.mem_append_left _ q
      · exact List.mem_append_right _ (hsubX a q)
  have hsub : ∀ a ∈ env.locals :: (Cs.map (·.2) ++ (fp ++ fps')), a ∈ X ∨ a ∈ fp := fun a ha => by
    rcases List.mem_cons.mp ha with q | q
    · exact .inl (hX ▸ q ▸ .head _)
    · rcases List.mem_append.mp q with q | q
      · exact .inl (hX ▸ .tail _ (List.mem_append_left _ q))
      · rcases List.mem_append.mp q with q | q
        · exact .inr q
        · exact .inl (hX ▸ .tail _ (List.mem_append_right _ (hsubX a q)))
  have hvol : ∀ a, Vol V0 (env.locals :: (Cs.map (·.2) ++ (fp ++ fps'))) a → Vol V0 (X ++ fp) a := fun a q => q.imp id fun q => by
    rcases hsub a q with q | q
    · exact List.mem_append_left _ q
    · exact List.mem_append_right _ q
  have hLX : env.locals ∈ X := hX ▸ .head _
  have hnew : ∀ a ∈ env.locals :: (Cs.map (·.2) ++ (fp ++ fps')), h0.get? a = none := fun a ha => by
    rcases hsub a ha with q | q
    · exact F.new a q
    · cases e : h0.get? a with
      | none => rfl
      | some o => have := F.keep a o e; rw [hf a q] at this; cases this
  have hns1 := hns.keeps g.keep
  rcases hk with hk | hk
  · -- a local
    have hkl : env.kindOf (Str.ofString x) = some .local := by show env.scope.names.lookup _ = _; rw [F.scope]; exact hk
    refine wpAny_storeName_local hkl hns1 (fun h' hn' hs' => ?_) (by rw [hke]; rfl)
    have hL0 : ∀ b o, h0.get? b = some o → b ≠ env.locals := fun b o e q => by rw [q, F.new _ hLX] at e; cases e
    have hcm := calm_at (tk := s₁.toks + 1) (V := Vol V0 (X ++ fp)) hs' (.inr (List.mem_append_left _ hLX)) (Nat.le_succ _)
    have hnl : env.locals ∉ fp ++ fps' := fun q => (List.nodup_cons.mp hX').1 (List.mem_append_right _ q)
    refine ⟨_, ⟨fun b o hb e => (hs'.2 b fun q => hb (q ▸ hLX)).trans (g.keep b o e), Nat.le_trans g.tok (Nat.le_succ _), g.gens, g.os, fun b hb => (hsub b hb).imp id (hf b), ?_⟩,
      ⟨F.good, F.scope, F.kind, F.globals, F.builtins, F.base, fun b o e => (hs'.2 b (hL0 b o e)).trans (g.keep b o (F.keep b o e)), Nat.succ_ne_zero _, (fun a q => by
        obtain ⟨⟨o, e⟩, hx⟩ := F.live0 a q
        exact ⟨⟨o, (hs'.2 a fun q' => hx (q' ▸ hLX)).trans (g.keep _ _ e)⟩, fun q' => (hsub a q').elim hx fun q'' => by rw [hf a q''] at e; cases e⟩), F.ccells, hnew, F.cells, F.cinj,
        ⟨_, _, hn', rfl, hX', fun a ha => ?_, fun p hp => ?_, .cons (.loc hkl (if_pos rfl)) ?_ (StoR.weak hvol ?_)⟩⟩⟩
    · intro b hb o e
      by_cases q : b = env.locals
      · obtain ⟨oL, _, _, e', _⟩ := hn'; exact ⟨oL, q ▸ e'⟩
      · exact ⟨o, (hs'.2 b q).trans (g.keep b o e)⟩
    · by_cases q : a = env.locals
      · obtain ⟨oL, _, _, e', _⟩ := hn'; exact ⟨oL, q ▸ e'⟩
      · have : ∃ o, s₁.heap.get? a = some o := by
          rcases hsub a ha with q' | q'
          · obtain ⟨o, e⟩ := hlv a q'; exact ⟨o, g.keep _ _ e⟩
          · exact r.alive a q'
        obtain ⟨o, e⟩ := this
        exact ⟨o, (hs'.2 a q).trans e⟩
    · obtain ⟨v₀, q⟩ := hcl p hp
      exact ⟨v₀, (q.keeps g.keep).sameBut hs' fun q' => (List.nodup_cons.mp hX').1 (List.mem_append_left _ (q' ▸ List.mem_map_of_mem hp))⟩
    · exact r.calm hcm hvol fun a ha o e => (hs'.2 a fun q => hnl (q ▸ List.mem_append_left _ ha)).trans e
    · refine hdel.change hcm (fun a ha o e => (hs'.2 a fun q => hnl (q ▸ List.mem_append_right _ ha)).trans e) (fun p hp _ => if_neg fun q => delS_ne p hp (ofString_inj q)) fun p hp a o w hc e hw => ?_
      refine (hs'.2 a fun q => ?_).trans e
      obtain ⟨oL, es, ep, e', hd, _⟩ := hns1
      rw [q, e'] at e; cases e; rw [hw] at hd; cases hd
  · -- a cell
    have hkl : env.kindOf (Str.ofString x) = some .cell := by show env.scope.names.lookup _ = _; rw [F.scope]; exact hk
    obtain ⟨a₀, ha₀⟩ := hO hk
    have hp₀ := mem_lookup ha₀
    have haC : a₀ ∈ Cs.map (·.2) := List.mem_map_of_mem (f := (·.2)) hp₀
    have hlk := F.cells _ _ ha₀
    obtain ⟨v₀, hcell⟩ := hcl _ hp₀
    have haX : a₀ ∈ X := hX ▸ .tail _ (List.mem_append_left _ haC)
    have haL : env.locals ≠ a₀ := fun q => (List.nodup_cons.mp hX').1 (List.mem_append_left _ (q ▸ haC))
    have hna : a₀ ∉ fp ++ fps' := fun q => (List.nodup_append.mp (List.nodup_cons.mp hX').2).2.2 _ haC _ q rfl
    refine wpAny_storeName_cell hke hkl hlk (hcell.keeps g.keep) fun h' hn' hs' => ?_
    have hL0 : ∀ b o, h0.get? b = some o → b ≠ a₀ := fun b o e q => by rw [q, F.new _ haX] at e; cases e
    have hcm := calm_at (tk := s₁.toks) (V := Vol V0 (X ++ fp)) hs' (.inr (List.mem_append_left _ haX)) (Nat.le_refl _)
    refine ⟨_, ⟨fun b o hb e => (hs'.2 b fun q => hb (q ▸ haX)).trans (g.keep b o e), g.tok, g.gens, g.os, fun b hb => (hsub b hb).imp id (hf b), ?_⟩,
      ⟨F.good, F.scope, F.kind, F.globals, F.builtins, F.base, fun b o e => (hs'.2 b (hL0 b o e)).trans (g.keep b o (F.keep b o e)), (F.gr g).tok, (fun a q => by
        obtain ⟨⟨o, e⟩, hx⟩ := F.live0 a q
        exact ⟨⟨o, (hs'.2 a fun q' => hx (q' ▸ haX)).trans (g.keep _ _ e)⟩, fun q' => (hsub a q').elim hx fun q'' => by rw [hf a q''] at e; cases e⟩), F.ccells, hnew, F.cells, F.cinj,
        ⟨m, _, hns1.sameBut hs' haL, rfl, hX', fun a ha => ?_, fun p hp => ?_, ?_⟩⟩⟩
    · intro b hb o e
      by_cases q : b = a₀
      · obtain ⟨oL, e', _⟩ := hn'; exact ⟨oL, q ▸ e'⟩
      · exact ⟨o, (hs'.2 b q).trans (g.keep b o e)⟩
    · by_cases q : a = a₀
      · obtain ⟨oL, e', _⟩ := hn'; exact ⟨oL, q ▸ e'⟩
      · have : ∃ o, s₁.heap.get? a = some o := by
          rcases hsub a ha with q' | q'
          · obtain ⟨o, e⟩ := hlv a q'; exact ⟨o, g.keep _ _ e⟩
          · exact r.alive a q'
        obtain ⟨o, e⟩ := this
        exact ⟨o, (hs'.2 a q).trans e⟩
    · by_cases q : p.2 = a₀
      · exact ⟨_, q ▸ hn'⟩
      · obtain ⟨v₁, q'⟩ := hcl p hp
        exact ⟨v₁, (q'.keeps g.keep).sameBut hs' q⟩
    · obtain ⟨o', e', hd'⟩ := hn'
      refine .cons (.cell (.inl hkl) hlk e' hd') ?_ (StoR.weak hvol ?_)
      · exact r.calm hcm hvol fun a ha o e => (hs'.2 a fun q => hna (q ▸ List.mem_append_left _ ha)).trans e
      · refine hdel.change hcm (fun a ha o e => (hs'.2 a fun q => hna (q ▸ List.mem_append_right _ ha)).trans e) (fun p hp _ => rfl) fun p hp a o w hc e hw => ?_
        refine (hs'.2 a fun q => ?_).trans e
        exact delS_ne p hp (ofString_inj (F.cinj _ _ _ (q ▸ hc) hlk))

end
end Mine
namespace Mine

noncomputable def plainE : Expr → Bool
  | .Starred .. => false
  | _ => true
theorem starEach_cons {e : Expr} {rest : List Expr} {env : Env} (h : plainE e = true) : starEach (e :: rest) env = (false, eval e env) :: starEach rest env := by
  cases e <;> first | rfl | cases h
/-- an iterator and what it will give -/
inductive ItAt (c : Cx) (V : Addr → Prop) (s : Shared) : Addr → List D → Prop
  | list {it l i o vs n ds} : s.heap.IsListIter it l i → ¬ V l → s.heap.get? l = some o → o.cls = .type "list" → o.data = .seq vs n → RepL c V s ds (vs.toList.drop i) → ItAt c V s it ds
  | tuple {it l i o vs n ds} : s.heap.IsTupleIter it l i → ¬ V l → s.heap.get? l = some o → o.cls = .type "tuple" → o.data = .seq vs n → RepL c V s ds (vs.toList.drop i) → ItAt c V s it ds
  | range {it x left st} : IsRangeIter s.heap it x left st → ItAt c V s it ((List.range left.toNat).map fun k : Nat => D.int (x + k * st))
  | ascii {it x t i} : s.heap.IsStrIter it "str_ascii_iterator" x t i → ItAt c V s it ((x.cps.toList.drop i).map fun k => D.str ⟨#[k]⟩)
  | wide {it x t i} : s.heap.IsStrIter it "str_iterator" x t i → ItAt c V s it ((x.cps.toList.drop i).map fun k => D.str ⟨#[k]⟩)

/-- one look at the iterator -/
structure ItStep (it : Addr) (s s' : Shared) : Prop where
  keep : Heap.ExtBut it s.heap s'.heap
  tok : s.toks ≤ s'.toks
  gens : s'.gens = s.gens
  os : s'.os = s.os

theorem ItAt.fields {c V s it ds} (h : ItAt c V s it ds) : ∃ o vs T, s.heap.get? it = some o ∧ o.data = .fields vs ∧ o.cls = .type T ∧ T ≠ "range" ∧
    ["enumerate", "zip", "dict_itemiterator", "dict_reverseitemiterator", "odict_iterator", "itertools.zip_longest", "itertools.pairwise"].contains T = false := by
  cases h with
  | list h => obtain ⟨o, h1, h2, h3⟩ := h; exact ⟨o, _, _, h1, h3, h2, by decide, by decide⟩
  | tuple h => obtain ⟨o, h1, h2, h3⟩ := h; exact ⟨o, _, _, h1, h3, h2, by decide, by decide⟩
  | range h => exact ⟨_, _, "range_iterator", h, rfl, rfl, by decide, by decide⟩
  | ascii h => obtain ⟨o, h1, h2, h3⟩ := h; exact ⟨o, _, _, h1, h3, h2, by decide, by decide⟩
  | wide h => obtain ⟨o, h1, h2, h3⟩ := h; exact ⟨o, _, _, h1, h3, h2, by decide, by decide⟩

theorem ItStep.calm {c V s it ds s'} (h : ItAt c V s it ds) (t : ItStep it s s') (W : Addr → Prop) : Calm W s s' :=
  ⟨t.tok, fun b o _ e hd => t.keep b o (fun q => by
    obtain ⟨o', vs, T, h1, h2, h3, h4, _⟩ := h.fields
    rw [q, h1] at e; cases e
    rcases hd with ⟨_, _, hd⟩ | ⟨_, _, hd⟩ | hd
    · rw [h2] at hd; cases hd
    · rw [h2] at hd; cases hd
    · rw [h3] at hd; injection hd with hd; exact h4 hd) e⟩

theorem ItAt.next {c : Cx} {V s it} {d : D} {ds : List D} {A : Around} (h : ItAt c V s it (d :: ds)) :
    wpAny c.M A (pyNext (.ref it)) (fun r s' => ∃ v, r = some v ∧ Rep c V s' d v ∧ ItAt c V s' it ds ∧ ItStep it s s') (fun _ _ => False) s := by
  have h' := h
  generalize hL : d :: ds = L at h
  cases h with
  | @list l i o vs n _ hi hv ho hcl hdt r =>
    subst hL
    cases hr : vs.toList.drop i with
    | nil => rw [hr] at r; cases r
    | cons v rest =>
      rw [hr] at r
      cases r with
      | cons r rs =>
        have hi0 : vs[i]? = some v := by
          have : (vs.toList.drop i)[0]? = some v := by rw [hr]; rfl
          simpa using this
        refine wpAny_pyNext_list_item hi ⟨o, ho, hcl, n, hdt⟩ hi0 fun h' hi' hs' => ?_
        have st : ItStep it s { s with heap := h' } := ⟨hs'.extBut, Nat.le_refl _, rfl, rfl⟩
        refine ⟨v, rfl, r.calm (st.calm ‹_› V) fun _ q => q, .list hi' hv ((st.calm ‹_› V).2 _ _ hv ho (.inl ⟨_, _, hdt⟩)) hcl hdt ?_, st⟩
        have : vs.toList.drop (i + 1) = rest := by
          have := congrArg List.tail hr
          simpa using this
        rw [this]
        exact rs.calm (st.calm ‹_› V) fun _ q => q
  | @tuple l i o vs n _ hi hv ho hcl hdt r =>
    subst hL
    cases hr : vs.toList.drop i with
    | nil => rw [hr] at r; cases r
    | cons v rest =>
      rw [hr] at r
      cases r with
      | cons r rs =>
        have hi0 : vs[i]? = some v := by
          have : (vs.toList.drop i)[0]? = some v := by rw [hr]; rfl
          simpa using this
        refine wpAny_pyNext_tuple_item hi ⟨o, ho, hcl, n, hdt⟩ hi0 fun h' hi' hs' => ?_
        have st : ItStep it s { s with heap := h' } := ⟨hs'.extBut, Nat.le_refl _, rfl, rfl⟩
        refine ⟨v, rfl, r.calm (st.calm ‹_› V) fun _ q => q, .tuple hi' hv ((st.calm ‹_› V).2 _ _ hv ho (.inl ⟨_, _, hdt⟩)) hcl hdt ?_, st⟩
        have : vs.toList.drop (i + 1) = rest := by
          have := congrArg List.tail hr
          simpa using this
        rw [this]
        exact rs.calm (st.calm ‹_› V) fun _ q => q
  | @range x left st hi =>
    obtain ⟨k, hk⟩ : ∃ k, left.toNat = k + 1 := by
      cases hk : left.toNat with
      | zero => rw [hk] at hL; simp at hL
      | succ k => exact ⟨k, rfl⟩
    rw [hk, List.range_succ_eq_map] at hL
    simp only [List.map_cons, List.map_map, List.cons.injEq] at hL
    obtain ⟨rfl, rfl⟩ := hL
    refine wpAny_pyNext_range_item hi (by omega) fun h' hi' hs' => ?_
    have stp : ItStep it s { s with heap := h', toks := s.toks + 1 } := ⟨hs'.extBut, Nat.le_succ _, rfl, rfl⟩
    refine ⟨_, rfl, ?_, ?_, stp⟩
    · have e0 : x + ((0 : Nat) : Int) * st = x := by simp
      rw [e0]; exact .int _ _
    · have e : (List.map ((fun k : Nat => D.int (x + ↑k * st)) ∘ Nat.succ) (List.range k)) = (List.range (left - 1).toNat).map fun k : Nat => D.int (x + st + k * st) := by
        rw [show (left - 1).toNat = k by omega]
        refine List.map_congr_left fun j _ => ?_
        simp only [Function.comp]
        congr 1
        rw [Int.natCast_succ, Int.add_mul]; omega
      rw [e]; exact .range hi'
  | @ascii x t i hi =>
    cases hr : x.cps.toList.drop i with
    | nil => rw [hr] at hL; cases hL
    | cons k rest =>
      rw [hr] at hL
      simp only [List.map_cons, List.cons.injEq] at hL
      obtain ⟨rfl, rfl⟩ := hL
      have hi0 : x.cps[i]? = some k := by
        have : (x.cps.toList.drop i)[0]? = some k := by rw [hr]; rfl
        simpa using this
      refine wpAny_pyNext_ascii_item hi hi0 fun h' hi' hs' => ?_
      have : x.cps.toList.drop (i + 1) = rest := by
        have := congrArg List.tail hr
        simpa using this
      exact ⟨_, rfl, .str _ _, this ▸ .ascii hi', ⟨hs'.extBut, Nat.le_succ _, rfl, rfl⟩⟩
  | @wide x t i hi =>
    cases hr : x.cps.toList.drop i with
    | nil => rw [hr] at hL; cases hL
    | cons k rest =>
      rw [hr] at hL
      simp only [List.map_cons, List.cons.injEq] at hL
      obtain ⟨rfl, rfl⟩ := hL
      have hi0 : x.cps[i]? = some k := by
        have : (x.cps.toList.drop i)[0]? = some k := by rw [hr]; rfl
        simpa using this
      refine wpAny_pyNext_wide_item hi hi0 fun h' hi' hs' => ?_
      have : x.cps.toList.drop (i + 1) = rest := by
        have := congrArg List.tail hr
        simpa using this
      exact ⟨_, rfl, .str _ _, this ▸ .wide hi', ⟨hs'.extBut, Nat.le_succ _, rfl, rfl⟩⟩

theorem ItAt.stop {c : Cx} {V s it} {A : Around} (hh : A.handled = none) (h : ItAt c V s it []) :
    wpAny c.M A (pyNext (.ref it)) (fun r s' => r = none ∧ ItStep it s s') (fun _ _ => False) s := by
  generalize hL : ([] : List D) = L at h
  cases h with
  | @list l i o vs n _ hi hv ho hcl hdt r =>
    subst hL
    cases hr : vs.toList.drop i with
    | cons v rest => rw [hr] at r; cases r
    | nil =>
      refine wpAny_pyNext_list_end hh hi ⟨o, ho, hcl, n, hdt⟩ ?_ fun h' hs' => ⟨rfl, hs', Nat.le_refl _, rfl, rfl⟩
      have : (vs.toList.drop i)[0]? = none := by rw [hr]; rfl
      simpa using this
  | @tuple l i o vs n _ hi hv ho hcl hdt r =>
    subst hL
    cases hr : vs.toList.drop i with
    | cons v rest => rw [hr] at r; cases r
    | nil =>
      refine wpAny_pyNext_tuple_end hh hi ⟨o, ho, hcl, n, hdt⟩ ?_ fun h' hs' => ⟨rfl, hs', Nat.le_refl _, rfl, rfl⟩
      have : (vs.toList.drop i)[0]? = none := by rw [hr]; rfl
      simpa using this
  | @range x left st hi =>
    have hz : left.toNat = 0 := by
      have := congrArg List.length hL
      simpa using this.symm
    exact wpAny_pyNext_range_end hh hi (by omega) fun h' hs' => ⟨rfl, hs', Nat.le_refl _, rfl, rfl⟩
  | @ascii x t i hi =>
    have hz : x.cps.toList.drop i = [] := by simpa using hL.symm
    refine wpAny_pyNext_ascii_end hh hi ?_ fun h' hs' => ⟨rfl, hs', Nat.le_refl _, rfl, rfl⟩
    have : (x.cps.toList.drop i)[0]? = none := by rw [hz]; rfl
    simpa using this
  | @wide x t i hi =>
    have hz : x.cps.toList.drop i = [] := by simpa using hL.symm
    refine wpAny_pyNext_wide_end hh hi ?_ fun h' hs' => ⟨rfl, hs', Nat.le_refl _, rfl, rfl⟩
    have : (x.cps.toList.drop i)[0]? = none := by rw [hz]; rfl
    simpa using this

/-- iterating over d gives ds -/
noncomputable def IterR (c : Cx) (d : D) (ds : List D) : Prop :=
  ∀ A V s v, Room c 0 A → St c V s → Rep c V s d v → wpAny c.M A (pyIter v) (fun it s' => Gr s s' ∧ ∃ a, it = .ref a ∧ s.heap.get? a = none ∧ ItAt c V s' a ds) (fun _ _ => False) s

theorem get_size (h : Heap) : h.get? h.objs.size = none := by
  cases e : h.get? h.objs.size with
  | none => rfl
  | some o => exact absurd (Heap.lt_size e) (Nat.lt_irrefl _)

theorem IterR.list {c : Cx} {ds : List D} : IterR c (.list ds) ds := fun A V s v _ _ r => by
  cases r with
  | list na ho hcl hd hdt r =>
    refine wpAny_pyIter_list ⟨_, ho, hcl, _, hdt⟩ ⟨.push _, _, rfl, get_size _, .list ⟨_, Heap.get?_push_size _ rfl, rfl, rfl⟩ na (Heap.get?_push_of_some _ ho) hcl hdt ?_⟩
    rw [List.drop_zero]; exact r.gr (.push _)
theorem IterR.str {c : Cx} {x : Str} : IterR c (.str x) (x.cps.toList.map fun k => .str ⟨#[k]⟩) := fun A V s v _ _ r => by
  cases r with
  | str x t =>
    cases ha : x.cps.all (· < 128) with
    | true =>
      refine wpAny_pyIter_ascii ha ⟨.push _, _, rfl, get_size _, ?_⟩
      have := ItAt.ascii (c := c) (V := V) (s := { s with heap := s.heap.push { cls := .type "str_ascii_iterator", data := .fields #[.str x t, .int 0 0] } }) (x := x) (t := t) (i := 0) ⟨_, Heap.get?_push_size _ rfl, rfl, rfl⟩
      simpa using this
    | false =>
      refine wpAny_pyIter_wide ha ⟨.push _, _, rfl, get_size _, ?_⟩
      have := ItAt.wide (c := c) (V := V) (s := { s with heap := s.heap.push { cls := .type "str_iterator", data := .fields #[.str x t, .int 0 0] } }) (x := x) (t := t) (i := 0) ⟨_, Heap.get?_push_size _ rfl, rfl, rfl⟩
      simpa using this
end Mine
namespace Mine

inductive AF where
  | next | brk | cont
  | ret (d : D)

inductive FlowR (c : Cx) (V : Addr → Prop) (s : Shared) : Flow → AF → Prop
  | next : FlowR c V s .next .next
  | brk : FlowR c V s .brk .brk
  | cont : FlowR c V s .cont .cont
  | ret {v d} : Rep c V s d v → FlowR c V s (.ret v) (.ret d)

noncomputable def SPost (c : Cx) (sc : Scope) (env : Env) (V0 : Addr → Prop) (h0 : Heap) (Cs : List (Str × Addr)) (X : List Addr) (s : Shared) (P : AF → Sto → Prop) : Flow → Shared → Prop :=
  fun f s' => ∃ X' ρ' af, Stp X s X' s' ∧ Fm c sc env V0 h0 Cs X' ρ' s' ∧ FlowR c (Vol V0 X') s' f af ∧ P af ρ'

structure Sx (c : Cx) (n : Nat) (sc : Scope) (ρ : Sto) (st : Stmt) (P : AF → Sto → Prop) : Prop where
  run : ∀ A env V0 h0 Cs X s, Room c n A → OwnT c A env sc Cs → Fm c sc env V0 h0 Cs X ρ s → wpAny c.M A (exec st env) (SPost c sc env V0 h0 Cs X s P) (fun _ _ => False) s
structure Tr (c : Cx) (n : Nat) (sc : Scope) (ρ : Sto) (ss : List Stmt) (P : AF → Sto → Prop) : Prop where
  run : ∀ A env V0 h0 Cs X s, Room c n A → OwnT c A env sc Cs → Fm c sc env V0 h0 Cs X ρ s → wpAny c.M A (execs ss env) (SPost c sc env V0 h0 Cs X s P) (fun _ _ => False) s

/-- the statement goes on, with the store ρ₂ -/
noncomputable abbrev Sn (c : Cx) (n : Nat) (sc : Scope) (ρ : Sto) (st : Stmt) (ρ₂ : Sto) : Prop := Sx c n sc ρ st fun af ρ' => af = .next ∧ ρ' = ρ₂

theorem SPost.mono {c sc env V0 h0 Cs X s P P' f s'} (h : SPost c sc env V0 h0 Cs X s P f s') (hp : ∀ af ρ', P af ρ' → P' af ρ') : SPost c sc env V0 h0 Cs X s P' f s' :=
  let ⟨X', ρ', af, a, b, d, e⟩ := h; ⟨X', ρ', af, a, b, d, hp _ _ e⟩
theorem SPost.stp {c sc env V0 h0 Cs X X₁ s s₁ P f s'} (h : SPost c sc env V0 h0 Cs X₁ s₁ P f s') (g : Stp X s X₁ s₁) : SPost c sc env V0 h0 Cs X s P f s' :=
  let ⟨X', ρ', af, a, b, d, e⟩ := h; ⟨X', ρ', af, g.trans a, b, d, e⟩

section
variable {c : Cx} {n : Nat} {sc : Scope} {ρ : Sto} {P P' : AF → Sto → Prop}

theorem Sx.mono {st : Stmt} (h : Sx c n sc ρ st P) (hp : ∀ af ρ', P af ρ' → P' af ρ') : Sx c n sc ρ st P' := .mk fun A env V0 h0 Cs X s hA hO F =>
  wpAny_mono (h.run A env V0 h0 Cs X s hA hO F) (fun _ _ q => q.mono hp) fun _ _ q => q
theorem Tr.mono {ss : List Stmt} (h : Tr c n sc ρ ss P) (hp : ∀ af ρ', P af ρ' → P' af ρ') : Tr c n sc ρ ss P' := .mk fun A env V0 h0 Cs X s hA hO F =>
  wpAny_mono (h.run A env V0 h0 Cs X s hA hO F) (fun _ _ q => q.mono hp) fun _ _ q => q

theorem Tr.nil (h : P .next ρ) : Tr c n sc ρ [] P := .mk fun A env V0 h0 Cs X s _ _ F =>
  wpAny_execs_nil ⟨X, ρ, .next, .refl X s, F, .next, h⟩
theorem Tr.cons {st : Stmt} {rest : List Stmt} {P₁ : AF → Sto → Prop} (h : Sx c n sc ρ st P₁) (hn : ∀ ρ', P₁ .next ρ' → Tr c n sc ρ' rest P) (ho : ∀ af ρ', af ≠ .next → P₁ af ρ' → P af ρ') :
    Tr c n sc ρ (st :: rest) P := .mk fun A env V0 h0 Cs X s hA hO F => wpAny_execs_cons (wpAny_mono (h.run A env V0 h0 Cs X s hA hO F) (fun f s' q => by
    obtain ⟨X', ρ', af, a, b, d, e⟩ := q
    cases d with
    | next => exact wpAny_mono ((hn _ e).run A env V0 h0 Cs X' s' hA hO b) (fun _ _ q => q.stp a) fun _ _ q => q
    | brk => exact ⟨X', ρ', _, a, b, .brk, ho _ _ (by intro q; cases q) e⟩
    | cont => exact ⟨X', ρ', _, a, b, .cont, ho _ _ (by intro q; cases q) e⟩
    | ret r => exact ⟨X', ρ', _, a, b, .ret r, ho _ _ (by intro q; cases q) e⟩) fun _ _ q => q)
theorem Tr.step {st : Stmt} {rest : List Stmt} {ρ₂ : Sto} (h : Sn c n sc ρ st ρ₂) (hr : Tr c n sc ρ₂ rest P) : Tr c n sc ρ (st :: rest) P :=
  Tr.cons h (fun _ q => q.2 ▸ hr) fun _ _ h q => absurd q.1 h
theorem Tr.last {st : Stmt} (h : Sx c n sc ρ st P) : Tr c n sc ρ [st] P := Tr.cons h (fun _ q => .nil q) fun _ _ _ q => q

/-- what a name may hold -/
theorem RepS.ofRep {V : Addr → Prop} {X : List Addr} {s : Shared} {d : D} {v : Value} (r : Rep c (VK true V X) s d v) : RepS c (Vol V (X ++ [])) s (.val d) v [] :=
  .val (r.weak fun a q => ⟨rfl, by simpa using q⟩)

theorem Sx.assign {x : String} {e : Expr} {p pos : Pos} {d : D} (h : Ev c n sc true ρ e d) (hk : CanStore sc x)
    (hs : ∀ env : Env, env.scope = sc → swapsWith e (some (.Name (Str.ofString x) p)) pos.line env = pure false := by intro _ _; rfl) : Sn c n sc ρ (.Assign [.Name (Str.ofString x) p] e pos) (setS ρ x (.val d)) :=
  .mk fun A env V0 h0 Cs X s hA hO F => wpAny_Assign_Name (wpAny_mono (h.run A env V0 h0 Cs X s hA F) (fun v s₁ q =>
    wpAny_mono (F.store q.1 (hO.own _) hk (RepS.ofRep q.2) .nil fun _ ha => nomatch ha) (fun _ s' q => let ⟨X', a, b⟩ := q; ⟨X', _, .next, a, b, .next, rfl, rfl⟩) fun _ _ q => q) fun _ _ q => q) (hs env F.scope)

/-- e has a fresh value that may be owned -/
structure EvS (c : Cx) (n : Nat) (sc : Scope) (ρ : Sto) (e : Expr) (sl : Slot) : Prop where
  run : ∀ A env V0 h0 Cs X s, Room c n A → Fm c sc env V0 h0 Cs X ρ s →
    wpAny c.M A (eval e env) (fun v s' => Gr s s' ∧ ∃ fp, RepS c (Vol V0 (X ++ fp)) s' sl v fp ∧ fp.Nodup ∧ ∀ a ∈ fp, s.heap.get? a = none) (fun _ _ => False) s
theorem Sx.assignS {x : String} {e : Expr} {p pos : Pos} {sl : Slot} (h : EvS c n sc ρ e sl) (hk : CanStore sc x)
    (hs : ∀ env : Env, env.scope = sc → swapsWith e (some (.Name (Str.ofString x) p)) pos.line env = pure false := by intro _ _; rfl) : Sn c n sc ρ (.Assign [.Name (Str.ofString x) p] e pos) (setS ρ x sl) :=
  .mk fun A env V0 h0 Cs X s hA hO F => wpAny_Assign_Name (wpAny_mono (h.run A env V0 h0 Cs X s hA F) (fun v s₁ q =>
    let ⟨g, fp, r, hn, hf⟩ := q
    wpAny_mono (F.store g (hO.own _) hk r hn hf) (fun _ s' q => let ⟨X', a, b⟩ := q; ⟨X', _, .next, a, b, .next, rfl, rfl⟩) fun _ _ q => q) fun _ _ q => q) (hs env F.scope)

theorem Sx.aug {x : String} {e : Expr} {op : Operator} {p pos : Pos} {d₁ d₂ d : D} (hx : ρ.lookup x = some (.val d₁)) (h : Ev c n sc true ρ e d₂) (hop : InpR c op d₁ d₂ d) (hk : CanStore sc x) :
    Sn c n sc ρ (.AugAssign (.Name (Str.ofString x) p) op e pos) (setS ρ x (.val d)) := .mk fun A env V0 h0 Cs X s hA hO F => by
  refine wpAny_AugAssign_Name ?_
  obtain ⟨m, fps, hn, _, _, _, _, hs⟩ := F.sto
  obtain ⟨v, fp, l, r, _⟩ := hs.get hx
  refine l.load (by rw [F.scope]; exact F.kind) hn ?_
  cases r with
  | val r =>
    refine wpAny_mono (h.run A env V0 h0 Cs X s hA F) (fun v₂ s₂ q => ?_) fun _ _ q => q
    refine wpAny_mono (hop A _ s₂ v v₂ hA.zero ((F.st true).gr q.1) ((r.weak fun _ q => q.2).gr q.1) q.2) (fun v₃ s₃ q₃ => ?_) fun _ _ q => q
    exact wpAny_mono (F.store (q.1.trans q₃.1) (hO.own _) hk (RepS.ofRep q₃.2) .nil fun _ ha => nomatch ha) (fun _ s' q => let ⟨X', a, b⟩ := q; ⟨X', _, .next, a, b, .next, rfl, rfl⟩) fun _ _ q => q

theorem Sx.ite {t : Expr} {body orelse : List Stmt} {pos : Pos} {b : Bool} (h : Tst c n sc ρ t b) (ht : b = true → Tr c n sc ρ body P) (hf : b = false → Tr c n sc ρ orelse P) : Sx c n sc ρ (.If t body orelse pos) P :=
  .mk fun A env V0 h0 Cs X s hA hO F => wpAny_If (wpAny_mono (h.run A env V0 h0 Cs X s hA F) (fun r s' q => by
    obtain ⟨g, rfl⟩ := q
    cases r with
    | true => exact wpAny_mono ((ht rfl).run A env V0 h0 Cs X s' hA hO (F.gr g)) (fun _ _ q => q.stp (.of_gr g)) fun _ _ q => q
    | false => exact wpAny_mono ((hf rfl).run A env V0 h0 Cs X s' hA hO (F.gr g)) (fun _ _ q => q.stp (.of_gr g)) fun _ _ q => q) fun _ _ q => q)

theorem Sx.ret {e : Expr} {pos : Pos} {d : D} (h : Ev c n sc true ρ e d) (hp : P (.ret d) ρ) : Sx c n sc ρ (.Return (some e) pos) P := .mk fun A env V0 h0 Cs X s hA hO F =>
  wpAny_Return_some (wpAny_mono (h.run A env V0 h0 Cs X s hA F) (fun v s' q => ⟨X, ρ, .ret d, .of_gr q.1, F.gr q.1, .ret (q.2.weak fun _ q => ⟨rfl, q⟩), hp⟩) fun _ _ q => q)
theorem Sx.try {body : List Stmt} {hd : ExceptHandler} {hs : List ExceptHandler} {pos : Pos} (h : Tr c n sc ρ body P) : Sx c n sc ρ (.Try body (hd :: hs) [] [] pos) P := .mk fun A env V0 h0 Cs X s hA hO F => by
  refine wpAny_Try_except (wpAny_mono (h.run A env V0 h0 Cs X s hA hO F) (fun f s' q => ?_) fun _ _ q => q.elim)
  cases f with
  | next => exact wpAny_execs_nil q
  | brk => exact q
  | cont => exact q
  | ret v => exact q

/-- storing into a target -/
structure TgtG (w : Bool) (c : Cx) (sc : Scope) (tgt : Expr) (d : D) (ρ ρ' : Sto) : Prop where
  run : ∀ A env V0 h0 Cs X s v, Room c 0 A → (w = true → Own sc Cs) → Fm c sc env V0 h0 Cs X ρ s → Rep c (Vol V0 X) s d v →
    wpAny c.M A (assign tgt env v) (fun _ s' => ∃ X', Stp X s X' s' ∧ Fm c sc env V0 h0 Cs X' ρ' s') (fun _ _ => False) s
noncomputable abbrev TgtR (c : Cx) (sc : Scope) (tgt : Expr) (d : D) (ρ ρ' : Sto) : Prop := TgtG true c sc tgt d ρ ρ'
theorem TgtG.name {w : Bool} {x : String} {p : Pos} {d : D} (hk : sc.names.lookup (Str.ofString x) = some .local ∨ (w = true ∧ sc.names.lookup (Str.ofString x) = some .cell)) : TgtG w c sc (.Name (Str.ofString x) p) d ρ (setS ρ x (.val d)) := .mk fun A env V0 h0 Cs X s v hA hO F r =>
  wpAny_assign_Name (F.store (.refl s) (fun q => hk.elim (fun q' => by rw [q] at q'; cases q') fun q' => hO q'.1 _ q) (hk.imp id And.right) (RepS.ofRep (r.weak fun _ q => q.2)) .nil fun _ ha => nomatch ha)

theorem RepL.stp {V0 : Addr → Prop} {X X' : List Addr} {s s' : Shared} {d : List D} {v : List Value} (r : RepL c (Vol V0 X) s d v) (g : Stp X s X' s') : RepL c (Vol V0 X') s' d v := by
  have r2 : RepL c (fun a => Vol V0 X a ∨ (a ∈ X' ∧ s.heap.get? a = none)) s d v := r.ext fun a q => q.2
  refine r2.calm ⟨g.tok, fun b o nb e _ => g.keep b o (fun q => nb (.inl (.inr q))) e⟩ fun a q => ?_
  rcases q with q | q
  · exact .inl (.inl q)
  · rcases g.new a q with q' | q'
    · exact .inl (.inr q')
    · exact .inr ⟨q, q'⟩

end

section
variable {c : Cx} {n : Nat} {sc : Scope} {ρ : Sto} {P P' : AF → Sto → Prop}

theorem Gr.ext {s : Shared} {h' : Heap} (h : Heap.ExtBut s.heap.objs.size s.heap h') : Gr s { s with heap := h' } :=
  ⟨fun b o e => h b o (Nat.ne_of_lt (Heap.lt_size e)) e, Nat.le_refl _, rfl, rfl⟩

/-- the frame when an iterator is looked at -/
theorem Fm.it {env V0 h0 Cs X s it ds s' V} (F : Fm c sc env V0 h0 Cs X ρ s) (hi : ItAt c V s it ds) (hX : it ∉ X) (hn : h0.get? it = none) (hv : ¬ V0 it) (t : ItStep it s s') : Fm c sc env V0 h0 Cs X ρ s' := by
  have hcm := fun W => t.calm hi W
  obtain ⟨oi, fs, T, hi1, hi2, _, _, _⟩ := hi.fields
  have hne : ∀ b ∈ X, b ≠ it := fun b hb q => hX (q ▸ hb)
  obtain ⟨m, fps, h1, h2, h3, h4, h6, h5⟩ := F.sto
  have hLX : env.locals ∈ X := h2 ▸ .head _
  exact ⟨F.good, F.scope, F.kind, F.globals, F.builtins, F.base, fun b o e => t.keep b o (fun q => by rw [q, hn] at e; cases e) (F.keep b o e), fun e => F.tok (Nat.le_zero.mp (e ▸ t.tok)), (fun a q => ⟨let ⟨o, e⟩ := (F.live0 a q).1; ⟨o, t.keep a o (fun q' => hv (q' ▸ q)) e⟩, (F.live0 a q).2⟩), F.ccells, F.new, F.cells, F.cinj,
    m, fps, h1.extBut t.keep (hne _ hLX), h2, h3, fun a ha => let ⟨o, e⟩ := h4 a ha; ⟨o, t.keep a o (hne a ha) e⟩,
    fun p hp => let ⟨v, o, e, d⟩ := h6 p hp; ⟨v, o, t.keep _ o (fun q => by rw [q, hi1] at e; cases e; rw [d] at hi2; cases hi2) e, d⟩,
    h5.change (hcm _) (fun a ha o e => t.keep a o (hne a (h2 ▸ .tail _ (List.mem_append_right _ ha))) e) (fun _ _ _ => rfl)
      fun p _ a o w _ e hw => t.keep a o (fun q => by rw [q, hi1] at e; cases e; rw [hw] at hi2; cases hi2) e⟩

theorem ItAt.stp {V0 : Addr → Prop} {X X' : List Addr} {s s' : Shared} {it : Addr} {ds : List D} (h : ItAt c (Vol V0 X) s it ds) (hX : it ∉ X) (g : Stp X s X' s') : ItAt c (Vol V0 X') s' it ds := by
  have hk : ∀ o, s.heap.get? it = some o → s'.heap.get? it = some o := fun o e => g.keep it o hX e
  have hv : ∀ l o, ¬ Vol V0 X l → s.heap.get? l = some o → ¬ Vol V0 X' l := fun l o nl e q => by
    rcases q with q | q
    · exact nl (.inl q)
    · rcases g.new l q with q' | q'
      · exact nl (.inr q')
      · rw [q'] at e; cases e
  cases h with
  | list hi nl ho hc hd r => obtain ⟨o, h1, h2⟩ := hi; exact .list ⟨o, hk o h1, h2⟩ (hv _ _ nl ho) (g.keep _ _ (fun q => nl (.inr q)) ho) hc hd (r.stp g)
  | tuple hi nl ho hc hd r => obtain ⟨o, h1, h2⟩ := hi; exact .tuple ⟨o, hk o h1, h2⟩ (hv _ _ nl ho) (g.keep _ _ (fun q => nl (.inr q)) ho) hc hd (r.stp g)
  | range hi => exact .range (hk _ hi)
  | ascii hi => obtain ⟨o, h1, h2⟩ := hi; exact .ascii ⟨o, hk o h1, h2⟩
  | wide hi => obtain ⟨o, h1, h2⟩ := hi; exact .wide ⟨o, hk o h1, h2⟩

theorem lotg {A : Around} {E : Value → Shared → Prop} {V s it ds tgt v} (h : ItAt c V s it ds) {Q : Unit → Shared → Prop} (hq : Q () s) : wpAny c.M A (letOwnedTupleGo tgt (.ref it) v) Q E s := by
  obtain ⟨o, vs, T, h1, h2, h3, _, h5⟩ := h.fields
  have key : ∀ a : Addr, wpAny c.M A (do
      let o ← load it
      match o.cls, o.data with
      | .type n, .fields vs =>
        if ["enumerate", "zip", "dict_itemiterator", "dict_reverseitemiterator", "odict_iterator", "itertools.zip_longest", "itertools.pairwise"].contains n && vs[0]? == some (rawInt a) then
          rule "for.unpacks-the-owned-tuple"
          updateField it 0 .none
      | _, _ => pure ()) Q E s := fun a => by
    refine wpAny_bind (wpAny_load h1 ?_)
    rw [h3, h2]
    dsimp only
    rw [h5]
    exact wpAny_pure hq
  unfold letOwnedTupleGo
  split
  · cases v <;> first | exact key _ | exact wpAny_pure hq
  · cases v <;> first | exact key _ | exact wpAny_pure hq
  · exact wpAny_pure hq

end
end Mine
namespace Mine

noncomputable abbrev NoE : Value → Shared → Prop := fun _ _ => False

theorem code_for {c : Cx} {A : Around} {s : Shared} {R : Result → Shared → Prop} {target : Expr} {it : Value} {body orelse : List Stmt} {env : Env} (I : Nat → Shared → Prop)
    (turn : ∀ n s, I n s → wpAny c.M A (pyNext it) (fun r s₁ => match r with
      | none => wpAny c.M A (execs orelse env) (fun f s₃ => R (.ok f) s₃) NoE s₁
      | some v => wpAny c.M A (letOwnedTupleGo target it v) (fun _ s₁' => wpAny c.M A (assign target env v) (fun _ s₂ => wpAny c.M A (execs body env) (fun f s₃ => match f with
          | .next | .cont => ∃ m, m < n ∧ I m s₃
          | .brk => R (.ok .next) s₃
          | .ret v => R (.ok (.ret v)) s₃) NoE s₂) NoE s₁') NoE s₁) NoE s)
    (n : Nat) (h : I n s) : codeAny c.M A (.forLoop target it body orelse env) R s := by
  refine codeAny_loop' rfl I (fun n s hI => ?_) n h
  show wpAny _ _ ((forTurn target it body orelse env).onRaise (fun x => do noteFrame x env; theTreesLotGoes x)) _ _ s
  refine wpAny_noted ?_
  simp only [forTurn]
  refine wpAny_bind (wpAny_standAt (wpAny_bind (wpAny_onRaise (wpAny_mono (turn n s hI) (fun r s₁ h₁ => ?_) fun _ _ h' => h'.elim))))
  cases r with
  | none => exact wpAny_pure (.inr ⟨rfl, codeAny_block (wpAny_mono h₁ (fun _ _ q => q) fun _ _ q => q.elim)⟩)
  | some v =>
    refine wpAny_bind (wpAny_mono h₁ (fun _ s₁' h₁' => ?_) fun _ _ q => q.elim)
    refine wpAny_bind (wpAny_mono h₁' (fun _ s₂ h₂ => wpAny_bind (wpAny_mono h₂ (fun f s₃ h₃ => ?_) fun _ _ h' => h'.elim)) fun _ _ h' => h'.elim)
    cases f with
    | next => exact wpAny_pure (.inl ⟨rfl, h₃⟩)
    | cont => exact wpAny_pure (.inl ⟨rfl, h₃⟩)
    | brk => exact wpAny_pure h₃
    | ret v => exact wpAny_pure h₃

section
variable {c : Cx} {n : Nat} {sc : Scope} {ρ : Sto} {P P' : AF → Sto → Prop}

theorem Stp.it {X X' : List Addr} {s s' s₂ : Shared} {it : Addr} (a : Stp X s X' s') (hn : s.heap.get? it = none) (t : ItStep it s' s₂) : Stp X s X' s₂ :=
  have ne : ∀ b o, s.heap.get? b = some o → b ≠ it := fun b o e q => by rw [q, hn] at e; cases e
  ⟨fun b o hb e => t.keep b o (ne b o e) (a.keep b o hb e), Nat.le_trans a.tok t.tok, t.gens.trans a.gens, t.os.trans a.os, a.new,
   fun b hb o e => let ⟨o', e'⟩ := a.live b hb o e; ⟨o', t.keep b o' (ne b o e) e'⟩⟩

/-- what a turn must come to -/
noncomputable def Turn (I : Sto → Prop) (P : AF → Sto → Prop) : AF → Sto → Prop
  | .next, ρ => I ρ
  | .cont, ρ => I ρ
  | .brk, ρ => P .next ρ
  | .ret d, ρ => P (.ret d) ρ

theorem Sx.for {tgt e : Expr} {body : List Stmt} {pos : Pos} {d₀ : D} {ds : List D} (I : List D → Sto → Prop) (he : Ev c n sc true ρ e d₀) (hit : IterR c d₀ ds) (hI : I [] ρ)
    (turn : ∀ done d rest ρ', ds = done ++ d :: rest → I done ρ' → ∃ ρ₁, TgtR c sc tgt d ρ' ρ₁ ∧ Tr c n sc ρ₁ body (Turn (I (done ++ [d])) P))
    (fin : ∀ ρ', I ds ρ' → P .next ρ') (hs : ∀ (env : Env) x, foldedSetIterable e env x = pure x := by intro _ _; rfl) (hn : c.hn := by assumption) : Sx c n sc ρ (.For tgt e body [] pos) P := .mk fun A env V0 h0 Cs X s hA hO F => by
  refine wpAny_For (wpAny_mono (he.run A env V0 h0 Cs X s hA F) (fun v₀ s₀ q₀ => ?_) fun _ _ q => q) (hs env)
  refine wpAny_mono (hit A _ s₀ v₀ hA.zero ((F.st true).gr q₀.1) q₀.2) (fun itv s₁ q₁ => ?_) fun _ _ q => q
  obtain ⟨g₁, it, rfl, hnew, hi⟩ := q₁
  have hnX : ∀ a ∈ X, a ≠ it := fun a ha q => by
    obtain ⟨_, _, _, _, _, h4, _, _⟩ := (F.gr q₀.1).sto
    obtain ⟨o, e⟩ := h4 a ha
    rw [q, hnew] at e; cases e
  have hn0 : h0.get? it = none := by
    cases e : h0.get? it with
    | none => rfl
    | some o => have := (F.gr q₀.1).keep _ _ e; rw [hnew] at this; cases this
  have hv0 : ¬ V0 it := fun q => by
    obtain ⟨⟨o, e⟩, _⟩ := (F.gr q₀.1).live0 it q
    rw [hnew] at e; cases e
  have hns : s.heap.get? it = none := by
    cases e : s.heap.get? it with
    | none => rfl
    | some o => have := q₀.1.keep _ _ e; rw [hnew] at this; cases this
  refine codeAny_mono (R := fun r s' => match r with | .ok f => SPost c sc env V0 h0 Cs X s P f s' | .error _ => False) ?_ (fun r s' q => by cases r with | ok f => exact q | error e => exact q.elim)
  refine code_for (fun k s' => ∃ done rest X' ρ', ds = done ++ rest ∧ k = rest.length ∧ I done ρ' ∧ Stp X s X' s' ∧ Fm c sc env V0 h0 Cs X' ρ' s' ∧ ItAt c (Vol V0 X') s' it rest ∧ it ∉ X') ?_ ds.length ?_
  · rintro k s' ⟨done, rest, X', ρ', rfl, rfl, hI', hst, F', hi', hX'⟩
    cases rest with
    | nil =>
      refine wpAny_mono (ItAt.stop (hA.handled hn) hi') (fun r s₂ q => ?_) fun _ _ q => q
      obtain ⟨rfl, t⟩ := q
      exact wpAny_execs_nil ⟨X', ρ', .next, hst.it hns t, F'.it hi' hX' hn0 hv0 t, .next, fin _ (by simpa using hI')⟩
    | cons d rest =>
      refine wpAny_mono (ItAt.next hi') (fun r s₂ q => ?_) fun _ _ q => q
      obtain ⟨v, rfl, rv, hi₂, t⟩ := q
      have F₂ := F'.it hi' hX' hn0 hv0 t
      obtain ⟨ρ₁, htg, hbody⟩ := turn done d rest ρ' rfl hI'
      refine lotg hi₂ (wpAny_mono (htg.run A env V0 h0 Cs X' s₂ v hA.zero (fun _ => hO.own) F₂ rv) (fun _ s₃ q => ?_) fun _ _ q => q)
      obtain ⟨X₃, g₃, F₃⟩ := q
      have alive : ∃ o, s₂.heap.get? it = some o := let ⟨o, _, _, e, _⟩ := hi₂.fields; ⟨o, e⟩
      have hX₃ : it ∉ X₃ := fun q => (g₃.new it q).elim hX' fun q => by obtain ⟨o, e⟩ := alive; rw [q] at e; cases e
      have hi₃ := hi₂.stp hX' g₃
      refine wpAny_mono (hbody.run A env V0 h0 Cs X₃ s₃ hA hO F₃) (fun f s₄ q => ?_) fun _ _ q => q
      obtain ⟨X₄, ρ₄, af, g₄, F₄, hf, hp⟩ := q
      have hX₄ : it ∉ X₄ := fun q => (g₄.new it q).elim hX₃ fun q => by obtain ⟨o, _, _, e, _⟩ := hi₃.fields; rw [q] at e; cases e
      have hall := ((hst.it hns t).trans g₃).trans g₄
      cases hf with
      | next => exact ⟨_, Nat.lt_succ_self _, done ++ [d], rest, X₄, ρ₄, by simp, rfl, hp, hall, F₄, hi₃.stp hX₃ g₄, hX₄⟩
      | cont => exact ⟨_, Nat.lt_succ_self _, done ++ [d], rest, X₄, ρ₄, by simp, rfl, hp, hall, F₄, hi₃.stp hX₃ g₄, hX₄⟩
      | brk => exact ⟨X₄, ρ₄, .next, hall, F₄, .next, hp⟩
      | ret r => exact ⟨X₄, ρ₄, _, hall, F₄, .ret r, hp⟩
  · have gg := q₀.1.trans g₁
    refine ⟨[], ds, X, ρ, rfl, rfl, hI, .of_gr gg, F.gr gg, ?_, fun q => hnX _ q rfl⟩
    have : VK true V0 X = Vol V0 X := by funext a; simp [VK]
    rw [this] at hi; exact hi

end
end Mine
namespace Mine

section
variable {c : Cx} {n : Nat} {sc : Scope} {ρ ρ' : Sto} {P P' : AF → Sto → Prop}

/-- one store may be taken for another -/
noncomputable def Ent (c : Cx) (sc : Scope) (ρ ρ' : Sto) : Prop := ∀ env V0 h0 Cs X s, Fm c sc env V0 h0 Cs X ρ s → ∃ X', (∀ a ∈ X', a ∈ X) ∧ Fm c sc env V0 h0 Cs X' ρ' s
theorem Ent.refl (ρ : Sto) : Ent c sc ρ ρ := fun _ _ _ _ X _ F => ⟨X, fun _ h => h, F⟩
theorem Tr.ent {ss : List Stmt} (e : Ent c sc ρ ρ') (h : Tr c n sc ρ' ss P) : Tr c n sc ρ ss P := .mk fun A env V0 h0 Cs X s hA hO F =>
  let ⟨X', h1, F'⟩ := e env V0 h0 Cs X s F
  wpAny_mono (h.run A env V0 h0 Cs X' s hA hO F') (fun f s' q => let ⟨X₂, ρ₂, af, a, b, d, p⟩ := q; ⟨X₂, ρ₂, af, a.sub h1, b, d, p⟩) fun _ _ q => q
/-- taking an entry out -/
theorem StoR.take {env : Env} {V : Addr → Prop} {s : Shared} {m : Str → Option Value} {x : String} {sl : Slot} : ∀ {ρ fps}, StoR c env V s m ρ fps → ρ.lookup x = some sl →
    ∃ v fp fps' rest, Loc env s m x v ∧ RepS c V s sl v fp ∧ StoR c env V s m (delS x ρ) fps' ∧ (rest ++ (fp ++ fps')).Perm fps
  | _, _, .nil, e => by cases e
  | _, _, .cons (x := y) (v := v) (fp := fp) l r rs, e => by
    rw [List.lookup_cons] at e
    unfold delS
    by_cases hy : x = y
    · subst hy
      simp only [beq_self_eq_true] at e
      cases e
      rw [if_pos rfl]
      obtain ⟨fps', rest, h1, h2⟩ := rs.del x
      refine ⟨v, fp, fps', rest, l, r, h1, ?_⟩
      rw [← List.append_assoc]
      refine (List.Perm.append_right _ List.perm_append_comm).trans ?_
      rw [List.append_assoc]; exact h2.append_left fp
    · have : (x == y) = false := by simpa using hy
      rw [this] at e
      rw [if_neg fun q => hy q.symm]
      obtain ⟨v', fp', fps', rest, h1, h2, h3, h4⟩ := rs.take e
      refine ⟨v', fp', fp ++ fps', rest, h1, h2, .cons l r h3, ?_⟩
      have e1 : (rest ++ (fp' ++ (fp ++ fps'))).Perm (fp ++ (rest ++ (fp' ++ fps'))) := by
        refine ((List.perm_append_comm_assoc fp' fp fps').append_left rest).trans ?_
        exact List.perm_append_comm_assoc rest fp (fp' ++ fps')
      exact e1.trans (h4.append_left fp)

theorem delS_lookup {x y : String} (h : y ≠ x) : ∀ (ρ : Sto), (delS x ρ).lookup y = ρ.lookup y
  | [] => rfl
  | (z, sl) :: r => by
    unfold delS
    by_cases hz : z = x
    · rw [if_pos hz, delS_lookup h r, List.lookup_cons]
      have : (y == z) = false := by simpa using fun q : y = z => h (q.trans hz)
      rw [this]
    · rw [if_neg hz, List.lookup_cons, List.lookup_cons, delS_lookup h r]

theorem Fm.mk' {env V0 h0 Cs X s} (F : Fm c sc env V0 h0 Cs X ρ s) {X' : List Addr} {m : Str → Option Value} {fps : List Addr} (hns : s.heap.Ns env.locals m) (hX : X' = env.locals :: (Cs.map (·.2) ++ fps)) (hn : X'.Nodup)
    (hs : ∀ a ∈ X', a ∈ X) (r : StoR c env (Vol V0 X') s m ρ' fps) : Fm c sc env V0 h0 Cs X' ρ' s :=
  ⟨F.good, F.scope, F.kind, F.globals, F.builtins, F.base, F.keep, F.tok, fun a q => ⟨(F.live0 a q).1, fun hx => (F.live0 a q).2 (hs a hx)⟩, F.ccells, fun a ha => F.new a (hs a ha), F.cells, F.cinj,
   let ⟨m₀, fps₀, h1, h2, h3, h4, h6, h5⟩ := F.sto
   ⟨m, fps, hns, hX, hn, fun a ha => h4 a (hs a ha), h6, r⟩⟩

inductive SubS : Sto → Sto → Prop
  | nil {ρ₁ : Sto} : SubS [] ρ₁
  | cons {x : String} {sl : Slot} {r ρ₁ : Sto} : ρ₁.lookup x = some sl → SubS r (delS x ρ₁) → SubS ((x, sl) :: r) ρ₁

theorem StoR.sub {env : Env} {V : Addr → Prop} {s : Shared} {m : Str → Option Value} {ρ' : Sto} {ρ : Sto} (h : SubS ρ' ρ) : ∀ {fps}, StoR c env V s m ρ fps →
    ∃ fps' rest, StoR c env V s m ρ' fps' ∧ (rest ++ fps').Perm fps := by
  induction h with
  | nil => intro fps _; exact ⟨[], fps, .nil, by simp⟩
  | cons hl _ ih =>
    intro fps r
    obtain ⟨v, fp, fps', rest, h1, h2, h3, h4⟩ := r.take hl
    obtain ⟨fps'', rest', h5, h6⟩ := ih h3
    refine ⟨fp ++ fps'', rest ++ rest', .cons h1 h2 h5, ?_⟩
    refine List.Perm.trans ?_ h4
    rw [List.append_assoc]
    refine List.Perm.append_left rest ?_
    exact (List.perm_append_comm_assoc rest' fp fps'').trans (h6.append_left fp)

theorem Ent.sub (h : SubS ρ' ρ) : Ent c sc ρ ρ' := fun env V0 h0 Cs X s F => by
  obtain ⟨m, fps, h1, h2, h3, h4, h6, h5⟩ := F.sto
  obtain ⟨fps', rest, r, hp⟩ := h5.sub h
  have hsub : ∀ a ∈ env.locals :: (Cs.map (·.2) ++ fps'), a ∈ X := fun a ha => by
    rw [h2]
    rcases List.mem_cons.mp ha with q | q
    · exact q ▸ .head _
    · refine .tail _ ?_
      rcases List.mem_append.mp q with q | q
      · exact List.mem_append_left _ q
      · exact List.mem_append_right _ (hp.subset (List.mem_append_right _ q))
  refine ⟨_, hsub, F.mk' h1 rfl ?_ hsub (r.weak fun a q => q.imp id (hsub a))⟩
  have hx1 : (env.locals :: (Cs.map (·.2) ++ fps)).Nodup := h2 ▸ h3
  have hpm : (rest ++ (env.locals :: (Cs.map (·.2) ++ fps'))).Perm (env.locals :: (Cs.map (·.2) ++ fps)) := by
    refine List.perm_middle.trans (List.Perm.cons _ ?_)
    exact (List.perm_append_comm_assoc rest _ fps').trans (hp.append_left _)
  exact (List.nodup_append.mp (hpm.nodup_iff.mpr hx1)).2.1

mutual
theorem RepS.freeze {V W : Addr → Prop} {s : Shared} : ∀ {sl v fp}, RepS c V s sl v fp → (∀ a, W a → V a) → (∀ a ∈ fp, ¬ W a) → Rep c W s sl.d v
  | _, _, _, .val r, hw, _ => r.weak hw
  | _, _, _, .res _, _, _ => .val _
  | _, _, _, .own ho hcl hd hdt r, hw, hf => .list (hf _ (.head _)) ho hcl hd hdt (RepSL.freeze r hw fun a ha => hf a (.tail _ ha))
theorem RepSL.freeze {V W : Addr → Prop} {s : Shared} : ∀ {sl v fp}, RepSL c V s sl v fp → (∀ a, W a → V a) → (∀ a ∈ fp, ¬ W a) → RepL c W s (Slot.ds sl) v
  | _, _, _, .nil, _, _ => .nil
  | _, _, _, .cons r rs, hw, hf => .cons (RepS.freeze r hw fun a ha => hf a (List.mem_append_left _ ha)) (RepSL.freeze rs hw fun a ha => hf a (List.mem_append_right _ ha))
end

end
end Mine
namespace Mine

theorem bindL_other {kindOf : Str → Option NameKind} {x : Str} : ∀ (binds : List (Str × Value)) (m : Str → Option Value), (∀ p ∈ binds, p.1 ≠ x) → bindL kindOf binds m x = m x
  | [], _, _ => rfl
  | (y, v) :: r, m, h => by
    unfold bindL
    rw [bindL_other r _ fun p hp => h p (.tail _ hp)]
    split
    · exact if_neg fun q => h _ (.head _) q.symm
    · rfl
theorem bindC_other {kindOf : Str → Option NameKind} {x : Str} : ∀ (binds : List (Str × Value)) (m : Str → Option Value), (∀ p ∈ binds, p.1 ≠ x) → bindC kindOf binds m x = m x
  | [], _, _ => rfl
  | (y, v) :: r, m, h => by
    unfold bindC
    rw [bindC_other r _ fun p hp => h p (.tail _ hp)]
    split
    · rfl
    · exact if_neg fun q => h _ (.head _) q.symm
theorem bindL_at {kindOf : Str → Option NameKind} {x : Str} {v : Value} (hk : kindOf x = some .local) : ∀ (binds : List (Str × Value)) (m : Str → Option Value), (binds.map (·.1)).Nodup → (x, v) ∈ binds → bindL kindOf binds m x = some v
  | (y, w) :: r, m, hn, h => by
    unfold bindL
    rcases List.mem_cons.mp h with q | q
    · cases q
      rw [bindL_other r _ fun p hp q => (List.nodup_cons.mp hn).1 (List.mem_map.mpr ⟨p, hp, q⟩), if_pos hk]
      exact if_pos rfl
    · exact bindL_at hk r _ (List.nodup_cons.mp hn).2 q
theorem bindC_at {kindOf : Str → Option NameKind} {x : Str} {v : Value} (hk : kindOf x ≠ some .local) : ∀ (binds : List (Str × Value)) (m : Str → Option Value), (binds.map (·.1)).Nodup → (x, v) ∈ binds → bindC kindOf binds m x = some v
  | (y, w) :: r, m, hn, h => by
    unfold bindC
    rcases List.mem_cons.mp h with q | q
    · cases q
      rw [bindC_other r _ fun p hp q => (List.nodup_cons.mp hn).1 (List.mem_map.mpr ⟨p, hp, q⟩), if_neg hk]
      exact if_pos rfl
    · exact bindC_at hk r _ (List.nodup_cons.mp hn).2 q

noncomputable def bindsOf (ps : List String) (vs : List Value) : List (Str × Value) := (ps.map Str.ofString).zip vs
noncomputable def stoOf : List String → List D → Sto
  | p :: ps, d :: ds => (p, .val d) :: stoOf ps ds
  | _, _ => []

/-- what is known of a def at the top -/
structure IsDefL (c : Cx) (a : Addr) (sc : Scope) (ps : List String) (body : List Stmt) : Prop where
  ex : ∃ o fd, c.base.get? a = some o ∧ o.data = .func fd ∧ fd.body = .stmts body ∧ fd.scope = sc ∧ fd.closure = [] ∧ fd.globals = mainGlobals ∧ fd.builtins = builtinsNs ∧ c.base.CodeRec fd.code fd.qualname ∧
    (∀ vs : List Value, vs.length = ps.length → bindArgs fd ⟨vs, []⟩ = pure (bindsOf ps vs))
  kinds : ∀ p ∈ ps, CanStore sc p
  nodup : ps.Nodup
  cnd : ((cellsFrom 0 sc.names []).map (·.1)).Nodup
  co : sc.isCoroutine = false
  gen : sc.isGenerator = false
  kind : sc.kind = .function
  nofree : ∀ x, sc.names.lookup x ≠ some .free
structure IsDef (c : Cx) (a : Addr) (sc : Scope) (ps : List String) (body : List Stmt) : Prop extends IsDefL c a sc ps body where
  nl : ¬ c.lsc sc

theorem cellsFrom_shift : ∀ (names : List (Str × NameKind)) (n m : Nat) (acc acc' : List (Str × Addr)), acc.map (·.1) = acc'.map (·.1) → (cellsFrom n names acc).map (·.1) = (cellsFrom m names acc').map (·.1)
  | [], _, _, _, _, h => h
  | (x, k) :: r, n, m, acc, acc', h => by
    unfold cellsFrom
    split
    · exact cellsFrom_shift r _ _ _ _ (by simp [h])
    · exact cellsFrom_shift r _ _ _ _ h
theorem cellsFrom_has {x : Str} : ∀ (names : List (Str × NameKind)) (n : Nat) (acc : List (Str × Addr)), names.lookup x = some .cell → ((cellsFrom n names acc).lookup x).isSome = true := fun names n acc h =>
  cellsFrom_some names n acc (.inl h)
theorem lookup_inj {cs : List (Str × Addr)} (hp : cs.Pairwise fun x y => x.2 ≠ y.2) {x y : Str} {a : Addr} (hx : cs.lookup x = some a) (hy : cs.lookup y = some a) : x = y :=
  name_of_addr hp (mem_of_lookup hx) (mem_of_lookup hy)

theorem repL_zip {c V s} : ∀ {ps : List String} {ds : List D} {vs : List Value}, RepL c V s ds vs → ps.length = ds.length → ∀ (env : Env) (m : Str → Option Value),
    (∀ p v, (Str.ofString p, v) ∈ bindsOf ps vs → p ∈ ps → Loc env s m p v) → StoR c env V s m (stoOf ps ds) []
  | [], [], _, .nil, _, _, _, _ => .nil
  | p :: ps, d :: ds, _, .cons (v := v) r rs, hl, env, m, h =>
    .cons (fp := []) (h p v (.head _) (.head _)) (.val r) (repL_zip rs (by simpa using hl) env m fun q w hq hm => h q w (.tail _ hq) (.tail _ hm))
  | [], _ :: _, _, _, hl, _, _, _ => nomatch hl
  | _ :: _, [], _, _, hl, _, _, _ => nomatch hl

theorem fn_run {c : Cx} {n : Nat} {a : Addr} {sc : Scope} {ps : List String} {body : List Stmt} {ds : List D} {d : D} (hd : IsDefL c a sc ps body) (hl : ps.length = ds.length)
    (h : Tr c n sc (stoOf ps ds) body fun af _ => af = .ret d ∨ (af ≠ .ret d ∧ d = .none ∧ ∀ d', af ≠ .ret d')) {A : Around} {V : Addr → Prop} {s : Shared} {vs : List Value} (hA : Room c (n + 1) A) (hT : c.lsc sc → A.frames = some [])
    (hS : St c V s) (r : RepL c V s ds vs) : wpAny c.M A (call (.ref a) vs) (fun v s' => Gr s s' ∧ Rep c V s' d v) (fun _ _ => False) s := by
  obtain ⟨o, fd, ho, hdat, hbody, hsc, hclo, hgl, hbl, hcd, hbind⟩ := hd.ex
  subst hsc
  have hvl : vs.length = ps.length := by rw [← r.length, hl]
  have hbs := hbind vs hvl
  have hkinds : ∀ x ∈ bindsOf ps vs, fd.scope.names.lookup x.1 = some .local ∨ (fd.scope.names.lookup x.1 = some .cell ∧ ((cellsFrom (s.heap.objs.size + 1) fd.scope.names []).lookup x.1).isSome = true) := fun x hx => by
    obtain ⟨x1, x2⟩ := x
    have := List.of_mem_zip hx
    obtain ⟨p, hp, e⟩ := List.mem_map.mp this.1
    subst e
    rcases hd.kinds p hp with q | q
    · exact .inl q
    · exact .inr ⟨q, cellsFrom_has _ _ _ q⟩
  have hnames : ((bindsOf ps vs).map (·.1)).Nodup := by
    unfold bindsOf
    rw [List.map_fst_zip (by simp [hvl])]
    have : ∀ l : List String, l.Nodup → (l.map Str.ofString).Nodup := by
      intro l hl
      induction l with
      | nil => exact .nil
      | cons x l ih =>
        rw [List.map_cons, List.nodup_cons]
        refine ⟨fun q => ?_, ih (List.nodup_cons.mp hl).2⟩
        obtain ⟨y, hy, e⟩ := List.mem_map.mp q
        exact (List.nodup_cons.mp hl).1 (ofString_inj e ▸ hy)
    exact this ps hd.nodup
  refine wpAny_with_toks (Nat.le_refl _) (wpAny_call (codeAny_mono (R := fun r s' => match r with | .ok (.ret v) => Keeps s.heap s'.heap ∧ s'.gens = s.gens ∧ s'.os = s.os ∧ Rep c V s' d v | _ => False) ?_ (fun r s' q => ?_)))
  · refine codeAny_call_function hA.lim (hS.keep _ _ ho) hdat hd.co hd.gen hbody (hcd.keeps hS.keep) ?_
    rw [hbs, hclo]
    refine wpAny_pure (wpAny_with_toks (Nat.le_refl _) (wpAny_newFunctionEnv_cells hd.kind hkinds fun env he s₁ x htok => ?_))
    subst he
    refine ⟨(hS.good.lim.keeps hS.keep).keeps x.toInCall.keep, codeAny_func ?_⟩
    -- the body
    have hk₁ : Keeps s.heap s₁.heap := x.toInCall.keep
    have hca := x.apart
    obtain ⟨h₁, tk, rfl⟩ := x.toInCall.same
    have hcellAt : ∀ y b, (y, b) ∈ (callEnvC fd s.heap.objs.size a).cells → (callEnvC fd s.heap.objs.size a).cells.lookup y = some b := fun y b hm => by
      have hnd : ((cellsFrom (s.heap.objs.size + 1) fd.scope.names []).map (·.1)).Nodup := cellsFrom_shift fd.scope.names 0 (s.heap.objs.size + 1) [] [] rfl ▸ hd.cnd
      exact lookup_of_mem_nodup hnd hm
    have htk : 0 < tk := Nat.lt_of_lt_of_le hS.pos htok
    have gr₁ : Gr s { s with heap := h₁, toks := tk } := ⟨hk₁, htok, rfl, rfl⟩
    have hnew : ∀ b ∈ s.heap.objs.size :: ((callEnvC fd s.heap.objs.size a).cells.map (·.2) ++ []), s.heap.get? b = none := fun b hb => by
      have : s.heap.objs.size ≤ b := by
        rcases List.mem_cons.mp hb with q | q
        · exact Nat.le_of_eq q.symm
        · rw [List.append_nil] at q
          obtain ⟨p, hp, rfl⟩ := List.mem_map.mp q
          exact Nat.le_of_lt (x.above p.1 p.2 hp)
      cases e : s.heap.get? b with
      | none => rfl
      | some o' => exact absurd (Heap.lt_size e) (Nat.not_lt.mpr this)
    have F : Fm c fd.scope (callEnvC fd s.heap.objs.size a) V s.heap (callEnvC fd s.heap.objs.size a).cells (s.heap.objs.size :: ((callEnvC fd s.heap.objs.size a).cells.map (·.2) ++ [])) (stoOf ps ds) { s with heap := h₁, toks := tk } := by
      refine ⟨hS.good, rfl, hd.kind, hgl, hbl, hS.keep, hk₁, Nat.ne_of_gt htk, (fun b q => by
        obtain ⟨o', e⟩ := hS.live b q
        exact ⟨⟨o', hk₁ _ _ e⟩, fun hb => by rw [hnew b hb] at e; cases e⟩), (fun y hy => by
        rcases hy with hy | hy
        · exact Option.isSome_iff_exists.mp (cellsFrom_has fd.scope.names (s.heap.objs.size + 1) [] hy)
        · exact absurd hy (hd.nofree y)), hnew, fun _ _ q => q, fun y z b hy hz => lookup_inj hca hy hz,
        ⟨_, [], x.toInCall.ns, rfl, ?_, fun b hb => ?_, fun p hp => ⟨_, x.cell p.1 p.2 (hcellAt _ _ hp)⟩, ?_⟩⟩
      · rw [List.append_nil]
        refine List.nodup_cons.mpr ⟨fun q => ?_, ?_⟩
        · obtain ⟨p, hp, e⟩ := List.mem_map.mp q
          have := x.above p.1 p.2 hp
          exact Nat.lt_irrefl _ (e ▸ this)
        · exact List.pairwise_map.mpr hca
      · rcases List.mem_cons.mp hb with q | q
        · obtain ⟨oL, _, _, e, _⟩ := x.toInCall.ns
          exact ⟨oL, q ▸ e⟩
        · rw [List.append_nil] at q
          obtain ⟨p, hp, rfl⟩ := List.mem_map.mp q
          obtain ⟨oc, e, _⟩ := x.cell p.1 p.2 (hcellAt _ _ hp)
          exact ⟨oc, e⟩
      · have r2 : RepL c (Vol V (s.heap.objs.size :: ((callEnvC fd s.heap.objs.size a).cells.map (·.2) ++ []))) { s with heap := h₁, toks := tk } ds vs :=
          (r.ext (W := fun b => b ∈ s.heap.objs.size :: ((callEnvC fd s.heap.objs.size a).cells.map (·.2) ++ [])) hnew).gr gr₁
        refine repL_zip r2 hl _ _ fun p v hm hp => ?_
        rcases hd.kinds p hp with q | q
        · exact .loc q (bindL_at q _ _ hnames hm)
        · obtain ⟨b, hb⟩ := Option.isSome_iff_exists.mp (cellsFrom_has fd.scope.names (s.heap.objs.size + 1) [] q)
          obtain ⟨oc, e, hdc⟩ := x.cell _ _ hb
          refine .cell (.inl q) hb e (hdc.trans ?_)
          have : bindC (callEnvC fd s.heap.objs.size a).kindOf (bindsOf ps vs) (fun _ => none) (Str.ofString p) = some v := bindC_at (by
            show fd.scope.names.lookup _ ≠ _
            rw [q]; decide) _ _ hnames hm
          exact congrArg _ this
    refine wpAny_mono (h.run _ _ V s.heap _ _ _ (hA.deeper _) ⟨fun y hy => ?_, fun q => ⟨Around.frames_deeper (hT q), rfl⟩⟩ F) (fun f s' q => ?_) fun _ _ q => q.elim
    · have := cellsFrom_has fd.scope.names (s.heap.objs.size + 1) [] hy
      exact Option.isSome_iff_exists.mp this
    · obtain ⟨X', ρ', af, g, F', hf, hp⟩ := q
      refine ⟨F'.keep, g.gens, g.os, ?_⟩
      cases hf with
      | next => rcases hp with hp | ⟨_, rfl, _⟩
                · cases hp
                · exact .none
      | brk => rcases hp with hp | ⟨_, rfl, _⟩
               · cases hp
               · exact .none
      | cont => rcases hp with hp | ⟨_, rfl, _⟩
                · cases hp
                · exact .none
      | ret r' =>
        rcases hp with hp | ⟨_, _, hp⟩
        · cases hp; exact r'.weak fun _ q => .inl q
        · exact absurd rfl (hp _)
  · cases r with
    | error e => exact q.elim
    | ok f =>
      cases f with
      | ret v => exact fun ht => ⟨⟨q.1, ht, q.2.1, q.2.2.1⟩, q.2.2.2⟩
      | _ => exact q.elim

theorem FnR.def {c : Cx} {n : Nat} {a : Addr} {sc : Scope} {ps : List String} {body : List Stmt} {ds : List D} {d : D} (hd : IsDef c a sc ps body) (hl : ps.length = ds.length)
    (h : Tr c n sc (stoOf ps ds) body fun af _ => af = .ret d ∨ (af ≠ .ret d ∧ d = .none ∧ ∀ d', af ≠ .ret d')) : FnR c (n + 1) (.ref a) ds d := .mk fun A V s vs hA hS r =>
  fn_run hd.toIsDefL hl h hA (fun q => absurd q hd.nl) hS r

/-- a def that is called with nothing else on the stack -/
structure FnT (c : Cx) (n : Nat) (f : Value) (ds : List D) (d : D) : Prop where
  run : ∀ A V s vs, Room c n A → A.frames = some [] → St c V s → RepL c V s ds vs →
    wpAny c.M A (call f vs) (fun v s' => Gr s s' ∧ Rep c V s' d v) (fun _ _ => False) s
theorem FnT.of {c : Cx} {n : Nat} {a : Addr} {sc : Scope} {ps : List String} {body : List Stmt} {ds : List D} {d : D} (hd : IsDefL c a sc ps body) (hl : ps.length = ds.length)
    (h : Tr c n sc (stoOf ps ds) body fun af _ => af = .ret d) : FnT c (n + 1) (.ref a) ds d := .mk fun A V s vs hA hF hS r => fn_run hd hl (h.mono fun _ _ q => .inl q) hA (fun _ => hF) hS r

/-- the plain case: every way ends in a return of d -/
theorem FnR.of {c : Cx} {n : Nat} {a : Addr} {sc : Scope} {ps : List String} {body : List Stmt} {ds : List D} {d : D} (hd : IsDef c a sc ps body) (hl : ps.length = ds.length)
    (h : Tr c n sc (stoOf ps ds) body fun af _ => af = .ret d) : FnR c (n + 1) (.ref a) ds d := FnR.def hd hl (h.mono fun _ _ q => .inl q)

end Mine
namespace Mine

section
variable {c : Cx} {n : Nat} {sc : Scope} {k : Bool} {ρ : Sto}

/-- the arguments, the items of a display -/
structure EvL (c : Cx) (n : Nat) (sc : Scope) (k : Bool) (ρ : Sto) (es : List Expr) (ds : List D) : Prop where
  run : ∀ A env V0 h0 Cs X s pos, Room c n A → Fm c sc env V0 h0 Cs X ρ s →
    wpAny c.M A (spliced (backTo pos (starEach es env))) (fun vs s' => Gr s s' ∧ RepL c (VK k V0 X) s' ds vs) NoE s
theorem EvL.nil : EvL c n sc k ρ [] [] := .mk fun A env V0 h0 Cs X s pos _ _ => wpAny_items_nil ⟨.refl s, .nil⟩
theorem EvL.cons {e : Expr} {es : List Expr} {d : D} {ds : List D} (h : Ev c n sc k ρ e d) (hs : EvL c n sc k ρ es ds) (hp : plainE e = true := by rfl) : EvL c n sc k ρ (e :: es) (d :: ds) :=
  .mk fun A env V0 h0 Cs X s pos hA F => wpAny_items_cons (wpAny_mono (h.run A env V0 h0 Cs X s hA F) (fun v s₁ q₁ => wpAny_mono (hs.run A env V0 h0 Cs X s₁ pos hA (F.gr q₁.1)) (fun vs s₂ q₂ =>
    ⟨q₁.1.trans q₂.1, .cons (q₁.2.gr q₂.1) q₂.2⟩) fun _ _ q => q) fun _ _ q => q) (starEach_cons hp)

/-- what may stand in front of a call's brackets -/
inductive Callee (c : Cx) : Value → Prop
  | builtin (id : String) : Callee c (.builtin id)
  | type (T : String) : Callee c (.type T)
  | func {a o fd} : c.base.get? a = some o → o.data = .func fd → Callee c (.ref a)

theorem noStar_all {es : List Expr} {env : Env} {pos : Pos} (h : es.all plainE = true) : (backTo pos (starEach es env)).any (·.1) = false := by
  induction es with
  | nil => rfl
  | cons e es ih =>
    simp only [List.all_cons, Bool.and_eq_true] at h
    rw [starEach_cons h.1]
    exact ih h.2
theorem evalArgs_of {M : Model} {A : Around} {E : Value → Shared → Prop} {s : Shared} {env : Env} {f : Value} {es : List Expr} {pos : Pos} {Q : Args → Shared → Prop} (hp : es.all plainE = true)
    (h : wpAny M A (spliced (backTo pos (starEach es env))) (fun vs s' => Q ⟨vs, []⟩ s') E s) : wpAny M A (evalArgs f true (backTo pos (starEach es env)) []) Q E s := by
  cases es with
  | nil =>
    unfold evalArgs
    show wpAny M A (spliced [] >>= _) Q E s
    refine wpAny_bind (wpAny_mono h (fun vs s' h' => ?_) fun _ _ x => x)
    refine wpAny_holding ?_
    exact wpAny_bind (wpAny_pure (wpAny_bind (wpAny_pure (wpAny_pure h'))))
  | cons e es =>
    simp only [List.all_cons, Bool.and_eq_true] at hp
    rw [starEach_cons hp.1] at h ⊢
    exact Calls.evalArgs_plain h

theorem Callee.wp {M : Model} {A : Around} {E : Value → Shared → Prop} {s : Shared} {env : Env} {f : Value} {es : List Expr} {pos : Pos} {first : List Value} {Q : Value → Shared → Prop} (hf : Callee c f) (hp : es.all plainE = true)
    (h : wpAny M A (spliced (backTo pos (starEach es env))) (fun vs s' => Keeps c.base s'.heap ∧ wpAny M A (call f (first ++ vs)) Q E s') E s) :
    wpAny M A (callWith pos f first (backTo pos (starEach es env)) []) Q E s := by
  cases hf with
  | builtin id => exact Calls.callWith_builtin (noStar_all hp) (evalArgs_of hp (wpAny_mono h (fun _ _ q => q.2) fun _ _ q => q))
  | type T => exact PySem.callWith_type (noStar_all hp) (evalArgs_of hp (wpAny_mono h (fun _ _ q => q.2) fun _ _ q => q))
  | func ho hd => exact Calls.callWith_function (evalArgs_of hp (wpAny_mono h (fun _ _ q => ⟨⟨q.1 _ _ ho, hd⟩, q.2⟩) fun _ _ q => q))

theorem Ev.call {f : Expr} {es : List Expr} {pos : Pos} {fv : Value} {ds : List D} {d : D} (hf : Ev c n sc true ρ f (.val fv)) (hc : Callee c fv) (ha : EvL c n sc k ρ es ds) (h : FnR c n fv ds d)
    (hp : es.all plainE = true := by rfl)
    (he : ∀ env : Env, eval (.Call f es [] pos) env = (do callWith pos (← eval f env) [] (backTo pos (starEach es env)) (backToKw pos (keywordEach [] env))) := by intro _; rfl) : Ev c n sc k ρ (.Call f es [] pos) d :=
  .mk fun A env V0 h0 Cs X s hA F => by
    rw [he]
    refine wpAny_bind (wpAny_mono (hf.run A env V0 h0 Cs X s hA F) (fun v s₁ q₁ => ?_) fun _ _ q => q)
    obtain ⟨g₁, r₁⟩ := q₁
    cases r₁
    refine hc.wp hp (wpAny_mono (ha.run A env V0 h0 Cs X s₁ pos hA (F.gr g₁)) (fun vs s₂ q₂ => ⟨((F.gr g₁).gr q₂.1).base.trans ((F.gr g₁).gr q₂.1).keep, ?_⟩) fun _ _ q => q)
    exact wp_gr (g₁.trans q₂.1) (h.run A _ s₂ vs hA ((F.st k).gr (g₁.trans q₂.1)) q₂.2)

noncomputable def D.ty : D → Option String
  | .str _ => some "str"
  | .tstr _ => some "str"
  | .list _ => some "list"
  | .tuple _ => some "tuple"
  | .dict _ => some "dict"
  | .int _ => some "int"
  | .bool _ => some "bool"
  | _ => Option.none
theorem Rep.typeIs {V s d v T} (r : Rep c V s d v) (h : d.ty = some T) : s.TypeIs v T ∧ (∀ a, v = .ref a → ∃ ob, s.heap.get? a = some ob ∧ ob.dict = Option.none) := by
  cases r with
  | none => cases h
  | bool b => cases h; exact ⟨rfl, fun _ e => nomatch e⟩
  | int i t => cases h; exact ⟨rfl, fun _ e => nomatch e⟩
  | str x t => cases h; exact ⟨typeIs_str _ _ _, fun _ e => nomatch e⟩
  | tstr x t => cases h; exact ⟨typeIs_str _ _ _, fun _ e => nomatch e⟩
  | bytes b t => cases h
  | val v => cases h
  | range => cases h
  | list na ho hcl hd hdt r => cases h; exact ⟨⟨_, ho, hcl⟩, fun _ e => by cases e; exact ⟨_, ho, hd.1⟩⟩
  | tuple na ho hcl hd hdt r => cases h; exact ⟨⟨_, ho, hcl⟩, fun _ e => by cases e; exact ⟨_, ho, hd.1⟩⟩
  | dict na hsm ho hx hdt r => cases h; exact ⟨⟨_, ho, hx.1⟩, fun _ e => by cases e; exact ⟨_, ho, hx.2.1⟩⟩

theorem Ev.meth {o : Expr} {name : Str} {apos pos : Pos} {es : List Expr} {T id : String} {d₀ : D} {ds : List D} {d : D} (ho : Ev c n sc k ρ o d₀) (hT : d₀.ty = some T) (pa : PlainAttrs T) (slot : PySem.Slot T name id)
    (hty : typeOf (.builtin id) = pure (.type "method_descriptor")) (ha : EvL c n sc k ρ es ds) (h : FnR c n (.builtin id) (d₀ :: ds) d)
    (hline : (apos.endLine == pos.line) = true := by rfl) (hp : es.all plainE = true := by rfl) (hlen : decide (es.length < 30) = true := by rfl)
    (hbase : ∀ env : Env, attributeBase o name env (eval o env) = eval o env := by intro _; rfl) : Ev c n sc k ρ (.Call (.Attribute o name apos) es [] pos) d :=
  .mk fun A env V0 h0 Cs X s hA F => by
    refine wpAny_Call_method (hbase env) ?_ hline pa slot hty (wpAny_mono (ho.run A env V0 h0 Cs X s hA F) (fun v s₁ q₁ => ?_) fun _ _ q => q)
    · have : (backTo pos (starEach es env)).all (fun x => !x.1) = true := by
        have h2 := noStar_all (env := env) (pos := pos) hp
        rw [List.all_eq_not_any_not]
        simpa using h2
      rw [this]
      have hl : decide (es.length < 30) = true := hlen
      exact hl
    · have ht := q₁.2.typeIs hT
      refine ⟨ht.1, ht.2, (Callee.builtin (c := c) id).wp hp (wpAny_mono (ha.run A env V0 h0 Cs X s₁ pos hA (F.gr q₁.1)) (fun vs s₂ q₂ => ⟨((F.gr q₁.1).gr q₂.1).base.trans ((F.gr q₁.1).gr q₂.1).keep, ?_⟩) fun _ _ q => q)⟩
      exact wp_gr (q₁.1.trans q₂.1) (h.run A _ s₂ (v :: vs) hA ((F.st k).gr (q₁.1.trans q₂.1)) (.cons (q₁.2.gr q₂.1) q₂.2))

theorem Ev.list {es : List Expr} {pos : Pos} {ds : List D} (h : EvL c n sc k ρ es ds) (hsz : ds.length ≤ sizeLine) : Ev c n sc k ρ (.List es pos) (.list ds) := .mk fun A env V0 h0 Cs X s hA F =>
  wpAny_List (wpAny_mono (h.run A env V0 h0 Cs X s pos hA F) (fun vs s₁ q => ⟨q.2.length ▸ hsz, q.1.trans (.push _), .list (fun q' => by
    obtain ⟨o, e⟩ := ((F.st k).gr q.1).live _ q'
    exact absurd (Heap.lt_size e) (Nat.lt_irrefl _)) (Heap.get?_push_size _ rfl) rfl ⟨rfl, rfl⟩ rfl (by simpa using q.2.gr (.push _))⟩) fun _ _ q => q)
theorem Ev.tuple {es : List Expr} {kk : Nat} {pos : Pos} {ds : List D} (h : EvL c n sc k ρ es ds) (hsz : ds.length ≤ sizeLine) : Ev c n sc k ρ (.Tuple es kk pos) (.tuple ds) := .mk fun A env V0 h0 Cs X s hA F =>
  wpAny_Tuple (wpAny_mono (h.run A env V0 h0 Cs X s pos hA F) (fun vs s₁ q => ⟨q.2.length ▸ hsz, q.1.trans (.push _), .tuple (fun q' => by
    obtain ⟨o, e⟩ := ((F.st k).gr q.1).live _ q'
    exact absurd (Heap.lt_size e) (Nat.lt_irrefl _)) (Heap.get?_push_size _ rfl) rfl ⟨rfl, rfl⟩ rfl (by simpa using q.2.gr (.push _))⟩) fun _ _ q => q)

theorem Ev.sub {value slice : Expr} {pos : Pos} {d₁ d₂ d : D} {T id : String} (h1 : Ev c n sc k ρ value d₁) (h2 : Ev c n sc k ρ slice d₂) (hT : d₁.ty = some T) (hl : typeLookup (.type T) "__getitem__" = pure (some (.builtin id))) (h : ItemR c d₁ d₂ d)
    (hs : ∀ o i, subscripted slice false o i = operate [o, i] (getItem o i) := by intro _ _; rfl) : Ev c n sc k ρ (.Subscript value slice pos) d := .mk fun A env V0 h0 Cs X s hA F =>
  Subscript_ (wpAny_mono (h1.run A env V0 h0 Cs X s hA F) (fun o s₁ q₁ => wpAny_mono (h2.run A env V0 h0 Cs X s₁ hA (F.gr q₁.1)) (fun i s₂ q₂ =>
    tail_any ((q₁.2.gr q₂.1).typeIs hT).1 hl (wp_gr (q₁.1.trans q₂.1) (h A _ s₂ o i hA.zero ((F.st k).gr (q₁.1.trans q₂.1)) (q₁.2.gr q₂.1) q₂.2)) (hs o i)) fun _ _ q => q) fun _ _ q => q)

end
end Mine
namespace Mine

/-- the signs of a written text -/
noncomputable def cs (x : String) : List Nat := x.toList.map Char.toNat
theorem ofString_S (x : String) : Str.ofString x = S (cs x) := Str.ofString_eq_toList x
theorem S_append (a b : List Nat) : S a ++ S b = S (a ++ b) := by
  show (⟨a.toArray ++ b.toArray⟩ : Str) = _
  simp
theorem S_length (a : List Nat) : (S a).length = a.length := by simp [Str.length]
theorem S_inj {a b : List Nat} (h : S a = S b) : a = b := by
  injection h with h; simpa using congrArg Array.toList h
noncomputable abbrev sd (l : List Nat) : D := .str (S l)

section
variable {c : Cx} {n : Nat} {sc : Scope} {k : Bool} {ρ : Sto}

theorem Ev.lit {x : String} {kk : Nat} {pos : Pos} : Ev c n sc k ρ (.Constant (.str (Str.ofString x)) kk pos) (sd (cs x)) := by
  have := Ev.str (c := c) (n := n) (sc := sc) (k := k) (ρ := ρ) (x := Str.ofString x) (kk := kk) (pos := pos)
  rw [ofString_S] at this ⊢; exact this
/- ints -/
theorem BinR.add {a b : Int} : BinR c .Add (.int a) (.int b) (.int (a + b)) := fun A V s v₁ v₂ _ _ r₁ r₂ => by
  cases r₁; cases r₂; exact wp_end (P.add_int ⟨fun _ _ e => e, rfl, rfl, fun _ => .int _ _⟩)
theorem BinR.fdiv {a b : Int} (hb : b ≠ 0) (hs : b.natAbs < 1073741824) : BinR c .FloorDiv (.int a) (.int b) (.int (a.fdiv b)) := fun A V s v₁ v₂ _ _ r₁ r₂ => by
  cases r₁; cases r₂; exact wp_end (floordiv_int hb ⟨fun _ _ e => e, rfl, rfl, fun _ => .int _ _⟩ (.inl (PyProof.noPylong_small hs)))
theorem BinR.fmod {a b : Int} (hb : b ≠ 0) (hn : c.hn := by assumption) : BinR c .Mod (.int a) (.int b) (.int (a.fmod b)) := fun A V s v₁ v₂ hA _ r₁ r₂ => by
  cases r₁; cases r₂; exact wp_end (mod_int_or (hA.handled hn) (fun h => absurd h hb) fun _ => ⟨fun _ _ e => e, rfl, rfl, fun _ => .int _ _⟩)
theorem InpR.add {a b : Int} : InpR c .Add (.int a) (.int b) (.int (a + b)) := fun A V s v₁ v₂ _ _ r₁ r₂ => by
  cases r₁; cases r₂; exact wp_end (P.iadd_int ⟨fun _ _ e => e, rfl, rfl, fun _ => .int _ _⟩)
theorem CmpR.eqI {a b : Int} : CmpR c .Eq (.int a) (.int b) (decide (a = b)) := fun A V s v₁ v₂ _ _ r₁ r₂ => by
  cases r₁; cases r₂; exact P.eq_int ⟨.refl s, by by_cases h : a = b <;> simp [h]⟩
theorem CmpR.ltI {a b : Int} : CmpR c .Lt (.int a) (.int b) (decide (a < b)) := fun A V s v₁ v₂ _ _ r₁ r₂ => by
  cases r₁; cases r₂; exact P.lt_int ⟨.refl s, rfl⟩
theorem CmpR.gtI {a b : Int} : CmpR c .Gt (.int a) (.int b) (decide (a > b)) := fun A V s v₁ v₂ _ _ r₁ r₂ => by
  cases r₁; cases r₂; exact P.gt_int ⟨.refl s, rfl⟩
theorem TruR.int {a : Int} : TruR c (.int a) (a != 0) := fun A V s v _ _ r => by
  cases r; exact P.truthy_int ⟨.refl s, rfl⟩
theorem TruR.bool {b : Bool} : TruR c (.bool b) b := fun A V s v _ _ r => by
  cases r; exact wpAny_truthy_bool ⟨.refl s, rfl⟩

/- texts -/
theorem BinR.cat {a b : List Nat} (hz : a.length + b.length ≤ 16777216) : BinR c .Add (sd a) (sd b) (sd (a ++ b)) := fun A V s v₁ v₂ _ _ r₁ r₂ => by
  cases r₁ with
  | str _ t => cases r₂ with
    | str _ u =>
      refine wp_end (P.add_str ?_)
      have e : S a ++ S b = S (a ++ b) := S_append a b
      by_cases h1 : ((S a).length == 0) = true
      · rw [if_pos h1]
        have : S b = S (a ++ b) := by rw [← e, Str.append_left_empty h1]
        exact ⟨fun _ _ e => e, rfl, rfl, fun _ => this ▸ .str _ _⟩
      · rw [if_neg h1]
        by_cases h2 : ((S b).length == 0) = true
        · rw [if_pos h2]
          have : S a = S (a ++ b) := by rw [← e, Str.append_right_empty h2]
          exact ⟨fun _ _ e => e, rfl, rfl, fun _ => this ▸ .str _ _⟩
        · rw [if_neg h2, e]
          exact ⟨by rw [S_length, List.length_append, sizeLine_eq]; exact hz, fun _ _ e => e, rfl, rfl, fun _ => .str _ _⟩
theorem InpR.cat {a b : List Nat} (hz : a.length + b.length ≤ 16777216) : InpR c .Add (sd a) (sd b) (sd (a ++ b)) := fun A V s v₁ v₂ _ _ r₁ r₂ => by
  cases r₁ with
  | str _ t => cases r₂ with
    | str _ u =>
      refine wp_end (P.iadd_str ?_)
      have e : S a ++ S b = S (a ++ b) := S_append a b
      by_cases h1 : ((S a).length == 0) = true
      · rw [if_pos h1]
        have : S b = S (a ++ b) := by rw [← e, Str.append_left_empty h1]
        exact ⟨fun _ _ e => e, rfl, rfl, fun _ => this ▸ .str _ _⟩
      · rw [if_neg h1]
        by_cases h2 : ((S b).length == 0) = true
        · rw [if_pos h2]
          have : S a = S (a ++ b) := by rw [← e, Str.append_right_empty h2]
          exact ⟨fun _ _ e => e, rfl, rfl, fun _ => this ▸ .str _ _⟩
        · rw [if_neg h2, e]
          exact ⟨by rw [S_length, List.length_append, sizeLine_eq]; exact hz, fun _ _ e => e, rfl, rfl, fun _ => .str _ _⟩
theorem CmpR.eqS {a b : List Nat} : CmpR c .Eq (sd a) (sd b) (decide (a = b)) := fun A V s v₁ v₂ _ _ r₁ r₂ => by
  cases r₁; cases r₂; exact P.eq_str ⟨.refl s, by by_cases h : a = b <;> simp [h]⟩
theorem CmpR.neS {a b : List Nat} : CmpR c .NotEq (sd a) (sd b) (decide (a ≠ b)) := fun A V s v₁ v₂ _ _ r₁ r₂ => by
  cases r₁; cases r₂; exact P.ne_str ⟨.refl s, by by_cases h : a = b <;> simp [h]⟩
theorem CmpR.inS {a : Nat} {y b : List Nat} (hy : y = [a]) : CmpR c .In (sd y) (sd b) (decide (a ∈ b)) := fun A V s v₁ v₂ _ _ r₁ r₂ => by
  subst hy; cases r₁; cases r₂; exact P.in_str ⟨.refl s, by rw [StrLaws.found_one]⟩
theorem FnR.chr {i : Int} (h0 : 0 ≤ i) (h1 : i ≤ 1114111) : FnR c n (.builtin "chr") [.int i] (sd [i.toNat]) := .mk fun A V s vs _ _ r => by
  cases r with
  | cons r rs => cases rs; cases r; exact wp_end (chr_of_range h0 h1 ⟨fun _ _ e => e, rfl, rfl, fun _ => .str _ _⟩)

/- items -/
theorem ItemR.list {ds : List D} {i : Int} {d : D} (h0 : 0 ≤ i) (hd : ds[i.toNat]? = some d) (hi : i < 2 ^ 63 := by omega) : ItemR c (.list ds) (.int i) d := fun A V s v₁ v₂ _ _ r₁ r₂ => by
  cases r₂
  cases r₁ with
  | list na ho hcl hdc hdt r =>
    obtain ⟨v, hv, rv⟩ := r.get hd
    exact wpAny_getItem_list ⟨_, ho, hcl, _, hdt⟩ h0 hi (by simpa using hv) ⟨.refl s, rv⟩
theorem Ev.subL {value slice : Expr} {pos : Pos} {ds : List D} {i : Int} {d : D} (h1 : Ev c n sc k ρ value (.list ds)) (h2 : Ev c n sc k ρ slice (.int i)) (h : ItemR c (.list ds) (.int i) d)
    (hs : ∀ o i, subscripted slice false o i = operate [o, i] (getItem o i) := by intro _ _; rfl) : Ev c n sc k ρ (.Subscript value slice pos) d := Ev.sub h1 h2 rfl slot_list_getitem.lookup h hs
end
end Mine
namespace Mine

/-- every c is spelled z -/
noncomputable def rep (q : Nat) (z : List Nat) (l : List Nat) : List Nat := l.flatMap fun k => if k = q then z else [k]
theorem rep_append (q : Nat) (z a b : List Nat) : rep q z (a ++ b) = rep q z a ++ rep q z b := by simp [rep]
theorem rep_free (q : Nat) (z : List Nat) : ∀ l : List Nat, q ∉ l → rep q z l = l
  | [], _ => rfl
  | k :: r, h => by
    have h1 : k ≠ q := fun e => h (e ▸ .head _)
    have h2 : q ∉ r := fun e => h (.tail _ e)
    have := rep_free q z r h2
    simp only [rep] at this ⊢
    simp [h1, this]
theorem rep_one (q : Nat) (z : List Nat) : rep q z [q] = z := by simp [rep]
theorem rep_join (q : Nat) (z : List Nat) : ∀ parts : List Str, (∀ p ∈ parts, q ∉ p.cps.toList) → rep q z (Str.join ⟨#[q]⟩ parts).cps.toList = (Str.join (S z) parts).cps.toList
  | [], _ => rfl
  | [x], h => rep_free q z _ (h x (.head _))
  | x :: y :: r, h => by
    show rep q z (x ++ ⟨#[q]⟩ ++ Str.join ⟨#[q]⟩ (y :: r)).cps.toList = (x ++ S z ++ Str.join (S z) (y :: r)).cps.toList
    simp only [Str.cps_append, Array.toList_append, rep_append]
    rw [rep_join q z (y :: r) fun p hp => h p (.tail _ hp), rep_free q z _ (h x (.head _)), rep_one]
theorem replace_S (q : Nat) (z l : List Nat) : Txt.replace (S l) ⟨#[q]⟩ (S z) = S (rep q z l) := by
  rw [StrLaws.replace_one]
  have h1 := rep_join q z _ (StrLaws.split_free (S l) q)
  rw [StrLaws.join_split] at h1
  apply StrLaws.mk_of_toList
  rw [← h1]

section
variable {c : Cx} {n : Nat} {sc : Scope} {k : Bool} {ρ : Sto}

theorem BinR.catL {ds es : List D} (hz : ds.length + es.length ≤ 16777216) : BinR c .Add (.list ds) (.list es) (.list (ds ++ es)) := fun A V s v₁ v₂ _ hS r₁ r₂ => by
  cases r₁ with
  | @list a o vs nn _ na ho hcl hd hdt r₁ => cases r₂ with
    | @list b o2 ws nn2 _ na2 ho2 hcl2 hd2 hdt2 r₂ =>
      obtain ⟨cls, dd, data, sl⟩ := o
      obtain ⟨cls2, dd2, data2, sl2⟩ := o2
      simp only at hcl hdt hcl2 hdt2
      subst hcl hdt hcl2 hdt2
      have l1 := r₁.length
      have l2 := r₂.length
      simp only [Array.length_toList] at l1 l2
      refine concat_meets ⟨_, ho, rfl⟩ ⟨_, ho2, rfl⟩ noFill_list_add seq_list_add PySem.F.slot_list_add PySem.F.entry_list_add (PySem.F.args_list_add_2 _ _)
        (list_addW a b vs ws nn nn2 dd dd2 sl sl2 (by rw [sizeLine_eq]; omega)) ⟨ho, ho2, .push _, .list (fun q' => ?_) (Heap.get?_push_size _ rfl) rfl ⟨rfl, rfl⟩ rfl ?_⟩
      · obtain ⟨o, e⟩ := hS.live _ q'
        exact absurd (Heap.lt_size e) (Nat.lt_irrefl _)
      · simpa using (r₁.append r₂).gr (.push _)

theorem RepL.ints {V s} : ∀ {ns : List Int} {vs : List Value}, RepL c V s (ns.map D.int) vs → IntsAre vs ns
  | [], _, .nil => .nil
  | n :: r, _, .cons (.int _ t) rs => .cons n t rs.ints

/-- text.replace with both texts written -/
theorem Ev.replace {o : Expr} {x z : String} {k1 k2 : Nat} {p1 p2 apos pos : Pos} {l : List Nat} {q : Nat} (h : Ev c n sc k ρ o (sd l)) (hq : cs x = [q]) (hxz : x ≠ z) (hz : l.length + (l.length + 1) * (cs z).length ≤ 16777216)
    (hline : (apos.endLine == pos.line) = true := by rfl) (hbase : ∀ env : Env, attributeBase o (Str.ofString "replace") env (eval o env) = eval o env := by intro _; rfl) :
    Ev c n sc k ρ (.Call (.Attribute o (Str.ofString "replace") apos) [.Constant (.str (Str.ofString x)) k1 p1, .Constant (.str (Str.ofString z)) k2 p2] [] pos) (sd (rep q (cs z) l)) := .mk fun A env V0 h0 Cs X s hA F => by
  refine wpAny_Call_method (hbase env) rfl hline PySem.F.plainAttrs_str PySem.F.slot_str_replace PySem.F.type_str_replace (wpAny_mono (h.run A env V0 h0 Cs X s hA F) (fun v s₁ q₁ => ?_) fun _ _ q => q)
  obtain ⟨g₁, r⟩ := q₁
  cases r with
  | str _ t =>
    refine ⟨typeIs_str _ _ _, (fun _ e => nomatch e), (Callee.builtin (c := c) "str.replace").wp rfl ?_⟩
    have ht : s₁.toks ≠ 0 := (F.gr g₁).tok
    refine wpAny_items_cons (wpAny_Constant_str (wpAny_items_cons (wpAny_Constant_str (wpAny_items_nil ⟨((F.gr g₁).base.trans (F.gr g₁).keep), ?_⟩))))
    have g2 : Gr s { s₁ with toks := s₁.toks + 1 + 1 } := g₁.trans (Gr.toks (by omega))
    refine wp_gr g2 (wp_end (SC.replace (s := { s₁ with toks := s₁.toks + 1 + 1 }) ht (Nat.succ_ne_zero _) (Nat.ne_of_lt (Nat.lt_succ_self _)) (ofString_ne hxz) ?_ fun t' k => ⟨fun _ _ e => e, rfl, rfl, fun _ => ?_⟩))
    · rw [ofString_S z, S_length, S_length]; exact hz
    · have e : Txt.replace (S l) (Str.ofString x) (Str.ofString z) = S (rep q (cs z) l) := by
        rw [ofString_S x, ofString_S z, hq]; exact replace_S q (cs z) l
      rw [e]; exact .str _ _

end
end Mine
namespace Mine

section
variable {c : Cx} {n : Nat} {sc : Scope} {k : Bool} {ρ : Sto}

theorem isStrOf_iff (c : Cx) {x : Str} {v : Value} : Value.isStrOf x v = true ↔ ∃ t, v = .str x t := by
  constructor
  · exact Value.isStrOf_shape
  · rintro ⟨t, rfl⟩; exact strKind_is c.prog c.w x t

theorem Fm.addV {env V0 h0 Cs X s s'} {a : Addr} (F : Fm c sc env V0 h0 Cs X ρ s) (hn : s.heap.get? a = none) (g : Gr s s') (hl : ∃ o, s'.heap.get? a = some o) : Fm c sc env (fun b => V0 b ∨ b = a) h0 Cs X ρ s' := by
  have F' := F.gr g
  refine ⟨F'.good, F'.scope, F'.kind, F'.globals, F'.builtins, F'.base, F'.keep, F'.tok, fun b q => ?_, F'.ccells, F'.new, F'.cells, F'.cinj, ?_⟩
  · rcases q with q | rfl
    · exact F'.live0 b q
    · refine ⟨hl, fun q => ?_⟩
      obtain ⟨_, _, _, _, _, h4, _, _⟩ := F.sto
      obtain ⟨o, e⟩ := h4 _ q
      rw [hn] at e; cases e
  · obtain ⟨m, fps, h1, h2, h3, h4, h6, h5⟩ := F.sto
    obtain ⟨_, _, _, _, _, h4', h6', _⟩ := F'.sto
    exact ⟨m, fps, h1.keeps g.keep, h2, h3, h4', h6', ((h5.ext (W := fun b => b = a) fun b q => q ▸ hn).gr g).weak fun b q => by
      rcases q with (q | q) | q
      · exact .inl (.inl q)
      · exact .inr q
      · exact .inl (.inr q)⟩

theorem RepD.find {V s} (x : List Nat) : ∀ {kvs : List (List Nat × D)} {es : List DictEntry}, RepD c V s kvs es →
    match kvs.lookup x with
    | some d => ∃ v, (es.find? fun e => Value.isStrOf (S x) e.key).map (·.val) = some v ∧ Rep c V s d v
    | none => (es.find? fun e => Value.isStrOf (S x) e.key).map (·.val) = none
  | _, _, .nil => rfl
  | _, _, .cons (k := y) (d := d) (t := t) (e := e) (kvs := kvs) (es := es) hk hh r rs => by
    have ih := rs.find x
    rw [List.lookup_cons]
    by_cases hy : x = y
    · subst hy
      simp only [beq_self_eq_true]
      refine ⟨e.val, ?_, r⟩
      have : Value.isStrOf (S x) e.key = true := (isStrOf_iff c).mpr ⟨t, hk⟩
      rw [List.find?_cons_of_pos (by simpa using this)]; rfl
    · have hb : (x == y) = false := by simpa using hy
      rw [hb]
      have : ¬ Value.isStrOf (S x) e.key = true := fun q => by
        obtain ⟨t', e'⟩ := (isStrOf_iff c).mp q
        rw [hk] at e'; injection e' with e'
        exact hy (S_inj e').symm
      rw [List.find?_cons_of_neg (by simpa using this)]
      exact ih
theorem RepD.keys {V s} : ∀ {kvs : List (List Nat × D)} {es : List DictEntry}, RepD c V s kvs es → ∀ e ∈ es, ∃ k, (strKind c.prog c.w).is k e.key = true ∧ e.hash = (strKind c.prog c.w).hash k
  | _, _, .nil, e, he => by cases he
  | _, _, .cons (k := y) (t := t) hk hh r rs, e, he => by
    rcases List.mem_cons.mp he with rfl | he
    · exact ⟨S y, by rw [hk]; exact strKind_is c.prog c.w _ _, hh⟩
    · exact rs.keys e he

theorem Rep.map {V s kvs a} (r : Rep c V s (.dict kvs) (.ref a)) : ∃ f, s.heap.MapOf (strKind c.prog c.w) a f ∧ (a == sysModules) = false ∧
    ∀ x : List Nat, match kvs.lookup x with | Option.some d => ∃ v, f (S x) = some v ∧ Rep c V s d v | Option.none => f (S x) = Option.none := by
  cases r with
  | @dict _ o es nn _ na hsm ho hx hdt r =>
    refine ⟨_, ⟨o, es, nn, ho, hx, hdt, fun e he => r.keys e (Array.mem_toList_iff.mpr he), fun _ => rfl⟩, hsm, fun x => ?_⟩
    have h := r.find x
    have e : findBy (strKind c.prog c.w).is es (S x) = (es.toList.find? fun e => Value.isStrOf (S x) e.key).map (·.val) := by
      obtain ⟨l⟩ := es
      unfold findBy
      rw [List.find?_toArray]; rfl
    rw [e]; exact h

/- a display of a table with written keys -/
inductive EvP (c : Cx) (n : Nat) (sc : Scope) (k : Bool) (ρ : Sto) : List (Option Expr) → List Expr → List (List Nat × D) → Prop
  | nil : EvP c n sc k ρ [] [] []
  | cons {ke ve x d ks vs kvs} : Ev c n sc k ρ ke (sd x) → Ev c n sc k ρ ve d → EvP c n sc k ρ ks vs kvs → EvP c n sc k ρ (some ke :: ks) (ve :: vs) ((x, d) :: kvs)

end

section
variable {c : Cx} {n : Nat} {sc : Scope} {k : Bool} {ρ : Sto}

/-- the trees of the pairs -/
noncomputable def pairTrees (pos : Pos) (env : Env) : List (Option Expr) → List Expr → List (Sem Value × Sem Value)
  | some ke :: ks, ve :: vs => (eval ke env, do let x ← eval ve env; standAt pos; pure x) :: pairTrees pos env ks vs
  | _, _ => []

theorem EvP.shape {ks vs kvs} (h : EvP c n sc k ρ ks vs kvs) (pos : Pos) (env : Env) :
    (evalEachOpt ks env).zip ((evalEach vs env).map fun v => do let x ← v; standAt pos; pure x) = (pairTrees pos env ks vs).map (fun p => (some p.1, p.2)) ∧ (pairTrees pos env ks vs).length = kvs.length := by
  induction h with
  | nil => exact ⟨rfl, rfl⟩
  | cons _ _ _ ih =>
    refine ⟨?_, by simp [pairTrees, ih.2]⟩
    simp only [pairTrees, List.map_cons]
    rw [← ih.1]
    rfl

theorem EvP.wp {ks vs kvs} (h : EvP c n sc k ρ ks vs kvs) : ∀ {A env V0 h0 Cs X s} (pos : Pos), Room c n A → Fm c sc env V0 h0 Cs X ρ s →
    wpAny c.M A (evalPairs (pairTrees pos env ks vs)) (fun ps s' => Gr s s' ∧ ∃ kvv : List (Str × Value), Carries (strKind c.prog c.w) ps kvv ∧ kvv.map (·.1) = kvs.map (fun p => S p.1) ∧ RepL c (VK k V0 X) s' (kvs.map (·.2)) (kvv.map (·.2))) NoE s := by
  induction h with
  | nil => intro A env V0 h0 Cs X s pos _ _; exact evalPairs_nil ⟨.refl s, [], trivial, rfl, .nil⟩
  | cons h1 h2 _ ih =>
    intro A env V0 h0 Cs X s pos hA F
    refine evalPairs_cons (wpAny_mono (h1.run A env V0 h0 Cs X s hA F) (fun kv s₁ q₁ => ?_) fun _ _ q => q)
    refine wpAny_bind (wpAny_mono (h2.run A env V0 h0 Cs X s₁ hA (F.gr q₁.1)) (fun vv s₂ q₂ => wpAny_bind (wpAny_standAt (wpAny_pure ?_))) fun _ _ q => q)
    refine wpAny_mono (ih pos hA ((F.gr q₁.1).gr q₂.1)) (fun ps s₃ q₃ => ?_) fun _ _ q => q
    obtain ⟨g₃, kvv, hc, hk, hr⟩ := q₃
    obtain ⟨g₁, r₁⟩ := q₁
    cases r₁ with
    | str x t => exact ⟨(g₁.trans q₂.1).trans g₃, (S _, vv) :: kvv, ⟨strKind_is c.prog c.w _ t, rfl, hc⟩, by simp [hk], .cons (q₂.2.gr g₃) hr⟩

theorem merged_nodup {kvs : List (Str × Value)} : ∀ (acc : List (Str × Value)), ((acc ++ kvs).map (·.1)).Nodup → merged acc kvs = acc ++ kvs := by
  induction kvs with
  | nil => intro acc _; simp [merged]
  | cons p r ih =>
    intro acc h
    have hst : stored acc p.1 p.2 = acc ++ [p] := by
      unfold stored
      rw [if_neg]
      intro q
      obtain ⟨x, hx, e⟩ := List.any_eq_true.mp q
      have e' : x.1 = p.1 := by simpa using e
      rw [List.map_append, List.nodup_append] at h
      exact h.2.2 x.1 (List.mem_map_of_mem hx) p.1 (by simp) e'
    have := ih (acc ++ [p]) (by simpa using h)
    unfold merged at this ⊢
    rw [List.foldl_cons, hst, this]; simp

theorem repD_of {V s} : ∀ {es : List DictEntry} {kvv : List (Str × Value)} {kvs : List (List Nat × D)}, Pairs (strKind c.prog c.w) es kvv → (∀ e ∈ es, ∃ k, (strKind c.prog c.w).is k e.key = true ∧ e.hash = (strKind c.prog c.w).hash k) →
    kvv.map (·.1) = kvs.map (fun p => S p.1) → RepL c V s (kvs.map (·.2)) (kvv.map (·.2)) → RepD c V s kvs es
  | _, _, [], .nil, _, _, _ => .nil
  | _, _, (x, d) :: kvs, .cons (e := e) hk hv hp, hh, hn, hr => by
    simp only [List.map_cons, List.cons.injEq] at hn
    cases hr with
    | cons r rs =>
      obtain ⟨t, et⟩ := (isStrOf_iff c).mp hk
      obtain ⟨k', hk', hhash⟩ := hh e (.head _)
      obtain ⟨t', et'⟩ := (isStrOf_iff c).mp hk'
      rw [hn.1] at et
      rw [et] at et'
      injection et' with et'
      refine .cons et (by rw [hhash, ← et']; rfl) (hv ▸ r) (repD_of hp (fun e he => hh e (.tail _ he)) hn.2 rs)
  | _, _, [], .cons .., _, hn, _ => nomatch hn
  | _, _, _ :: _, .nil, _, hn, _ => nomatch hn

theorem Ev.dict {ks : List (Option Expr)} {vs : List Expr} {pos : Pos} {kvs : List (List Nat × D)} (h : EvP c n sc true ρ ks vs kvs) (hne : kvs ≠ []) (hlen : kvs.length ≤ 15) (hnd : (kvs.map (·.1)).Nodup) : Ev c n sc k ρ (.Dict ks vs pos) (.dict kvs) :=
  Ev.weak <| .mk fun A env V0 h0 Cs X s hA F => by
    have hsh := h.shape pos env
    refine wpAny_with_toks (Nat.le_refl _) (wpAny_Dict_pairs (knd := strKind c.prog c.w) hsh.1 (fun q => hne (List.length_eq_zero_iff.mp (by rw [← hsh.2, q]; rfl))) (by rw [hsh.2]; exact hlen) ?_)
    have g0 := Gr.push (s := s) { cls := .type "dict", data := .dict #[] }
    have hnone := get_size s.heap
    have hd0 : (s.heap.push { cls := .type "dict", data := .dict #[] }).get? s.heap.objs.size = some { cls := .type "dict", data := .dict #[] } := Heap.get?_push_size _ rfl
    refine wpAny_mono (h.wp pos hA (F.addV hnone g0 ⟨_, hd0⟩)) (fun ps s₁ q => ?_) fun _ _ q => fun _ => q
    obtain ⟨g, kvv, hc, hk, hr⟩ := q
    refine ⟨kvv, hc, ⟨_, #[], 0, g.keep _ _ hd0, ⟨rfl, rfl, rfl⟩, rfl, fun e he => by simp at he, .nil, .nil⟩, fun h' hdo hs' => fun ht => ?_⟩
    have hkeep : Keeps s.heap h' := fun b o e => (hs'.2 b fun q => by rw [q, hnone] at e; cases e).trans (g.keep _ _ (g0.keep _ _ e))
    have hndv : (kvv.map (·.1)).Nodup := by
      rw [hk]
      have : ∀ l : List (List Nat × D), (l.map (·.1)).Nodup → (l.map fun p => S p.1).Nodup := by
        intro l hl
        induction l with
        | nil => exact .nil
        | cons x l ih =>
          rw [List.map_cons, List.nodup_cons] at hl ⊢
          refine ⟨fun q => ?_, ih hl.2⟩
          obtain ⟨y, hy, e⟩ := List.mem_map.mp q
          exact hl.1 (List.mem_map.mpr ⟨y, hy, S_inj e⟩)
      exact this kvs hnd
    rw [merged_nodup [] (by simpa using hndv), List.nil_append] at hdo
    obtain ⟨o, es, ep, ho, hx, hdt, hkeys, hpairs, _⟩ := hdo
    have hlive := ((F.st true).live)
    have hvn : ¬ VK true V0 X s.heap.objs.size := fun q => by obtain ⟨o', e⟩ := hlive _ q; rw [hnone] at e; cases e
    have hsys : (s.heap.objs.size == sysModules) = false := by
      obtain ⟨_, _, _, e, _⟩ := (F.good.g.keeps F.base).keeps F.keep
      have := Heap.lt_size e
      have h3 : (3 : Nat) < s.heap.objs.size := this
      have : s.heap.objs.size ≠ (1 : Nat) := by omega
      simpa [sysModules] using this
    refine ⟨⟨hkeep, ht, g.gens, g.os⟩, .dict hvn hsys ho hx hdt (repD_of hpairs (fun e he => hkeys e (Array.mem_toList_iff.mp he)) hk ?_)⟩
    refine hr.calm ⟨Nat.le_add_right _ _, fun b o nb e _ => (hs'.2 b fun q => nb ⟨rfl, .inl (.inr q)⟩).trans e⟩ fun a q => ⟨rfl, q.2.imp .inl id⟩

/- text.partition -/
end
end Mine
namespace Mine

theorem code_comp {c : Cx} {A : Around} {s : Shared} {R : Result → Shared → Prop} {elt target iter : Expr} {ifs : List Expr} {scope : Scope} {pos : Pos} {it acc : Value} {env : Env} (I : Nat → Shared → Prop)
    (turn : ∀ n s, I n s → wpAny c.M A (pyNext it) (fun r s₁ => match r with
      | none => R (.ok .next) s₁
      | some v => wpAny c.M A (letOwnedTupleGo target it v) (fun _ s₁' => wpAny c.M A (assign target env v) (fun _ s₂ =>
          wpAny c.M A (forIn ifs true fun c r => if r = true then do let ok ← isTrue c env (eval c env); pure (ForInStep.yield ok) else pure (ForInStep.yield r)) (fun ok s₃ =>
            if ok = true then wpAny c.M A (eval elt env) (fun x s₄ => wpAny c.M A (call (.builtin "list.append") [acc, x]) (fun _ s₅ => ∃ m, m < n ∧ I m s₅) NoE s₄) NoE s₃
            else ∃ m, m < n ∧ I m s₃) NoE s₂) NoE s₁') NoE s₁) NoE s)
    (n : Nat) (h : I n s) : codeAny c.M A (.compLoop (.ListComp elt [⟨target, iter, ifs, 0⟩] scope pos) 0 it acc env) R s := by
  refine codeAny_loop rfl I (fun n s hI => ?_) n h
  show wpAny _ A ((compTurn (.ListComp elt [⟨target, iter, ifs, 0⟩] scope pos) 0 it acc env).onRaise (fun x => do noteFrame x env; theTreesLotGoes x)) _ _ s
  refine wpAny_noted ?_
  rw [compTurn_list]
  refine wpAny_bind (wpAny_standAt (wpAny_bind (wpAny_mono (turn n s hI) (fun r s₁ h₁ => ?_) fun _ _ h' => h'.elim)))
  cases r with
  | none => exact wpAny_pure h₁
  | some v =>
    refine wpAny_bind (wpAny_mono h₁ (fun _ s₁' h₁' => ?_) fun _ _ h' => h'.elim)
    refine wpAny_bind (wpAny_mono h₁' (fun _ s₂ h₂ => wpAny_bind (wpAny_mono h₂ (fun ok s₃ h₃ => ?_) fun _ _ h' => h'.elim)) fun _ _ h' => h'.elim)
    cases ok with
    | true =>
      rw [if_pos rfl] at h₃ ⊢
      refine wpAny_bind (wpAny_bind (wpAny_mono h₃ (fun x s₄ h₄ => wpAny_bind (wpAny_mono h₄ (fun _ s₅ h₅ => wpAny_pure (wpAny_pure ⟨rfl, h₅⟩)) fun _ _ h' => h'.elim)) fun _ _ h' => h'.elim))
    | false =>
      rw [if_neg Bool.false_ne_true] at h₃ ⊢
      exact wpAny_pure ⟨rfl, h₃⟩

theorem ItAt.self {c : Cx} {V s it ds} {A : Around} {E : Value → Shared → Prop} {Q : Value → Shared → Prop} (h : ItAt c V s it ds) (hq : Q (.ref it) s) : wpAny c.M A (pyIter (.ref it)) Q E s := by
  cases h with
  | list h => exact wpAny_pyIter_listiter h hq
  | tuple h => exact wpAny_pyIter_tupleiter h hq
  | range h => exact wpAny_pyIter_rangeiter h hq
  | ascii h => exact wpAny_pyIter_striter_ascii h hq
  | wide h => exact wpAny_pyIter_striter_wide h hq

theorem Obj.dict_mapSeq (o : Obj) (f) : (o.mapSeq f).dict = o.dict ∧ (o.mapSeq f).slots = o.slots := by
  obtain ⟨c, d, dt, sl⟩ := o; cases dt <;> exact ⟨rfl, rfl⟩

/-- a list with one more -/
theorem append_wp {prog : Program} {w : World} {A : Around} {E : Value → Shared → Prop} {s : Shared} {l : Addr} {o : Obj} {items : Array Value} {nn : Nat} {x : Value} {Q : Value → Shared → Prop} (ho : s.heap.get? l = some o) (hc : o.cls = .type "list") (hdc : o.dict = none ∧ o.slots = #[]) (hd : o.data = .seq items nn)
    (hQ : ∀ h' o' n', h'.get? l = some o' → o'.cls = .type "list" → (o'.dict = none ∧ o'.slots = #[]) → o'.data = .seq (items.push x) n' → Heap.SameBut l s.heap h' → Q .none { s with heap := h' }) (hsz : items.size ≤ 16777216) :
    wpAny (model prog w) A (call (.builtin "list.append") [.ref l, x]) Q E s := by
  have hT : s.TypeIs (.ref l) "list" := ⟨o, ho, hc⟩
  obtain ⟨n', hd'⟩ := Obj.data_mapSeq hd (·.push x)
  refine wpAny_call_entry slot_list_append hT entry_list_append ?_ (args_list_append _ _)
  show wpAny _ _ (updateSeq l (·.push x) >>= fun _ => ret .none) _ _ s
  refine wpAny_bind ?_
  refine wpAny_updateSeq ho hd (wpAny_pure ⟨.none, rfl, hQ _ _ n' (Heap.get?_update_self _ ho (Obj.isFreed_of_seq hd')) ((Obj.cls_mapSeq ..).trans hc) ⟨(Obj.dict_mapSeq ..).1.trans hdc.1, (Obj.dict_mapSeq ..).2.trans hdc.2⟩ hd' (Heap.SameBut.update ..)⟩) (by rw [sizeLine_eq]; exact hsz)

/-- the cells that a comprehension takes along -/
theorem closure_of {scope : Scope} {env : Env} (h : ∀ p ∈ scope.names, p.2 = .free → ∃ a, env.cells.lookup p.1 = some a) :
    ∃ cl, closureFor scope env = pure cl ∧ (∀ p ∈ scope.names, p.2 = .free → cl.lookup p.1 = env.cells.lookup p.1) ∧ (∀ x a, cl.lookup x = some a → env.cells.lookup x = some a) := by
  unfold closureFor
  have key : ∀ (names : List (Str × NameKind)) (acc : List (Str × Addr)), (∀ p ∈ names, p.2 = .free → ∃ a, env.cells.lookup p.1 = some a) → (∀ x a, acc.lookup x = some a → env.cells.lookup x = some a) →
      ∃ cl, (forIn names acc fun (x : Str × NameKind) (cs : List (Str × Addr)) => match x with
        | (name, kind) => if (kind == NameKind.free) = true then do let a ← cellOf env name; pure (ForInStep.yield ((name, a) :: cs)) else pure (ForInStep.yield cs) : Sem (List (Str × Addr))) = pure cl ∧
        (∀ p ∈ names, p.2 = .free → cl.lookup p.1 = env.cells.lookup p.1) ∧ (∀ x a, acc.lookup x = some a → cl.lookup x = some a) ∧ (∀ x a, cl.lookup x = some a → env.cells.lookup x = some a) := by
    intro names
    induction names with
    | nil => intro acc _ ha; exact ⟨acc, rfl, (fun p hp => nomatch hp), fun _ _ q => q, ha⟩
    | cons p r ih =>
      intro acc hn ha
      obtain ⟨name, kind⟩ := p
      rw [List.forIn_cons]
      by_cases hk : kind = .free
      · subst hk
        obtain ⟨a, he⟩ := hn _ (.head _) rfl
        have hc : cellOf env name = pure a := by unfold cellOf; rw [he]
        have hacc : ∀ x b, ((name, a) :: acc).lookup x = some b → env.cells.lookup x = some b := fun x b q => by
          rw [List.lookup_cons] at q
          by_cases hx : x = name
          · subst hx; simp only [beq_self_eq_true] at q; cases q; exact he
          · have : (x == name) = false := by simpa using hx
            rw [this] at q; exact ha x b q
        obtain ⟨cl, e, h1, h2, h3⟩ := ih ((name, a) :: acc) (fun p hp => hn p (.tail _ hp)) hacc
        refine ⟨cl, ?_, fun p hp hf => ?_, fun x b q => ?_, h3⟩
        · simp only [beq_self_eq_true, if_true, hc]
          exact e
        · rcases List.mem_cons.mp hp with rfl | hp
          · rw [he]; exact h2 name a (by simp [List.lookup_cons])
          · exact h1 p hp hf
        · by_cases hx : x = name
          · subst hx
            have hb := ha x b q
            rw [he] at hb; cases hb
            exact h2 x a (by simp [List.lookup_cons])
          · refine h2 x b ?_
            have : (x == name) = false := by simpa using hx
            rw [List.lookup_cons, this]; exact q
      · have hb : (kind == NameKind.free) = false := by simpa using hk
        obtain ⟨cl, e, h1, h2, h3⟩ := ih acc (fun p hp => hn p (.tail _ hp)) ha
        refine ⟨cl, ?_, fun p hp hf => ?_, h2, h3⟩
        · simp only [hb, Bool.false_eq_true, if_false]
          exact e
        · rcases List.mem_cons.mp hp with rfl | hp
          · exact absurd hf hk
          · exact h1 p hp hf
  obtain ⟨cl, e, h1, _, h3⟩ := key scope.names [] h fun _ _ q => by cases q
  refine ⟨cl, ?_, h1, h3⟩
  have := e
  simp only [bind_pure] 
  exact this

/-- a change at a place that nothing of the frame holds -/
theorem Fm.change {c sc env V0 h0 Cs X ρ s} {a : Addr} {h' : Heap} (F : Fm c sc env V0 h0 Cs X ρ s) (ha : V0 a) (hn : h0.get? a = none) (hs : Heap.SameBut a s.heap h') (hl : ∃ o, h'.get? a = some o)
    (hc : ∀ o v, s.heap.get? a = some o → o.data ≠ .cell v) : Fm c sc env V0 h0 Cs X ρ { s with heap := h' } := by
  have hx := (F.live0 a ha).2
  obtain ⟨m, fps, h1, h2, h3, h4, h6, h5⟩ := F.sto
  have hLX : env.locals ∈ X := h2 ▸ .head _
  have ne : ∀ b ∈ X, b ≠ a := fun b hb q => hx (q ▸ hb)
  refine ⟨F.good, F.scope, F.kind, F.globals, F.builtins, F.base, fun b o e => (hs.2 b fun q => by rw [q, hn] at e; cases e).trans (F.keep b o e), F.tok, fun b q => ⟨?_, (F.live0 b q).2⟩, F.ccells, F.new, F.cells, F.cinj,
    m, fps, h1.sameBut hs (ne _ hLX), h2, h3, fun b hb => let ⟨o, e⟩ := h4 b hb; ⟨o, (hs.2 b (ne b hb)).trans e⟩, fun p hp => ?_, ?_⟩
  · by_cases hb : b = a
    · subst hb; exact hl
    · obtain ⟨o, e⟩ := (F.live0 b q).1; exact ⟨o, (hs.2 b hb).trans e⟩
  · obtain ⟨v, o, e, hd⟩ := h6 p hp
    exact ⟨v, o, (hs.2 _ fun q => hc o v (q ▸ e) hd).trans e, hd⟩
  · refine h5.change (s := s) (s' := { s with heap := h' }) ⟨Nat.le_refl _, fun b o nb e _ => (hs.2 b fun q => nb (.inl (q ▸ ha))).trans e⟩ (fun b hb o e => (hs.2 b (ne b (h2 ▸ .tail _ (List.mem_append_right _ hb)))).trans e) (fun _ _ _ => rfl)
      fun p _ b o w _ e hw => (hs.2 b fun q => hc o w (q ▸ e) hw).trans e

noncomputable def relab (sc scope : Scope) : Scope := { scope with names := scope.names.map fun (n, k) => if (k == .free && sc.kind == .function && sc.names.lookup n == some .cell) then (n, .cell) else (n, k) }

theorem relab_free {sc scope : Scope} {x : Str} : ∀ {names : List (Str × NameKind)}, names.lookup x = some .free →
    (names.map fun (n, k) => if (k == NameKind.free && sc.kind == .function && sc.names.lookup n == some .cell) then (n, NameKind.cell) else (n, k)).lookup x = some .cell ∨
    (names.map fun (n, k) => if (k == NameKind.free && sc.kind == .function && sc.names.lookup n == some .cell) then (n, NameKind.cell) else (n, k)).lookup x = some .free
  | [], h => by cases h
  | (y, k) :: r, h => by
    rw [List.lookup_cons] at h
    by_cases hy : x = y
    · subst hy
      simp only [beq_self_eq_true] at h
      cases h
      simp only [List.map_cons]
      split <;> simp [List.lookup_cons]
    · have hb : (x == y) = false := by simpa using hy
      rw [hb] at h
      have := relab_free (sc := sc) (scope := scope) h
      simp only [List.map_cons]
      split <;> simpa [List.lookup_cons, hb] using this

theorem relab_mem {sc scope : Scope} {x : Str} {k : NameKind} (hk : k = .cell ∨ k = .free) (hnc : ∀ p ∈ scope.names, p.2 ≠ .cell) (h : (relab sc scope).names.lookup x = some k) : (x, NameKind.free) ∈ scope.names := by
  have hm := mem_lookup h
  obtain ⟨p, hp, e⟩ := List.mem_map.mp hm
  obtain ⟨y, ky⟩ := p
  simp only at e
  split at e
  · rename_i hc
    simp only [Bool.and_eq_true, beq_iff_eq] at hc
    injection e with e1 e2
    subst e1
    rw [← hc.1.1]; exact hp
  · injection e with e1 e2
    subst e1 e2
    rcases hk with rfl | rfl
    · exact absurd rfl (hnc _ hp)
    · exact hp

/-- tests of a comprehension -/
structure TstI (c : Cx) (n : Nat) (sc : Scope) (ρ : Sto) (ifs : List Expr) (b : Bool) : Prop where
  run : ∀ A env V0 h0 Cs X s, Room c n A → Fm c sc env V0 h0 Cs X ρ s →
    wpAny c.M A (forIn ifs true fun c r => if r = true then do let ok ← isTrue c env (eval c env); pure (ForInStep.yield ok) else pure (ForInStep.yield r)) (fun r s' => Gr s s' ∧ r = b) NoE s
theorem TstI.nil {c n sc ρ} : TstI c n sc ρ [] true := .mk fun A env V0 h0 Cs X s _ _ => wpAny_tests_nil ⟨.refl s, rfl⟩
/-- one turn of a comprehension -/
noncomputable def CItem (c : Cx) (n : Nat) (sc : Scope) (ρ : Sto) (tgt : Expr) (ifs : List Expr) (elt : Expr) (d : D) (r : Option D) : Prop :=
  ∃ ρ₁, TgtG false c sc tgt d ρ ρ₁ ∧ SubS ρ ρ₁ ∧ match r with
    | some x => TstI c n sc ρ₁ ifs true ∧ Ev c n sc true ρ₁ elt x
    | none => TstI c n sc ρ₁ ifs false

/-- what a comprehension sees of the names around -/
structure Capt (sc scope : Scope) (ρ ρi : Sto) : Prop where
  kind : scope.kind = .function
  nocell : ∀ p ∈ scope.names, p.2 ≠ .cell
  names : ∀ x ∈ scope.names, x.2 = .local → scope.names.lookup x.1 = some .local
  free : ∀ p ∈ scope.names, p.2 = .free → sc.names.lookup p.1 = some .cell ∨ sc.names.lookup p.1 = some .free
  sto : ∀ p ∈ ρi, ∃ d, p.2 = .val d ∧ ρ.lookup p.1 = some (.val d) ∧ scope.names.lookup (Str.ofString p.1) = some .free ∧ p.1 ≠ "__classdict__"

section
variable {c : Cx} {n : Nat} {sc : Scope} {k : Bool} {ρ : Sto}

theorem StoR.vals {env : Env} {V : Addr → Prop} {s : Shared} {m : Str → Option Value} : ∀ {ρ fps}, StoR c env V s m ρ fps → (∀ p ∈ ρ, ∃ d, p.2 = .val d) → fps = []
  | _, _, .nil, _ => rfl
  | _, _, .cons l r rs, h => by
    obtain ⟨d, e⟩ := h _ (.head _)
    simp only at e
    subst e
    cases r with
    | val r => rw [rs.vals fun p hp => h p (.tail _ hp)]; rfl

/-- where a comprehension has come to -/
structure CDone (c : Cx) (V : Addr → Prop) (s : Shared) (Dd C : Addr) (rs : List D) (s' : Shared) : Prop where
  keep : Keeps s.heap s'.heap
  tok : s.toks ≤ s'.toks
  gens : s'.gens = s.gens
  os : s'.os = s.os
  ns : ∃ m, s'.heap.Ns C m
  lst : ∃ o vs nn, s'.heap.get? Dd = some o ∧ o.cls = .type "list" ∧ (o.dict = none ∧ o.slots = #[]) ∧ o.data = .seq vs nn ∧ RepL c (fun a => V a ∨ a = Dd ∨ a = C) s' rs vs.toList

theorem ItAt.carry {V V' : Addr → Prop} {s s' : Shared} {it : Addr} {ds : List D} (h : ItAt c V s it ds) (hk : ∀ o, s.heap.get? it = some o → s'.heap.get? it = some o)
    (hl : ∀ l o, ¬ V l → s.heap.get? l = some o → ¬ V' l ∧ s'.heap.get? l = some o) (hr : ∀ {dd vv}, RepL c V s dd vv → RepL c V' s' dd vv) : ItAt c V' s' it ds := by
  cases h with
  | list i1 nl ho hc hd r => obtain ⟨oi, e1, e2⟩ := i1; exact .list ⟨oi, hk _ e1, e2⟩ (hl _ _ nl ho).1 (hl _ _ nl ho).2 hc hd (hr r)
  | tuple i1 nl ho hc hd r => obtain ⟨oi, e1, e2⟩ := i1; exact .tuple ⟨oi, hk _ e1, e2⟩ (hl _ _ nl ho).1 (hl _ _ nl ho).2 hc hd (hr r)
  | range i1 => exact .range (hk _ i1)
  | ascii i1 => obtain ⟨oi, e1, e2⟩ := i1; exact .ascii ⟨oi, hk _ e1, e2⟩
  | wide i1 => obtain ⟨oi, e1, e2⟩ := i1; exact .wide ⟨oi, hk _ e1, e2⟩

theorem comp_core {elt tgt iter : Expr} {ifs : List Expr} {scope : Scope} {pos p : Pos} {d₀ : D} {α : Type} {g : α → D} {ds : List α} {f : α → Option D} {ρi : Sto} {use : Option (Value → Sem Unit)} {A : Around} {env : Env} {V0 : Addr → Prop} {h0 : Heap} {Cs : List (Str × Addr)} {X : List Addr} {s : Shared}
    {Q : Value → Shared → Prop}
    (hA : Room c n A) (F : Fm c sc env V0 h0 Cs X ρ s) (he : Ev c n sc true ρ iter d₀) (hit : IterR c d₀ (ds.map g)) (hc : Capt sc scope ρ ρi) (hz : ds.length ≤ 16777216)
    (item : ∀ d ∈ ds, CItem c n (relab sc scope) ρi tgt ifs elt (g d) (f d)) (hs : ∀ (env : Env) x, foldedSetIterable iter env x = pure x)
    (fin : ∀ Dd C s', s.heap.get? Dd = none → s.heap.get? C = none → Dd ≠ C → CDone c (Vol V0 X) s Dd C (ds.filterMap f) s' → compPost c.M A NoE use Q (.ref Dd) C (.ok .next) s') (hn : c.hn := by assumption) :
    wpAny c.M A (comprehension (.ListComp elt [⟨tgt, iter, ifs, 0⟩] scope pos) scope env p (newList []) false (eval iter env) use) Q NoE s := by
  obtain ⟨cl, hcl, hclf, hcle⟩ := closure_of (scope := scope) (env := env) fun p hp hf => F.ccells _ (hc.free p hp hf)
  refine wpAny_comprehension_free (use := use) rfl (hs env) hcl hc.kind hc.names (wpAny_mono (he.run A env V0 h0 Cs X s hA F) (fun xv s₁ q₁ => ?_) fun _ _ q => q)
  refine wpAny_mono (hit A _ s₁ xv hA.zero ((F.st true).gr q₁.1) q₁.2) (fun itv s₂ q₂ => ?_) fun _ _ q => q
  obtain ⟨g₂, it, rfl, hitn, hi⟩ := q₂
  have hV : VK true V0 X = Vol V0 X := by funext a; simp [VK]
  rw [hV] at hi
  have g12 := q₁.1.trans g₂
  have hits : s.heap.get? it = none := by
    cases e : s.heap.get? it with
    | none => rfl
    | some o => have := q₁.1.keep _ _ e; rw [hitn] at this; cases this
  -- the list to be filled
  refine wpAny_newObj_type (wpAny_newFunctionEnv hc.nocell (by intro y hy; simp at hy) (fun h₁ hns₁ hsb₁ => ?_) hc.kind)
  dsimp only at hns₁ hsb₁ ⊢
  have hDn : s₂.heap.get? s₂.heap.objs.size = none := get_size _
  generalize hH : s₂.heap.push { cls := .type "list", dict := none, data := .seq ([] : List Value).toArray } = H2 at hns₁ hsb₁ ⊢
  have hC : H2.objs.size = s₂.heap.objs.size + 1 := by rw [← hH, Heap.size_push]
  have hCn2 : s₂.heap.get? H2.objs.size = none := by
    cases e : s₂.heap.get? H2.objs.size with
    | none => rfl
    | some o => have := Heap.lt_size e; rw [hC] at this; exact absurd this (Nat.not_lt.mpr (Nat.le_succ _))
  have hDC : s₂.heap.objs.size ≠ H2.objs.size := by rw [hC]; exact Nat.ne_of_lt (Nat.lt_succ_self _)
  have hDh1 : h₁.get? s₂.heap.objs.size = some { cls := .type "list", dict := none, data := .seq ([] : List Value).toArray } := by
    refine (hsb₁.2 _ hDC).trans (Heap.get?_push_of_some _ ?_)
    rw [← hH]; exact Heap.get?_push_size _ rfl
  have hk1 : Keeps s₂.heap h₁ := fun b o e => (hsb₁.2 b fun q => by rw [q, hCn2] at e; cases e).trans (Heap.get?_push_of_some _ (hH ▸ Heap.get?_push_of_some _ e))
  generalize s₂.heap.objs.size = Dd at hDn hDC hDh1 ⊢
  generalize H2.objs.size = C at hns₁ hCn2 hDC ⊢
  have hDs : s.heap.get? Dd = none := by
    cases e : s.heap.get? Dd with
    | none => rfl
    | some o => have := g12.keep _ _ e; rw [hDn] at this; cases this
  have hCs' : s.heap.get? C = none := by
    cases e : s.heap.get? C with
    | none => rfl
    | some o => have := g12.keep _ _ e; rw [hCn2] at this; cases this
  -- the names inside
  have hF2 := F.gr g12
  have g23 : Gr s₂ { s₂ with heap := h₁, toks := s₂.toks + ([] : List (Str × Value)).length } := ⟨hk1, Nat.le_add_right _ _, rfl, rfl⟩
  have hDX : Dd ∉ X := fun q => by
    obtain ⟨_, _, _, _, _, h4, _, _⟩ := hF2.sto
    obtain ⟨o, e⟩ := h4 _ q; rw [hDn] at e; cases e
  have hCX : C ∉ X := fun q => by
    obtain ⟨_, _, _, _, _, h4, _, _⟩ := hF2.sto
    obtain ⟨o, e⟩ := h4 _ q; rw [hCn2] at e; cases e
  have hCV : ¬ V0 C := fun q => by obtain ⟨o, e⟩ := (hF2.live0 C q).1; rw [hCn2] at e; cases e
  have hDV : ¬ V0 Dd := fun q => by obtain ⟨o, e⟩ := (hF2.live0 Dd q).1; rw [hDn] at e; cases e
  let Vi : Addr → Prop := fun a => Vol V0 X a ∨ a = Dd
  have hCo : ∃ oC, h₁.get? C = some oC ∧ ∃ es ep, oC.data = .dict es ep := let ⟨o, es, ep, e, hd, _⟩ := hns₁; ⟨o, e, es, ep, hd⟩
  have Fi : Fm c (relab sc scope) (compEnvC scope cl C env) Vi s.heap [] [C] ρi { s₂ with heap := h₁, toks := s₂.toks + ([] : List (Str × Value)).length } := by
    refine ⟨F.good, ?_, hc.kind, F.globals, F.builtins, F.base.trans F.keep, g12.keep.trans hk1, (hF2.gr g23).tok, fun a q => ?_, fun x hx => ?_, fun a ha => ?_, (fun _ _ q => nomatch q), fun x y a hx hy => F.cinj _ _ _ (hcle _ _ hx) (hcle _ _ hy), ⟨_, [], hns₁, by simp [compEnvC], by simp, fun a ha => ?_, (fun p hp => nomatch hp), ?_⟩⟩
    · show relabel scope env = relab sc scope
      unfold relabel relab
      rw [← F.scope]; rfl
    · rcases q with q | rfl
      · refine ⟨?_, fun q' => ?_⟩
        · rcases q with q | q
          · obtain ⟨o, e⟩ := (hF2.live0 a q).1; exact ⟨o, hk1 _ _ e⟩
          · obtain ⟨_, _, _, _, _, h4, _, _⟩ := hF2.sto
            obtain ⟨o, e⟩ := h4 _ q; exact ⟨o, hk1 _ _ e⟩
        · rw [List.mem_singleton] at q'; subst q'
          exact q.elim hCV hCX
      · exact ⟨⟨_, hDh1⟩, fun q' => hDC (List.mem_singleton.mp q')⟩
    · have hm := hx.elim (fun h => relab_mem (.inl rfl) hc.nocell h) fun h => relab_mem (.inr rfl) hc.nocell h
      obtain ⟨a, ha⟩ := F.ccells _ (hc.free _ hm rfl)
      exact ⟨a, (hclf _ hm rfl).trans ha⟩
    · rw [List.mem_singleton] at ha; subst ha; exact hCs'
    · rw [List.mem_singleton] at ha; subst ha
      obtain ⟨o, e, _⟩ := hCo; exact ⟨o, e⟩
    · -- the captured names
      obtain ⟨m, fps, hn, hXX, hnd, hlv, hcel, hst⟩ := F.sto
      have key : ∀ (r : Sto), (∀ p ∈ r, p ∈ ρi) → StoR c (compEnvC scope cl C env) (Vol Vi [C]) { s₂ with heap := h₁, toks := s₂.toks + ([] : List (Str × Value)).length } (fun x => ([] : List (Str × Value)).reverse.lookup x) r [] := by
        intro r
        induction r with
        | nil => intro _; exact .nil
        | cons p r ih =>
          intro hp
          obtain ⟨x, sl⟩ := p
          obtain ⟨d, hd, hl, hfr, hcd⟩ := hc.sto _ (hp _ (.head _))
          simp only at hd hl hfr hcd
          subst hd
          obtain ⟨v, fp, lo, rp, _⟩ := hst.get hl
          cases rp with
          | val rp =>
            refine .cons (fp := []) (v := v) ?_ (.val ?_) (ih fun p hp' => hp p (.tail _ hp'))
            · have hm := mem_lookup hfr
              have hkk := hc.free _ hm rfl
              cases lo with
              | loc h1 _ =>
                have h1' : sc.names.lookup (Str.ofString x) = some .local := by rw [← F.scope]; exact h1
                rw [h1'] at hkk
                rcases hkk with q | q <;> cases q
              | @cell a o h1 h2 h3 h4 =>
                refine .cell (a := a) (o := o) ?_ ((hclf _ hm rfl).trans h2) (hk1 _ _ (g12.keep _ _ h3)) h4
                have hrl : (relabel scope env).names.lookup (Str.ofString x) = some .cell ∨ (relabel scope env).names.lookup (Str.ofString x) = some .free := relab_free (sc := env.scope) (scope := scope) hfr
                exact hrl.imp id fun q => ⟨q, hcd⟩
            · have r2 : Rep c (fun a => Vol V0 X a ∨ (a = Dd ∨ a = C)) s d v := rp.ext fun a q => by
                rcases q with rfl | rfl
                · exact hDs
                · exact hCs'
              refine (r2.gr (g12.trans g23)).weak fun a q => ?_
              rcases q with (q | q) | q
              · exact .inl q
              · exact .inr (.inl q)
              · exact .inr (.inr (List.mem_singleton.mp q))
      exact key ρi fun _ h => h
  -- the loop
  have hitX : it ∉ X := fun q => by
    obtain ⟨_, _, _, _, _, h4, _, _⟩ := F.sto
    obtain ⟨o, e⟩ := h4 _ q; rw [hits] at e; cases e
  have hitV : ¬ V0 it := fun q => by obtain ⟨o, e⟩ := (F.live0 it q).1; rw [hits] at e; cases e
  have hitalive : ∃ o, s₂.heap.get? it = some o := let ⟨o, _, _, e, _⟩ := hi.fields; ⟨o, e⟩
  have hitD : it ≠ Dd := fun q => by obtain ⟨o, e⟩ := hitalive; rw [q, hDn] at e; cases e
  have hitC : it ≠ C := fun q => by obtain ⟨o, e⟩ := hitalive; rw [q, hCn2] at e; cases e
  have loop : codeAny c.M A (.compLoop (.ListComp elt [⟨tgt, iter, ifs, 0⟩] scope pos) 0 (.ref it) (.ref Dd) (compEnvC scope cl C env)) (compPost c.M A NoE use Q (.ref Dd) C) { s₂ with heap := h₁, toks := s₂.toks + ([] : List (Str × Value)).length } := by
    refine code_comp (fun kk s' => ∃ done rest, ds = done ++ rest ∧ kk = rest.length ∧ Keeps s.heap s'.heap ∧ s'.gens = s.gens ∧ s'.os = s.os ∧ s.toks ≤ s'.toks ∧
      Fm c (relab sc scope) (compEnvC scope cl C env) Vi s.heap [] [C] ρi s' ∧ ItAt c (Vol Vi [C]) s' it (rest.map g) ∧
      (∃ o vs nn, s'.heap.get? Dd = some o ∧ o.cls = .type "list" ∧ (o.dict = none ∧ o.slots = #[]) ∧ o.data = .seq vs nn ∧ RepL c (Vol Vi [C]) s' (done.filterMap f) vs.toList)) ?_ ds.length ?_
    · rintro kk s' ⟨done, rest, rfl, rfl, hk, hg, hos, htk, F', hi', hl'⟩
      have hitCC : it ∉ [C] := fun q => hitC (List.mem_singleton.mp q)
      have hitVi : ¬ Vi it := fun q => q.elim (fun q => q.elim hitV hitX) hitD
      obtain ⟨o, vs, nn, hl1, hl2, hl3, hl4, hl5⟩ := hl'
      have step : ∀ s₃, ItStep it s' s₃ → Keeps s.heap s₃.heap ∧ s₃.gens = s.gens ∧ s₃.os = s.os ∧ s.toks ≤ s₃.toks ∧ Fm c (relab sc scope) (compEnvC scope cl C env) Vi s.heap [] [C] ρi s₃ ∧
          s₃.heap.get? Dd = some o ∧ RepL c (Vol Vi [C]) s₃ (done.filterMap f) vs.toList := fun s₃ t =>
        ⟨fun b o e => t.keep b o (fun q => by rw [q, hits] at e; cases e) (hk b o e), t.gens.trans hg, t.os.trans hos, Nat.le_trans htk t.tok, F'.it hi' hitCC hits hitVi t, t.keep _ _ (Ne.symm hitD) hl1, hl5.calm (t.calm hi' _) fun _ q => q⟩
      cases rest with
      | nil =>
        refine wpAny_mono (ItAt.stop (hA.handled hn) hi') (fun r s₃ q => ?_) fun _ _ q => q
        obtain ⟨rfl, t⟩ := q
        obtain ⟨k1, k2, k3, k4, F₃, k5, k6⟩ := step s₃ t
        obtain ⟨m₃, _, n₃, _⟩ := F₃.sto
        refine fin Dd C s₃ hDs hCs' hDC ⟨k1, k4, k2, k3, ⟨m₃, n₃⟩, o, vs, nn, k5, hl2, hl3, hl4, ?_⟩
        have := k6.weak (V' := fun a => Vol V0 X a ∨ a = Dd ∨ a = C) fun a q => by
          rcases q with q | q | q
          · exact .inl (.inl q)
          · exact .inl (.inr q)
          · exact .inr (List.mem_singleton.mpr q)
        simpa using this
      | cons d rest =>
        refine wpAny_mono (ItAt.next hi') (fun r s₃ q => ?_) fun _ _ q => q
        obtain ⟨v, rfl, rv, hi₃, t⟩ := q
        obtain ⟨k1, k2, k3, k4, F₃, k5, k6⟩ := step s₃ t
        obtain ⟨ρ₁, htg, hsub, hm⟩ := item d (List.mem_append_right _ (.head _))
        refine lotg hi₃ (wpAny_mono (htg.run A (compEnvC scope cl C env) Vi s.heap [] [C] s₃ v hA.zero (fun q => nomatch q) F₃ rv) (fun _ s₄ q => ?_) fun _ _ q => q)
        obtain ⟨X₄, g₄, F₄⟩ := q
        have alive : ∃ o, s₃.heap.get? it = some o := let ⟨o, _, _, e, _⟩ := hi₃.fields; ⟨o, e⟩
        -- behind the tests, and behind a value
        have fresh4 : ∀ b ∈ X₄, b = C ∨ s₃.heap.get? b = none := fun b hb => (g₄.new b hb).imp List.mem_singleton.mp id
        have hD4 : Dd ∉ [C] := fun q => hDC (List.mem_singleton.mp q)
        have hl4' : s₄.heap.get? Dd = some o := g₄.keep _ _ hD4 k5
        have back : ∀ s₅, Gr s₄ s₅ → Keeps s.heap s₅.heap ∧ s₅.gens = s.gens ∧ s₅.os = s.os ∧ s.toks ≤ s₅.toks ∧ Fm c (relab sc scope) (compEnvC scope cl C env) Vi s.heap [] [C] ρi s₅ ∧ ItAt c (Vol Vi [C]) s₅ it (rest.map g) ∧
            s₅.heap.get? Dd = some o ∧ RepL c (Vol Vi [C]) s₅ (done.filterMap f) vs.toList := fun s₅ g₅ => by
          obtain ⟨X₅, hX₅, F₅⟩ := Ent.sub (c := c) (sc := relab sc scope) hsub (compEnvC scope cl C env) Vi s.heap [] X₄ s₅ (F₄.gr g₅)
          have hfps : X₅ = [C] := by
            obtain ⟨_, fps, _, h2, _, _, _, h5⟩ := F₅.sto
            rw [h2, h5.vals fun p hp => let ⟨d, e, _⟩ := hc.sto p hp; ⟨d, e⟩]; rfl
          subst hfps
          have g45 : Stp [C] s₃ [C] s₅ := (g₄.trans (Stp.of_gr g₅)).sub' hX₅
          refine ⟨fun b o e => g₅.keep _ _ (g₄.keep b o (fun q => by rw [List.mem_singleton.mp q, hCs'] at e; cases e) (k1 b o e)), (g₅.gens.trans g₄.gens).trans k2, (g₅.os.trans g₄.os).trans k3, Nat.le_trans k4 (Nat.le_trans g₄.tok g₅.tok), F₅,
            hi₃.stp hitCC g45, g₅.keep _ _ hl4', k6.stp g45⟩
        cases hf : f d with
        | none =>
          rw [hf] at hm
          refine wpAny_mono (TstI.run hm A _ _ _ _ _ s₄ hA F₄) (fun ok s₅ q => ?_) fun _ _ q => q
          obtain ⟨g₅, rfl⟩ := q
          rw [if_neg Bool.false_ne_true]
          obtain ⟨j1, j2, j3, j4, j5, j6, j7, j8⟩ := back s₅ g₅
          exact ⟨_, Nat.lt_succ_self _, done ++ [d], rest, by simp, rfl, j1, j2, j3, j4, j5, j6, o, vs, nn, j7, hl2, hl3, hl4, by simpa [hf] using j8⟩
        | some r =>
          rw [hf] at hm
          refine wpAny_mono (hm.1.run A _ _ _ _ _ s₄ hA F₄) (fun ok s₅ q => ?_) fun _ _ q => q
          obtain ⟨g₅, rfl⟩ := q
          rw [if_pos rfl]
          refine wpAny_mono (hm.2.run A _ _ _ _ _ s₅ hA (F₄.gr g₅)) (fun x s₆ q => ?_) fun _ _ q => q
          obtain ⟨g₆, rx⟩ := q
          obtain ⟨j1, j2, j3, j4, j5, j6, j7, j8⟩ := back s₆ (g₅.trans g₆)
          refine append_wp j7 hl2 hl3 hl4 (fun h' o' n' a1 a2 a3 a4 a5 => ?_) ?_
          · have hcm : Calm (Vol Vi [C]) s₆ { s₆ with heap := h' } := ⟨Nat.le_refl _, fun b ob nb e _ => (a5.2 b fun q => nb (.inl (.inr q))).trans e⟩
            have hne : ∀ b ob, s.heap.get? b = some ob → b ≠ Dd := fun b ob e q => by rw [q, hDs] at e; cases e
            have hCX4 : C ∈ X₄ := by
              obtain ⟨_, _, _, h2, _⟩ := F₄.sto
              rw [h2]; exact .head _
            refine ⟨_, Nat.lt_succ_self _, done ++ [d], rest, by simp, rfl, fun b ob e => (a5.2 b (hne b ob e)).trans (j1 b ob e), j2, j3, j4, j5.change (.inr rfl) hDs a5 ⟨_, a1⟩ (fun ob w e hw => by rw [j7] at e; cases e; rw [hl4] at hw; cases hw), ?_, o', vs.push x, n', a1, a2, a3, a4, ?_⟩
            · have hnl : ∀ l : Addr, ¬ Vol Vi [C] l → l ≠ Dd := fun l nl q => nl (.inl (.inr q))
              exact j6.carry (fun o e => (a5.2 _ hitD).trans e) (fun l o nl e => ⟨nl, (a5.2 _ (hnl _ nl)).trans e⟩) fun r => r.calm hcm fun _ q => q
            · have rx' : Rep c (Vol Vi [C]) s₆ r x := rx.weak fun a q => ⟨rfl, q.imp id fun q => by rw [List.mem_singleton.mp q]; exact hCX4⟩
              have := (j8.append (.cons rx' .nil)).calm hcm fun _ q => q
              simpa [hf] using this
          · have := hl5.length
            have h2 := List.length_filterMap_le f done
            simp only [List.length_append, List.length_cons] at hz
            have h3 : vs.size = (done.filterMap f).length := by rw [this]; simp
            omega
    · refine ⟨[], ds, rfl, rfl, g12.keep.trans hk1, g12.gens, g12.os, Nat.le_trans g12.tok g23.tok, Fi, ?_, _, _, 0, hDh1, rfl, ⟨rfl, rfl⟩, rfl, .nil⟩
      have gi := g23
      have hv : ∀ l, ¬ Vol V0 X l → (∃ o, s₂.heap.get? l = some o) → ¬ Vol Vi [C] l := fun l nl hal q => by
        obtain ⟨o, e⟩ := hal
        rcases q with (q | q) | q
        · exact nl q
        · rw [q, hDn] at e; cases e
        · rw [List.mem_singleton.mp q, hCn2] at e; cases e
      have hrl : ∀ {dd vv}, RepL c (Vol V0 X) s₂ dd vv → RepL c (Vol Vi [C]) { s₂ with heap := h₁, toks := s₂.toks + ([] : List (Str × Value)).length } dd vv := fun r => by
        have r2 := r.ext (W := fun a => a = Dd ∨ a = C) fun a q => by
          rcases q with rfl | rfl
          · exact hDn
          · exact hCn2
        refine (r2.gr gi).weak fun a q => ?_
        rcases q with (q | q) | q
        · exact .inl q
        · exact .inr (.inl q)
        · exact .inr (.inr (List.mem_singleton.mp q))
      exact hi.carry (fun o e => hk1 _ _ e) (fun l o nl e => ⟨hv _ nl ⟨_, e⟩, hk1 _ _ e⟩) fun r => hrl r
  have hself : wpAny c.M A (pyIter (.ref it)) (fun it' s' => codeAny c.M A (.compLoop (.ListComp elt [⟨tgt, iter, ifs, 0⟩] scope pos) 0 it' (.ref Dd) (compEnvC scope cl C env)) (compPost c.M A NoE use Q (.ref Dd) C) s')
      (notedBy c.M A (compEnvC scope cl C env) fun x s' => compPost c.M A NoE use Q (.ref Dd) C (.error x) s') { s₂ with heap := h₁, toks := s₂.toks + ([] : List (Str × Value)).length } := by
    have hi1 : ItAt c Vol0 { s₂ with heap := h₁, toks := s₂.toks + ([] : List (Str × Value)).length } it (ds.map g) := by
      have w : ∀ {dd vv}, RepL c (Vol V0 X) s₂ dd vv → RepL c Vol0 { s₂ with heap := h₁, toks := s₂.toks + ([] : List (Str × Value)).length } dd vv := fun r => (r.gr g23).weak fun _ q => q.elim
      exact hi.carry (fun o e => hk1 _ _ e) (fun l o nl e => ⟨id, hk1 _ _ e⟩) fun r => w r
    exact hi1.self loop
  exact codeAny_compStart_list loop hself


theorem Ev.comp {elt tgt iter : Expr} {ifs : List Expr} {scope : Scope} {pos : Pos} {d₀ : D} {α : Type} {g : α → D} {ds : List α} (f : α → Option D) (ρi : Sto) (he : Ev c n sc true ρ iter d₀) (hit : IterR c d₀ (ds.map g)) (hc : Capt sc scope ρ ρi) (hz : ds.length ≤ 16777216)
    (item : ∀ d ∈ ds, CItem c n (relab sc scope) ρi tgt ifs elt (g d) (f d)) (hs : ∀ (env : Env) x, foldedSetIterable iter env x = pure x := by intro _ _; rfl) (hn : c.hn := by assumption) : Ev c n sc k ρ (.ListComp elt [⟨tgt, iter, ifs, 0⟩] scope pos) (.list (ds.filterMap f)) :=
  Ev.weak <| .mk fun A env V0 h0 Cs X s hA F => by
    rw [eval_ListComp]
    refine comp_core hA F he hit hc hz item hs fun Dd C s' hD hC hDC h => ?_
    obtain ⟨m, hm⟩ := h.ns
    obtain ⟨o, vs, nn, l1, l2, l3, l4, l5⟩ := h.lst
    have hlv := (F.st true).live
    refine ⟨m, hm, fun h' hs' => ⟨⟨fun b ob e => (hs'.2 b fun q => by rw [q, hC] at e; cases e).trans (h.keep b ob e), h.tok, h.gens, h.os⟩, .list (fun q => ?_) ((hs'.2 _ hDC).trans l1) l2 l3 l4 ?_⟩⟩
    · obtain ⟨o', e⟩ := hlv _ q; rw [hD] at e; cases e
    · exact l5.calm (s := s') (s' := { s' with heap := h' }) ⟨Nat.le_refl _, fun b ob nb e _ => (hs'.2 b fun q => nb (.inr (.inr q))).trans e⟩ fun a q => .inl q.2

end
end Mine
namespace Mine

section
variable {c : Cx} {n : Nat} {sc : Scope} {k : Bool} {ρ : Sto}

theorem FnR.lenL {ds : List D} (h : ds.length ≤ 16777216) : FnR c n (.builtin "len") [.list ds] (.int ds.length) := .mk fun A V s vs _ _ r => by
  cases r with
  | cons r rs => cases rs; cases r with
    | @list a o vs nn _ na ho hcl hd hdt r =>
      have hl := r.length
      simp only [Array.length_toList] at hl
      refine wp_end (PySem.Calls.call_len_list ⟨o, ho, hcl, nn, hdt⟩ (by omega) ⟨fun _ _ e => e, rfl, rfl, fun _ => ?_⟩)
      rw [hl]; exact .int _ _

end
end Mine
namespace Mine

/-- the i-th statement of the text's top, a def -/
noncomputable def fnAt (p : Program) (i : Nat) : Scope × List Stmt := match p.main.body[i]? with
  | some (.FunctionDef _ _ body _ _ _ sc _ _ _) => (sc, body)
  | _ => (⟨.function, [], false, false, []⟩, [])
noncomputable def scAt (p : Program) (i : Nat) : Scope := (fnAt p i).1
noncomputable def bodyAt (p : Program) (i : Nat) : List Stmt := (fnAt p i).2

theorem intsAre_rep {c : Cx} {V : Addr → Prop} {s : Shared} : ∀ {vs ns}, IntsAre vs ns → RepL c V s (ns.map D.int) vs
  | _, _, .nil => .nil
  | _, _, .cons n t r => .cons (.int n t) (intsAre_rep r)

theorem head_end {l : OpenLaw} {w : World} {s₀ s₁ : Shared} {mg mb : Str → Option Value} {p : Program} {lw : List Str} {mean : ExcName → Option Value} {R : WRecords} {cl : Str → Option Addr} {t : Nat} {ns : List Int} {vs : List Value} {a fa : Addr} {as : List Addr} {lsc : Scope → Prop}
    (T : Top p lw mean mg mb s₁.heap) (L : Laid R w s₀ s₁ [ofPy (PyData.list (ns.map PyData.int))] [.ref a] as) (hL : s₁.heap.IsList a vs.toArray) (hI : IntsAre vs ns) (hg : s₁.gens = #[]) (ht : s₀.toks = t) (h0 : 0 < t)
    (h : FnT ⟨l.row.prog, w, s₁.heap, mg, mb, lsc, True⟩ 40 (.ref fa) [.list (ns.map .int)] (.bool true)) :
    wpAny (model l.row.prog w) callerA (call (.ref fa) [.ref a]) (fun v s' => GoodWG l.row.claim cl mean [ofPy (PyData.list (ns.map PyData.int))] s₁ (.ok (.ret v)) s')
      (fun e s' => GoodWG l.row.claim cl mean [ofPy (PyData.list (ns.map PyData.int))] s₁ (.error e) s') s₁ := by
  have htk := Nat.lt_of_lt_of_le h0 (X.script_toks L ht)
  have ho := X.script_obj L hL
  refine wpAny_mono (h.run callerA Vol0 s₁ [.ref a] ⟨fun _ => rfl, by decide, by decide⟩ rfl ⟨⟨T.g, T.b, T.nolimit⟩, Keeps.refl _, Nat.ne_of_gt htk, fun _ q => q.elim⟩ (.cons (.list id ho rfl ⟨rfl, rfl⟩ rfl (intsAre_rep hI)) .nil)) (fun v s' q => ?_) fun _ _ q => q.elim
  obtain ⟨g, r⟩ := q
  have hpost : l.row.claim.post [ofPy (PyData.list (ns.map PyData.int))] (WData.bool true) [ofPy (PyData.list (ns.map PyData.int))] = true := by
    show (WShape.has [] (.bool true) .bool && WTm.holds [] (.eq .res (.lit (.bool true))) _) = true
    with_unfolding_all rfl
  cases r
  refine GoodW.toG ⟨.inl ⟨_, _, _, rfl, fun _ => rfl, .bool true, hpost, fun _ => ⟨.nil, fun _ ha => nomatch ha⟩⟩, g.keep, g.os, g.gens.trans hg⟩

/-- a def's facts from the written heap -/
theorem IsDefL.of {c : Cx} {K : Frag} {a : Addr} {sc : Scope} {ps : List String} {body : List Stmt} {oc : Value} {od : Option Addr} {fd : FuncData} {osl : Array (Option Value)} (X : K.In c.base) (ho : K.lookup a = some ⟨oc, od, .func fd, osl⟩)
    (hb : fd.body = .stmts body) (hs : fd.scope = sc) (hc : fd.closure = []) (hg : fd.globals = mainGlobals) (hbl : fd.builtins = builtinsNs) (hcd : codeIn K fd.code fd.qualname = true)
    (hbind : ∀ vs : List Value, vs.length = ps.length → bindArgs fd ⟨vs, []⟩ = pure (bindsOf ps vs)) (kinds : ∀ p ∈ ps, CanStore sc p) (nodup : ps.Nodup) (cnd : ((cellsFrom 0 sc.names []).map (·.1)).Nodup) (co : sc.isCoroutine = false) (gen : sc.isGenerator = false) (kind : sc.kind = .function)
    (nofree : sc.names.all (fun p => p.2 != .free) = true) : IsDefL c a sc ps body :=
  ⟨⟨_, fd, X _ _ ho, rfl, hb, hs, hc, hg, hbl, codeRec_of X hcd, hbind⟩, kinds, nodup, cnd, co, gen, kind, fun x q => by
    have := List.all_eq_true.mp nofree _ (mem_lookup q)
    simp at this⟩

end Mine
namespace Mine
section
variable {c : Cx} {n : Nat} {sc : Scope} {k : Bool} {ρ ρ' : Sto} {P P' : AF → Sto → Prop}

theorem TgtG.ent {w : Bool} {tgt : Expr} {d : D} {ρ₁ : Sto} (h : Ent c sc ρ ρ') (t : TgtG w c sc tgt d ρ' ρ₁) : TgtG w c sc tgt d ρ ρ₁ := .mk fun A env V0 h0 Cs X s v hA hO F r =>
  let ⟨X', h1, F'⟩ := h env V0 h0 Cs X s F
  wpAny_mono (t.run A env V0 h0 Cs X' s v hA hO F' (r.weak fun a q => q.imp id (h1 a))) (fun _ s' q => let ⟨X₂, g, F₂⟩ := q; ⟨X₂, g.sub h1, F₂⟩) fun _ _ q => q
theorem Sx.post {st : Stmt} (h : Sx c n sc ρ st P) (hp : ∀ af ρ₁, P af ρ₁ → ∃ ρ₂, Ent c sc ρ₁ ρ₂ ∧ P' af ρ₂) : Sx c n sc ρ st P' := .mk fun A env V0 h0 Cs X s hA hO F =>
  wpAny_mono (h.run A env V0 h0 Cs X s hA hO F) (fun f s' q => by
    obtain ⟨X₂, ρ₁, af, a, b, d, p⟩ := q
    obtain ⟨ρ₂, e, p'⟩ := hp _ _ p
    obtain ⟨X₃, h3, F₃⟩ := e _ _ _ _ _ _ b
    refine ⟨X₃, ρ₂, af, a.sub' h3, F₃, ?_, p'⟩
    cases d with
    | next => exact .next
    | brk => exact .brk
    | cont => exact .cont
    | ret r => exact .ret (r.weak fun a q => q.imp id (h3 a))) fun _ _ q => q

theorem Sx.forR {α β : Type} {g : α → D} {xs : List α} {tgt e : Expr} {body : List Stmt} {pos : Pos} {d₀ : D} (σ : β → Sto) (I : List α → β → Prop) (b₀ : β) (he : Ev c n sc true ρ e d₀) (hit : IterR c d₀ (xs.map g)) (h0 : I [] b₀) (hI : SubS (σ b₀) ρ)
    (turn : ∀ done x rest b, xs = done ++ x :: rest → I done b → ∃ ρ₁, TgtR c sc tgt (g x) (σ b) ρ₁ ∧ Tr c n sc ρ₁ body (Turn (fun ρ' => ∃ b', I (done ++ [x]) b' ∧ SubS (σ b') ρ') P)) (fin : ∀ b, I xs b → P .next (σ b))
    (hs : ∀ (env : Env) x, foldedSetIterable e env x = pure x := by intro _ _; rfl) (hq : c.hn := by assumption) : Sx c n sc ρ (.For tgt e body [] pos) P := by
  refine Sx.post (P := fun af ρ' => (af = .next ∧ ∃ b, I xs b ∧ SubS (σ b) ρ') ∨ P af ρ') (Sx.for (fun done ρ' => ∃ dx rest, xs = dx ++ rest ∧ done = dx.map g ∧ ∃ b, I dx b ∧ SubS (σ b) ρ') he hit ⟨[], xs, rfl, rfl, b₀, h0, hI⟩ ?_ ?_ hs) fun af ρ₁ q => ?_
  · intro done d rest ρ' e ⟨dx, rx, e1, e2, b, hb0, hsub⟩
    subst e2
    rw [e1, List.map_append] at e
    have := List.append_cancel_left e
    cases rx with
    | nil => cases this
    | cons x rx =>
      rw [List.map_cons] at this
      cases this
      obtain ⟨ρ₁, ht, hb⟩ := turn dx x rx b e1 hb0
      refine ⟨ρ₁, ht.ent (Ent.sub hsub), hb.mono fun af ρ₂ q => ?_⟩
      cases af with
      | next => exact ⟨dx ++ [x], rx, by rw [e1]; simp, by simp, q⟩
      | cont => exact ⟨dx ++ [x], rx, by rw [e1]; simp, by simp, q⟩
      | brk => exact .inr q
      | ret d => exact .inr q
  · intro ρ' ⟨dx, rx, e1, e2, b, hb, hsub⟩
    have : rx = [] := by
      have := congrArg List.length e2
      rw [e1] at this
      simp at this
      exact this
    subst this
    rw [List.append_nil] at e1
    subst e1
    exact .inl ⟨rfl, b, hb, hsub⟩
  · rcases q with ⟨rfl, b, hb, q⟩ | q
    · exact ⟨_, Ent.sub q, fin b hb⟩
    · exact ⟨_, .refl _, q⟩

/-- a list built of ints, none left out -/
theorem filterMap_some {α β : Type} (r : α → β) (l : List α) : l.filterMap (fun x => some (r x)) = l.map r := by
  induction l with
  | nil => rfl
  | cons x l ih => simp
noncomputable def capOk (sc scope : Scope) : Bool := scope.kind == .function && scope.names.all (fun p => p.2 != .cell) && scope.names.all (fun p => p.2 != .local || scope.names.lookup p.1 == some .local) &&
  scope.names.all (fun p => p.2 != .free || sc.names.lookup p.1 == some .cell || sc.names.lookup p.1 == some .free)
inductive CapS (scope : Scope) (ρ : Sto) : Sto → Prop
  | nil : CapS scope ρ []
  | cons {x : String} {d : D} {ρi : Sto} : ρ.lookup x = some (.val d) → scope.names.lookup (Str.ofString x) = some .free → x ≠ "__classdict__" → CapS scope ρ ρi → CapS scope ρ ((x, .val d) :: ρi)
theorem CapS.all {scope : Scope} {ρi : Sto} (h : CapS scope ρ ρi) : ∀ p ∈ ρi, ∃ d, p.2 = .val d ∧ ρ.lookup p.1 = some (.val d) ∧ scope.names.lookup (Str.ofString p.1) = some .free ∧ p.1 ≠ "__classdict__" := by
  induction h with
  | nil => intro p hp; cases hp
  | cons a b e r ih =>
    intro p hp
    cases hp with
    | head => exact ⟨_, rfl, a, b, e⟩
    | tail _ hp => exact ih p hp
theorem Capt.of {scope : Scope} {ρi : Sto} (hs : CapS scope ρ ρi) (hb : capOk sc scope = true) : Capt sc scope ρ ρi := by
  unfold capOk at hb
  simp only [Bool.and_eq_true, List.all_eq_true, bne_iff_ne, Bool.or_eq_true, beq_iff_eq] at hb
  obtain ⟨⟨⟨h1, h2⟩, h3⟩, h4⟩ := hb
  refine ⟨h1, fun p hp => by simpa using h2 p hp, fun p hp q => ?_, fun p hp q => ?_, hs.all⟩
  · rcases h3 p hp with h | h
    · exact absurd q (by simpa using h)
    · exact h
  · rcases h4 p hp with (h | h) | h
    · exact absurd q (by simpa using h)
    · exact .inl h
    · exact .inr h

section
variable {elt tgt iter t : Expr} {scope : Scope} {pos spos p : Pos} {y : String} {d₀ : D} {α : Type} {g : α → D} {ds : List α}
theorem Ev.compM (r : α → D) (ρi : Sto) (he : Ev c n sc true ρ iter d₀) (hit : IterR c d₀ (ds.map g)) (hc : Capt sc scope ρ ρi) (hz : ds.length ≤ 16777216)
    (item : ∀ x ∈ ds, ∃ ρ₁, TgtG false c (relab sc scope) tgt (g x) ρi ρ₁ ∧ SubS ρi ρ₁ ∧ Ev c n (relab sc scope) true ρ₁ elt (r x)) (hs : ∀ (env : Env) x, foldedSetIterable iter env x = pure x := by intro _ _; rfl) (hq : c.hn := by assumption) :
    Ev c n sc k ρ (.ListComp elt [⟨tgt, iter, [], 0⟩] scope pos) (.list (ds.map r)) := by
  rw [← filterMap_some]
  exact Ev.comp (fun x => some (r x)) ρi he hit hc hz (fun x hx => let ⟨ρ₁, h1, h2, h3⟩ := item x hx; ⟨ρ₁, h1, h2, .nil, h3⟩) hs
end

theorem Ev.to {e : Expr} {d d' : D} (h : Ev c n sc k ρ e d) (q : d = d') : Ev c n sc k ρ e d' := q ▸ h
theorem Tst.to {e : Expr} {b b' : Bool} (h : Tst c n sc ρ e b) (q : b = b') : Tst c n sc ρ e b' := q ▸ h
theorem IsDef.callee {a : Addr} {ps : List String} {body : List Stmt} (h : IsDef c a sc ps body) : Callee c (.ref a) := by
  obtain ⟨o, fd, h1, h2, _⟩ := h.ex
  exact .func h1 h2

end
end Mine
namespace Mine
section
variable {c : Cx} {n : Nat} {sc : Scope} {k : Bool} {ρ ρ' : Sto} {P P' : AF → Sto → Prop} {env : Env} {V0 : Addr → Prop} {h0 : Heap} {Cs : List (Str × Addr)} {X : List Addr} {s s₁ : Shared} {A : Around}

/-- a name's own list, opened -/
structure Opn (c : Cx) (env : Env) (V0 : Addr → Prop) (Cs : List (Str × Addr)) (X : List Addr) (ρ : Sto) (x : String) (sl : List Slot) (a : Addr) (fpi fps' : List Addr) (s : Shared) : Prop where
  ns : ∃ m, s.heap.Ns env.locals m ∧ Loc env s m x (.ref a) ∧ StoR c env (Vol V0 X) s m (delS x ρ) fps'
  lst : ∃ vs nn, s.heap.get? a = some { cls := .type "list", data := .seq vs nn } ∧ RepSL c (Vol V0 X) s sl vs.toList fpi
  nd : (env.locals :: (Cs.map (·.2) ++ ((a :: fpi) ++ fps'))).Nodup
  sub : ∀ b ∈ env.locals :: (Cs.map (·.2) ++ ((a :: fpi) ++ fps')), b ∈ X

theorem Fm.opn {x : String} {sl : List Slot} (F : Fm c sc env V0 h0 Cs X ρ s) (h : ρ.lookup x = some (.own sl)) : ∃ a fpi fps', Opn c env V0 Cs X ρ x sl a fpi fps' s := by
  obtain ⟨m, fps, h1, h2, h3, h4, h6, h5⟩ := F.sto
  obtain ⟨v, fp, fps', rest, l, rx, r, hp⟩ := h5.take h
  cases rx with
  | @own a o vs nn _ fpi ho hcl hd hdt rs =>
    have hx1 : (env.locals :: (Cs.map (·.2) ++ fps)).Nodup := h2 ▸ h3
    have hpm : (rest ++ (env.locals :: (Cs.map (·.2) ++ ((a :: fpi) ++ fps')))).Perm (env.locals :: (Cs.map (·.2) ++ fps)) := by
      refine List.perm_middle.trans (List.Perm.cons _ ?_)
      exact (List.perm_append_comm_assoc rest _ _).trans (hp.append_left _)
    refine ⟨a, fpi, fps', ⟨m, h1, l, r⟩, ⟨vs, nn, ?_, rs⟩, (List.nodup_append.mp (hpm.nodup_iff.mpr hx1)).2.1, fun b hb => h2 ▸ hpm.subset (List.mem_append_right _ hb)⟩
    rw [← obj_eq hcl hd hdt]; exact ho

theorem RepSL.gr {V : Addr → Prop} {s' : Shared} {sl v fp} (r : RepSL c V s sl v fp) (g : Gr s s') : RepSL c V s' sl v fp := r.calm (g.calm V) (fun _ q => q) fun _ _ _ e => g.keep _ _ e

theorem Opn.gr {x : String} {sl : List Slot} {a : Addr} {fpi fps' : List Addr} {s' : Shared} (O : Opn c env V0 Cs X ρ x sl a fpi fps' s) (g : Gr s s') : Opn c env V0 Cs X ρ x sl a fpi fps' s' := by
  obtain ⟨m, h1, h2, h3⟩ := O.ns
  obtain ⟨vs, nn, h4, h5⟩ := O.lst
  exact ⟨⟨m, h1.keeps g.keep, h2.calm (fun _ => rfl) fun _ _ _ _ e _ => g.keep _ _ e, h3.gr g⟩, ⟨vs, nn, g.keep _ _ h4, h5.gr g⟩, O.nd, O.sub⟩

theorem Opn.aX {x : String} {sl : List Slot} {a : Addr} {fpi fps' : List Addr} (O : Opn c env V0 Cs X ρ x sl a fpi fps' s) : a ∈ X := O.sub a (.tail _ (List.mem_append_right _ (.head _)))

/-- the list is turned, and all is said again -/
theorem Opn.close {x : String} {sl sl' : List Slot} {a : Addr} {fpi fps' : List Addr} {h' : Heap} {vs' : Array Value} {n' tk : Nat} (F : Fm c sc env V0 h0 Cs X ρ s) (O : Opn c env V0 Cs X ρ x sl a fpi fps' s) (hs : Heap.SameBut a s.heap h') (htk : s.toks ≤ tk)
    (ho : h'.get? a = some { cls := .type "list", data := .seq vs' n' }) (hr : RepSL c (Vol V0 X) { s with heap := h', toks := tk } sl' vs'.toList fpi) :
    ∃ X', Stp X s X' { s with heap := h', toks := tk } ∧ Fm c sc env V0 h0 Cs X' (setS ρ x (.own sl')) { s with heap := h', toks := tk } := by
  obtain ⟨m, h1, h2, h3⟩ := O.ns
  obtain ⟨vs, nn, h4, h5⟩ := O.lst
  have haX := O.aX
  have hnd := List.nodup_cons.mp O.nd
  have hnd2 := List.nodup_append.mp hnd.2
  have haL : env.locals ≠ a := fun q => hnd.1 (q ▸ List.mem_append_right _ (.head _))
  have haC : ∀ p ∈ Cs, p.2 ≠ a := fun p hp q => hnd2.2.2 _ (List.mem_map_of_mem hp) a (.head _) q
  have hcm : Calm (Vol V0 X) s { s with heap := h', toks := tk } := calm_at hs (.inr haX) htk
  have hv : ∀ b, Vol V0 (env.locals :: (Cs.map (·.2) ++ ((a :: fpi) ++ fps'))) b → Vol V0 X b := fun b q => q.imp id (O.sub b)
  have ha0 : ∀ b o, h0.get? b = some o → b ≠ a := fun b o e q => by rw [q, F.new _ haX] at e; cases e
  have haf : a ∉ fpi ∧ a ∉ fps' := by
    have := List.nodup_cons.mp hnd2.2.1
    exact ⟨fun q => this.1 (List.mem_append_left _ q), fun q => this.1 (List.mem_append_right _ q)⟩
  have halive : ∀ b o, s.heap.get? b = some o → ∃ o', h'.get? b = some o' := fun b o e => by
    by_cases q : b = a
    · exact ⟨_, q ▸ ho⟩
    · exact ⟨o, (hs.2 b q).trans e⟩
  obtain ⟨_, _, _, _, _, hlv, hcl, _⟩ := F.sto
  refine ⟨_, ⟨fun b o hb e => (hs.2 b fun q => hb (q ▸ haX)).trans e, htk, rfl, rfl, fun b hb => .inl (O.sub b hb), fun b _ o e => halive b o e⟩,
    ⟨F.good, F.scope, F.kind, F.globals, F.builtins, F.base, fun b o e => (hs.2 b (ha0 b o e)).trans (F.keep b o e), fun e => F.tok (Nat.le_zero.mp (e ▸ htk)), (fun b q => ?_), F.ccells, fun b hb => F.new b (O.sub b hb), F.cells, F.cinj,
      ⟨m, _, h1.sameBut hs haL, rfl, O.nd, fun b hb => ?_, fun p hp => ?_, .cons (v := .ref a) ?_ (.own ho rfl ⟨rfl, rfl⟩ rfl (hr.calm (Gr.calm (.refl _) _) hv fun _ _ _ e => e)) ?_⟩⟩⟩
  · obtain ⟨⟨o, e⟩, hx⟩ := F.live0 b q
    exact ⟨halive b o e, fun q' => hx (O.sub b q')⟩
  · obtain ⟨o, e⟩ := hlv b (O.sub b hb); exact halive b o e
  · obtain ⟨v₀, q⟩ := hcl p hp; exact ⟨v₀, q.sameBut hs (haC p hp)⟩
  · refine h2.calm (fun _ => rfl) fun b o w _ e hw => (hs.2 b fun q => ?_).trans e
    rw [q, h4] at e; cases e; cases hw
  · refine StoR.weak hv (h3.change hcm (fun b hb o e => (hs.2 b fun q => haf.2 (q ▸ hb)).trans e) (fun _ _ _ => rfl) fun p hp b o w _ e hw => (hs.2 b fun q => ?_).trans e)
    rw [q, h4] at e; cases e; cases hw

theorem RepSL.snoc {V : Addr → Prop} {s : Shared} {d : D} {v : Value} (rv : Rep c V s d v) : ∀ {sl vs fp}, RepSL c V s sl vs fp → RepSL c V s (sl ++ [.val d]) (vs ++ [v]) fp
  | _, _, _, .nil => .cons (fp := []) (fps := []) (.val rv) .nil
  | _, _, _, .cons (fp := fp) r rs => .cons r (RepSL.snoc rv rs)
theorem RepSL.length {V : Addr → Prop} {s : Shared} : ∀ {sl vs fp}, RepSL c V s sl vs fp → sl.length = vs.length
  | _, _, _, .nil => rfl
  | _, _, _, .cons _ rs => by simp [rs.length]
theorem RepL.slots {V : Addr → Prop} {s : Shared} : ∀ {ds vs}, RepL c V s ds vs → RepSL c V s (ds.map .val) vs []
  | _, _, .nil => .nil
  | _, _, .cons r rs => .cons (fp := []) (fps := []) (.val r) rs.slots

theorem Opn.load {x : String} {sl : List Slot} {a : Addr} {fpi fps' : List Addr} {E : Value → Shared → Prop} {Q : Value → Shared → Prop} {p : Pos} (F : Fm c sc env V0 h0 Cs X ρ s) (O : Opn c env V0 Cs X ρ x sl a fpi fps' s) (hx : x ≠ "__debug__") (h : Q (.ref a) s) :
    wpAny c.M A (eval (.Name (Str.ofString x) p) env) Q E s := by
  obtain ⟨m, h1, h2, h3⟩ := O.ns
  exact wpAny_Name (h2.load (by rw [F.scope]; exact F.kind) h1 h) (ofString_ne hx)

/-- x.append(e) -/
theorem Sx.append {x : String} {e : Expr} {p ap pos epos : Pos} {sl : List Slot} {d : D} (hx : ρ.lookup x = some (.own sl)) (h : Ev c n sc true ρ e d) (hz : sl.length ≤ 16777216) (hp : plainE e = true := by rfl) (hline : (ap.endLine == pos.line) = true := by rfl) (hxd : x ≠ "__debug__" := by decide)
    (hbase : ∀ env : Env, attributeBase (.Name (Str.ofString x) p) (Str.ofString "append") env (eval (.Name (Str.ofString x) p) env) = eval (.Name (Str.ofString x) p) env := by intro _; rfl)
    (hs : ∀ env : Env, swapsWith (.Call (.Attribute (.Name (Str.ofString x) p) (Str.ofString "append") ap) [e] [] pos) none epos.line env = pure false := by intro _; rfl) :
    Sn c n sc ρ (.Expr (.Call (.Attribute (.Name (Str.ofString x) p) (Str.ofString "append") ap) [e] [] pos) epos) (setS ρ x (.own (sl ++ [.val d]))) := .mk fun A env V0 h0 Cs X s hA hO F => by
  obtain ⟨a, fpi, fps', O⟩ := F.opn hx
  have hi : interactive env = false := by
    unfold interactive
    rw [F.scope, F.kind]; rfl
  refine wpAny_Expr ?_ hi (hs env)
  refine wpAny_Call_method (T := "list") (id := "list.append") (hbase env) ?_ hline PySem.F.plainAttrs_list PySem.F.slot_list_append PySem.F.type_list_append ?_
  · rw [starEach_cons hp]; rfl
  refine O.load F hxd ?_
  obtain ⟨vs, nn, h4, h5⟩ := O.lst
  refine ⟨⟨_, h4, rfl⟩, fun b hb => by cases hb; exact ⟨_, h4, rfl⟩, (Callee.builtin (c := c) "list.append").wp (first := [.ref a]) (by simp [hp]) ?_⟩
  refine wpAny_items_cons (wpAny_mono (h.run A env V0 h0 Cs X s hA F) (fun v s₁ q₁ => wpAny_items_nil ⟨(F.gr q₁.1).base.trans (F.gr q₁.1).keep, ?_⟩) fun _ _ q => q.elim) (starEach_cons hp)
  obtain ⟨vs, nn, h4, h5⟩ := (O.gr q₁.1).lst
  have hl := h5.length
  refine append_wp h4 rfl ⟨rfl, rfl⟩ rfl (fun h' o' n' e1 e2 e3 e4 e5 => ?_) (by simp at hl; omega)
  have hcm : Calm (Vol V0 X) s₁ { s₁ with heap := h' } := calm_at (tk := s₁.toks) e5 (.inr O.aX) (Nat.le_refl _)
  have hnd := (List.nodup_append.mp (List.nodup_cons.mp O.nd).2).2.1
  have haf : a ∉ fpi := fun q => (List.nodup_cons.mp hnd).1 (List.mem_append_left _ q)
  obtain ⟨X', g, F'⟩ := (O.gr q₁.1).close (F.gr q₁.1) (sl' := sl ++ [.val d]) (tk := s₁.toks) e5 (Nat.le_refl _) (by rw [← obj_eq e2 e3 e4]; exact e1) (by
    rw [Array.toList_push]
    exact ((RepSL.snoc (q₁.2.weak fun _ q => ⟨rfl, q⟩) h5).calm hcm (fun _ q => q) fun b hb o e => (e5.2 b fun q => haf (q ▸ hb)).trans e))
  exact ⟨X', _, .next, (Stp.of_gr q₁.1).trans g, F', .next, rfl, rfl⟩

/-- a fresh list that may be turned -/
theorem EvS.list {es : List Expr} {pos : Pos} {ds : List D} (h : EvL c n sc true ρ es ds) (hsz : ds.length ≤ sizeLine) : EvS c n sc ρ (.List es pos) (.own (ds.map .val)) := .mk fun A env V0 h0 Cs X s hA F =>
  wpAny_List (wpAny_mono (h.run A env V0 h0 Cs X s pos hA F) (fun vs s₁ q => ⟨q.2.length ▸ hsz, q.1.trans (.push _), [s₁.heap.objs.size], .own (Heap.get?_push_size _ rfl) rfl ⟨rfl, rfl⟩ rfl (RepL.slots (by
    have r := (q.2.gr (.push { cls := .type "list", data := .seq vs.toArray }))
    have r2 : RepL c (fun a => VK true V0 X a ∨ a = s₁.heap.objs.size) s₁ ds vs := q.2.ext fun a e => e ▸ get_size _
    refine (r2.gr (.push { cls := .type "list", data := .seq vs.toArray })).weak fun a e => ?_
    rcases e with e | e
    · exact .inl ⟨rfl, .inl e⟩
    · rcases List.mem_append.mp e with e | e
      · exact .inl ⟨rfl, .inr e⟩
      · exact .inr (List.mem_singleton.mp e))), by simp, fun a ha => by
    rw [List.mem_singleton.mp ha]
    cases e : s.heap.get? s₁.heap.objs.size with
    | none => rfl
    | some o => have := q.1.keep _ _ e; rw [get_size] at this; cases this⟩) fun _ _ q => q)

end
end Mine
namespace Mine

section
variable {c : Cx} {n : Nat} {sc : Scope} {k : Bool} {ρ ρ' : Sto}

theorem repL_strs {V : Addr → Prop} {s : Shared} {ls : List (List Nat)} : ∀ {vs : List Value}, RepL c V s (ls.map sd) vs → ∃ l : List (Str × Tok), vs = strValues l ∧ l.map (·.1) = ls.map S := by
  induction ls with
  | nil => intro vs r; cases r; exact ⟨[], rfl, rfl⟩
  | cons x ls ih =>
    intro vs r
    cases r with
    | cons r rs =>
      obtain ⟨l, h1, h2⟩ := ih rs
      cases r with
      | str _ t => exact ⟨(S x, t) :: l, by rw [h1]; rfl, by rw [List.map_cons, h2]; rfl⟩
theorem join_S : ∀ ls : List (List Nat), Str.join (S []) (ls.map S) = S ls.flatten
  | [] => rfl
  | [x] => by simp [Str.join]
  | x :: y :: r => by
    show S x ++ S [] ++ Str.join (S []) ((y :: r).map S) = _
    rw [join_S (y :: r), S_append, S_append]; simp
theorem FnR.join0 {ls : List (List Nat)} (hz : ls.flatten.length ≤ 16777216) : FnR c n (.builtin "str.join") [sd [], .list (ls.map sd)] (sd ls.flatten) := .mk fun A V s vs hA hS r => by
  cases r with
  | cons r rs => cases rs with
    | cons r' rs => cases rs; cases r with
      | str _ t => cases r' with
        | @list a o ws nn _ na ho hcl hd hdt r =>
          obtain ⟨l, h1, h2⟩ := repL_strs r
          refine wp_end (SC.join (D := a) (l := l) (texts := ls.map S) ⟨o, ho, hcl, nn, by rw [hdt, ← h1]⟩ h2 ?_ fun t' k => ⟨fun _ _ e => e, rfl, rfl, fun _ => ?_⟩)
          · unfold JoinOk
            rw [Bool.not_eq_true', StrLaws.joinTotal]
            unfold Builtin.Str.tooLong
            rw [sizeLine_eq]
            have e : ((ls.map S).map (·.length)).sum = ls.flatten.length := by
              rw [List.map_map, List.length_flatten]
              congr 1
            rw [e, S_length]
            simp only [List.length_nil, Nat.mul_zero, Nat.add_zero]
            exact decide_eq_false (by omega)
          · have : Txt.join (S []) (ls.map S) = S ls.flatten := (StrLaws.glued_eq_join _ _).trans (join_S ls)
            rw [this]; exact .str _ _

theorem foldl_arr (x : Array Nat) : ∀ (m : Nat) (acc : Array Nat), ((List.replicate m x).foldl (· ++ ·) acc).toList = acc.toList ++ (List.replicate m x.toList).flatten
  | 0, acc => by simp
  | m + 1, acc => by rw [List.replicate_succ, List.foldl_cons, foldl_arr x m, List.replicate_succ]; simp
theorem BinR.mulS {l : List Nat} {m : Nat} (hz : l.length * m ≤ 16777216) (hm : m ≤ 16777216) : BinR c .Mult (sd l) (.int m) (sd (List.replicate m l).flatten) := fun A V s v₁ v₂ _ _ r₁ r₂ => by
  cases r₁ with
  | str _ t => cases r₂ with
    | int _ u =>
      refine wp_end (P.mul_str ?_ (fun h1 h2 => ?_) (fun h1 h2 => ?_) ?_)
      · have a1 : ¬ ((m : Int) < -(2 ^ 63 : Int)) := by omega
        have a2 : ¬ ((m : Int) ≥ 2 ^ 63) := by omega
        rw [decide_eq_false a1, decide_eq_false a2]; rfl
      · rw [S_length]
        have hm1 : 1 ≤ m := by omega
        have hl : l.length ≤ 16777216 := Nat.le_trans (Nat.le_mul_of_pos_right _ hm1) hz
        intro q
        have h3 : (16777216 : Int) ≤ (2 ^ 63 - 1) / (m : Int) := by
          apply Int.le_ediv_of_mul_le (by omega)
          have : (16777216 : Int) * m ≤ 16777216 * 16777216 := by omega
          omega
        omega
      · rw [S_length, Int.toNat_natCast]
        unfold Builtin.Str.tooLong
        rw [sizeLine_eq]; exact decide_eq_false (by omega)
      · have fin : ∀ (x : Str) (t' : Tok) (k : Nat), x = S (List.replicate m l).flatten → Keeps s.heap s.heap ∧ s.gens = s.gens ∧ s.os = s.os ∧ (s.toks ≤ k → Rep c V { s with toks := k } (sd (List.replicate m l).flatten) (.str x t')) :=
          fun x t' k e => ⟨fun _ _ e => e, rfl, rfl, fun _ => by rw [e]; exact .str _ _⟩
        by_cases h1 : (m : Int) < 1
        · rw [if_pos h1]
          have : m = 0 := by omega
          subst this
          exact ⟨by decide, fin _ _ _ rfl⟩
        · rw [if_neg h1]
          by_cases h2 : ((m : Int) == 1 || (S l).length == 0) = true
          · rw [if_pos h2]
            refine fin _ _ _ ?_
            rw [Bool.or_eq_true, beq_iff_eq, beq_iff_eq, S_length] at h2
            rcases h2 with h2 | h2
            · have : m = 1 := by omega
              subst this; simp
            · have : l = [] := List.eq_nil_of_length_eq_zero h2
              subst this; simp
          · rw [if_neg h2]
            have e : (⟨(List.replicate (m : Int).toNat (S l).cps).foldl (· ++ ·) #[]⟩ : Str) = S (List.replicate m l).flatten := by
              apply StrLaws.mk_of_toList
              rw [foldl_arr, Int.toNat_natCast]; simp
            refine ⟨?_, fin _ _ _ e⟩
            rw [e, S_length, sizeLine_eq]; simp; rw [Nat.mul_comm]; exact hz

theorem FnR.sumL {ns : List Int} (hq : c.hn := by assumption) : FnR c n (.builtin "sum") [.list (ns.map D.int)] (.int ns.sum) := .mk fun A V s vs hA hS r => by
  cases r with
  | cons r rs => cases rs; cases r with
    | @list a o vs nn _ na ho hcl hd hdt r =>
      have hi := r.ints
      obtain ⟨xs, hx⟩ := hi.allInts.items
      have hx' : vs = intItems xs := by rw [← hx]
      have hn : numsOf (intItems xs).toList = ns := hx' ▸ hi.numsOf
      rw [nums_intItems] at hn
      have hl : s.heap.IsList a (intItems xs) := ⟨o, ho, hcl, nn, by rw [hdt, hx']⟩
      have hne : a ≠ s.heap.objs.size := Nat.ne_of_lt (Heap.lt_size ho)
      have hsz : (intItems xs).size = xs.size := by simp [intItems]
      have W := (Walks.list (prog := c.prog) (w := c.w) (A := A.in1) (hA.handled hq) s.heap.objs.size a hne (intItems xs)).toS
      rw [hsz] at W
      refine wp_end (call_sum_walkAnyS (wpAny_pyIter_list hl ?_))
      refine ⟨s.heap.objs.size, _, _, _, _, _, _, numAt xs, rfl, W, ⟨⟨_, Heap.get?_push_size _ rfl, rfl, rfl⟩, hl.at fun o e => Heap.get?_push_of_some _ e⟩, fun b hb => ?_, fun i v hP => intItems_at hP, fun s' t' hm => ?_⟩
      · rcases List.mem_cons.mp hb with rfl | hb
        · exact Heap.lt_size (Heap.get?_push_size _ rfl)
        · obtain rfl := List.mem_singleton.mp hb
          exact Heap.lt_size (Heap.get?_push_of_some _ ho)
      · refine ⟨fun b o e => hm.heap b o (fun hb => absurd (Heap.lt_size e) ((List.mem_singleton.mp hb) ▸ Nat.lt_irrefl _)) (Heap.get?_push_of_some _ e), hm.gens, hm.os, fun _ => ?_⟩
        rw [preSum_eq, List.take_of_length_le (by simp), hn]
        exact .int _ _

end
end Mine
namespace Mine
section
variable {c : Cx} {n : Nat} {sc : Scope} {k : Bool} {ρ ρ' : Sto}

theorem Room.below {A : Around} (h : Room c n A) : A.units < cLine := by have := h.units; omega

/-- is the list empty? -/
theorem eqNil_aux {ds : List D} {A : Around} {V : Addr → Prop} {s : Shared} {v₁ v₂ : Value} (hA : Room c 0 A) (r₁ : Rep c V s (.list ds) v₁) (r₂ : Rep c V s (.list []) v₂) :
    SeqAt.RcAt A s v₁ v₂ ds.isEmpty ∧ SeqAt.RcNeAt A s v₁ v₂ (!ds.isEmpty) := by
  cases r₁ with
  | @list x o vs nn _ na ho hcl hd hdt r₁ => cases r₂ with
    | @list y o2 ws nn2 _ na2 ho2 hcl2 hd2 hdt2 r₂ =>
      have l1 := r₁.length
      have l2 := r₂.length
      simp only [Array.length_toList, List.length_nil] at l1 l2
      have i1 : s.heap.IsList x vs := ⟨o, ho, hcl, nn, hdt⟩
      have i2 : s.heap.IsList y ws := ⟨o2, ho2, hcl2, nn2, hdt2⟩
      cases ds with
      | nil =>
        have hsz : vs.size = ws.size := by simp at l1; omega
        have he : ∀ j (h1 : j < vs.size) (h2 : j < ws.size), SeqAt.EqAt A.in1 s vs[j] ws[j] true := fun j h1 h2 => by omega
        have h1 := SeqAt.RcAt.lists (e := fun _ => true) i1 i2 hsz hA.below he
        have h2 := SeqAt.RcNeAt.lists (e := fun _ => true) i1 i2 hsz hA.below he
        have : (List.range vs.size).all (fun _ => true) = true := by simp
        rw [this] at h1 h2; exact ⟨h1, h2⟩
      | cons d r =>
        have hne : (vs.size != ws.size) = true := by simp at l1 ⊢; omega
        exact ⟨SeqAt.RcAt.lists_lengths i1 i2 hne hA.below, SeqAt.RcNeAt.lists_lengths i1 i2 hne hA.below⟩
theorem CmpR.eqNil {ds : List D} : CmpR c .Eq (.list ds) (.list []) ds.isEmpty := fun A V s v₁ v₂ hA _ r₁ r₂ => (eqNil_aux hA r₁ r₂).1 c.prog c.w _ _ ⟨.refl s, rfl⟩
theorem CmpR.neNil {ds : List D} : CmpR c .NotEq (.list ds) (.list []) (!ds.isEmpty) := fun A V s v₁ v₂ hA _ r₁ r₂ => (eqNil_aux hA r₁ r₂).2 c.prog c.w _ _ ⟨.refl s, rfl⟩

theorem CmpR.isntN {d : D} {b : Bool} (h : (d = .none ∧ b = false) ∨ ((∃ x, d = .str x) ∧ b = true) ∨ ((∃ x, d = .list x) ∧ b = true)) : CmpR c .IsNot d .none b := fun A V s v₁ v₂ hA _ r₁ r₂ => by
  cases r₂
  rcases h with ⟨rfl, rfl⟩ | ⟨⟨x, rfl⟩, rfl⟩ | ⟨⟨x, rfl⟩, rfl⟩
  · cases r₁; exact wpAny_isNot_plain rfl ⟨.refl s, rfl⟩
  · cases r₁; exact wpAny_isNot_plain rfl ⟨.refl s, rfl⟩
  · cases r₁; exact wpAny_isNot_plain rfl ⟨.refl s, rfl⟩

theorem foldl_arrV (x : Array Value) : ∀ (m : Nat) (acc : Array Value), ((List.replicate m x).foldl (· ++ ·) acc).toList = acc.toList ++ (List.replicate m x.toList).flatten
  | 0, acc => by simp
  | m + 1, acc => by rw [List.replicate_succ, List.foldl_cons, foldl_arrV x m, List.replicate_succ]; simp
theorem repL_replicate {V : Addr → Prop} {s : Shared} {d : D} {v : Value} (r : Rep c V s d v) : ∀ m : Nat, RepL c V s (List.replicate m d) (List.replicate m v)
  | 0 => .nil
  | m + 1 => .cons r (repL_replicate r m)
theorem mul_wp {prog : Program} {w : World} {A : Around} {E : Value → Shared → Prop} {s : Shared} {l : Addr} {items : Array Value} {kk : Nat} {x : Int} {u : Tok} {Q : Value → Shared → Prop}
    (hl : s.heap.get? l = some { cls := .type "list", dict := none, data := .seq items kk, slots := #[] })
    (hlo : -(2 ^ 63 : Int) ≤ x) (hhi : x < 2 ^ 63) (hsz : items.size * x.toNat ≤ 2 ^ 24)
    (h : Q (.ref s.heap.objs.size) { s with heap := s.heap.push { cls := .type "list", data := .seq (List.foldl (fun x1 x2 => x1 ++ x2) #[] (List.replicate (if items.isEmpty = true then 0 else x.toNat) items)) } }) :
    wpAny (model prog w) A (binaryOp .Mult (.ref l) (.int x u)) Q E s :=
  wpAny_binaryOp_repeat_ref (T := "list") (U := "int") (by decide) ⟨_, hl, rfl⟩ (fun s' => typeIs_int s' x u) noFill_list_mul PySem.F.fills_int_mul PySem.F.slot_int_rmul repeat_list PySem.F.slot_int_index.lookup
    (call_meets PySem.F.slot_int_rmul (typeIs_int s x u) PySem.F.entry_int_rmul (PySem.F.args_int_rmul_2 _ _) (int___rmul___int_list x u l items kk)
      ⟨hl, rfl, ⟨_, hl, rfl⟩, call_meets PySem.F.slot_list_mul ⟨_, hl, rfl⟩ PySem.F.entry_list_mul (PySem.F.args_list_mul_2 _ _)
        (AutoListH.list___mul___list_int_3 l items kk x u (by simp [Builtin.List.listFitsIndex]; omega) (by omega) (by simp [Builtin.List.listTooLong, sizeLine]; omega)) ⟨hl, h⟩⟩)

/-- [e] * m, fresh -/
theorem EvS.times {e ke : Expr} {lp pos : Pos} {d : D} {m : Nat} (h : Ev c n sc true ρ e d) (hm : Ev c n sc true ρ ke (.int m)) (hz : m ≤ 16777216) (hp : plainE e = true := by rfl) : EvS c n sc ρ (.BinOp (.List [e] lp) .Mult ke pos) (.own (List.replicate m (.val d))) := .mk fun A env V0 h0 Cs X s hA F => by
  refine wpAny_BinOp (wpAny_mono ((Ev.list (EvL.cons h EvL.nil hp) (by show 1 ≤ sizeLine; decide)).run A env V0 h0 Cs X s hA F) (fun lv s₁ q₁ => wpAny_mono (hm.run A env V0 h0 Cs X s₁ hA (F.gr q₁.1)) (fun iv s₂ q₂ => ?_) fun _ _ q => q) fun _ _ q => q)
  obtain ⟨g₁, r₁⟩ := q₁
  obtain ⟨g₂, r₂⟩ := q₂
  have r₁' := r₁.gr g₂
  cases r₂ with
  | int _ u => cases r₁' with
    | @list l o vs nn _ na ho hcl hd hdt r =>
      rw [obj_eq hcl hd hdt] at ho
      have hvs : ∃ v, vs.toList = [v] ∧ Rep c (VK true V0 X) s₂ d v := by
        generalize vs.toList = w at r
        cases r with
        | cons rv rs => cases rs; exact ⟨_, rfl, rv⟩
      obtain ⟨v, hv, rv⟩ := hvs
      have hl : vs.size = 1 := by rw [← Array.length_toList, hv]; rfl
      have hem : vs.isEmpty = false := by simp [Array.isEmpty, hl]
      refine mul_wp ho (by omega) (by omega) (by rw [hl, Int.toNat_natCast]; omega) ?_
      have g := g₁.trans g₂
      have hnew : ∀ b, b = s₂.heap.objs.size → s₂.heap.get? b = none := fun b e => e ▸ get_size _
      refine ⟨g.trans (.push _), [s₂.heap.objs.size], .own (Heap.get?_push_size _ rfl) rfl ⟨rfl, rfl⟩ rfl ?_, by simp, fun a ha => ?_⟩
      · rw [foldl_arrV, hem, Int.toNat_natCast, hv]
        have e1 : (#[] : Array Value).toList ++ (List.replicate (if false = true then 0 else m) [v]).flatten = List.replicate m v := by simp
        rw [e1]
        have e2 : List.replicate m (Slot.val d) = (List.replicate m d).map .val := by simp
        rw [e2]
        refine RepL.slots (repL_replicate ?_ m)
        have r2 : Rep c (fun a => VK true V0 X a ∨ a = s₂.heap.objs.size) s₂ d v := rv.ext hnew
        refine (r2.gr (.push _)).weak fun a e => ?_
        rcases e with e | e
        · exact .inl ⟨rfl, .inl e⟩
        · rcases List.mem_append.mp e with e | e
          · exact .inl ⟨rfl, .inr e⟩
          · exact .inr (List.mem_singleton.mp e)
      · rw [List.mem_singleton.mp ha]
        cases e : s.heap.get? s₂.heap.objs.size with
        | none => rfl
        | some o => have := g.keep _ _ e; rw [get_size] at this; cases this

end
end Mine
namespace Mine

/-- an escape's table: signs and what is written for them, in the order of its replaces -/
noncomputable abbrev Tab := List (Nat × List Nat)
noncomputable def escT (t : Tab) (l : List Nat) : List Nat := t.foldl (fun acc p => rep p.1 p.2 acc) l
noncomputable def wrT (t : Tab) (k : Nat) : List Nat := (t.lookup k).getD [k]
/-- no later sign stands in what is written -/
noncomputable def okT : Tab → Bool
  | [] => true
  | p :: r => r.all (fun q => !p.2.contains q.1 && q.1 != p.1) && okT r

theorem escT_free : ∀ (t : Tab) (z : List Nat), (∀ q ∈ t, q.1 ∉ z) → escT t z = z
  | [], _, _ => rfl
  | p :: r, z, h => by
    show escT r (rep p.1 p.2 z) = z
    rw [rep_free _ _ _ (h p (.head _))]
    exact escT_free r z fun q hq => h q (.tail _ hq)
theorem escT_append (t : Tab) : ∀ (a b : List Nat), escT t (a ++ b) = escT t a ++ escT t b := by
  induction t with
  | nil => intro a b; rfl
  | cons p r ih => intro a b; show escT r (rep p.1 p.2 (a ++ b)) = _; rw [rep_append]; exact ih _ _
theorem escT_nil (t : Tab) : escT t [] = [] := by
  induction t with
  | nil => rfl
  | cons p r ih => exact ih
theorem escT_one : ∀ (t : Tab), okT t = true → ∀ k, escT t [k] = wrT t k
  | [], _, k => rfl
  | p :: r, h, k => by
    unfold okT at h
    rw [Bool.and_eq_true, List.all_eq_true] at h
    show escT r (rep p.1 p.2 [k]) = _
    unfold wrT
    rw [List.lookup_cons]
    by_cases hk : k = p.1
    · subst hk
      rw [rep_one, beq_self_eq_true]
      refine escT_free r p.2 fun q hq => ?_
      have := h.1 q hq
      simp at this; exact this.1
    · have : (k == p.1) = false := by simpa using hk
      rw [this, rep_free _ _ _ (by simpa using fun e => hk e.symm)]
      exact escT_one r h.2 k
theorem escT_eq {t : Tab} (h : okT t = true) (l : List Nat) : escT t l = l.flatMap (wrT t) := by
  induction l with
  | nil => exact escT_nil t
  | cons x l ih => rw [List.flatMap_cons, ← ih, ← escT_one t h, ← escT_append]; rfl
theorem wrT_len {t : Tab} {m : Nat} (h : t.all (fun p => decide (p.2.length ≤ m)) = true) (hm : 1 ≤ m) (k : Nat) : (wrT t k).length ≤ m := by
  unfold wrT
  cases e : t.lookup k with
  | none => exact hm
  | some z => have := List.all_eq_true.mp h _ (mem_lookup e); simpa using this
theorem flatMap_len {w : Nat → List Nat} {m : Nat} (h : ∀ k, (w k).length ≤ m) : ∀ l : List Nat, (l.flatMap w).length ≤ l.length * m
  | [] => by simp
  | x :: l => by
    have := flatMap_len h l
    have := h x
    rw [List.flatMap_cons, List.length_append, List.length_cons, Nat.add_mul]
    omega

noncomputable def tCc : Tab := [(38, cs "&amp;"), (60, cs "&lt;"), (62, cs "&gt;"), (13, cs "&#xD;")]
theorem escT_len {t : Tab} (h : okT t = true) (h2 : t.all (fun p => decide (p.2.length ≤ 6)) = true) (l : List Nat) : (escT t l).length ≤ l.length * 6 := by
  rw [escT_eq h]; exact flatMap_len (wrT_len h2 (by decide)) l

section
variable {c : Cx} {n : Nat} {sc : Scope}
/-- if 'c' in text: text = text.replace('c', '..') -/
theorem Sx.esc {x z : String} {q : Nat} {l : List Nat} {k0 k1 k2 : Nat} {p0 p1 p2 p3 p4 p5 p6 p7 p8 p9 ap : Pos} (hq : cs x = [q]) (hxz : x ≠ z) (hk : CanStore sc "text") (hz : l.length + (l.length + 1) * (cs z).length ≤ 16777216)
    (hline : (ap.endLine == p7.line) = true := by rfl) 
    (hs : ∀ env : Env, env.scope = sc → swapsWith (.Call (.Attribute (.Name (Str.ofString "text") p4) (Str.ofString "replace") ap) [.Constant (.str (Str.ofString x)) k1 p5, .Constant (.str (Str.ofString z)) k2 p6] [] p7) (some (.Name (Str.ofString "text") p3)) p8.line env = pure false := by intro _ _; rfl) :
    Sn c n sc [("text", .val (sd l))] (.If (.Compare (.Constant (.str (Str.ofString x)) k0 p0) [.In] [.Name (Str.ofString "text") p1] p2)
      [.Assign [.Name (Str.ofString "text") p3] (.Call (.Attribute (.Name (Str.ofString "text") p4) (Str.ofString "replace") ap) [.Constant (.str (Str.ofString x)) k1 p5, .Constant (.str (Str.ofString z)) k2 p6] [] p7) p8] [] p9)
      [("text", .val (sd (rep q (cs z) l)))] := by
  refine Sx.ite (b := decide (q ∈ l)) (Tst.cmp Ev.lit (Ev.name rfl) (CmpR.inS hq)) (fun h => Tr.last (Sx.assign (Ev.replace (Ev.name rfl) hq hxz hz hline) hk hs)) fun h => Tr.nil ⟨rfl, ?_⟩
  rw [rep_free _ _ _ (by simpa using h)]
/-- one step of an escape: t₀ is done -/
theorem Tr.escStep {x z : String} {q : Nat} {t₀ : Tab} {l : List Nat} {rest : List Stmt} {P : AF → Sto → Prop} {k0 k1 k2 : Nat} {p0 p1 p2 p3 p4 p5 p6 p7 p8 p9 ap : Pos} (hl : l.length ≤ 100000) (hq : cs x = [q]) (hxz : x ≠ z) (hk : CanStore sc "text") (ht : okT t₀ = true) (ht2 : t₀.all (fun p => decide (p.2.length ≤ 6)) = true) (hzl : (cs z).length ≤ 6)
    (h : Tr c n sc [("text", .val (sd (escT (t₀ ++ [(q, cs z)]) l)))] rest P) (hline : (ap.endLine == p7.line) = true := by rfl) 
    (hs : ∀ env : Env, env.scope = sc → swapsWith (.Call (.Attribute (.Name (Str.ofString "text") p4) (Str.ofString "replace") ap) [.Constant (.str (Str.ofString x)) k1 p5, .Constant (.str (Str.ofString z)) k2 p6] [] p7) (some (.Name (Str.ofString "text") p3)) p8.line env = pure false := by intro _ _; rfl) :
    Tr c n sc [("text", .val (sd (escT t₀ l)))] (.If (.Compare (.Constant (.str (Str.ofString x)) k0 p0) [.In] [.Name (Str.ofString "text") p1] p2)
      [.Assign [.Name (Str.ofString "text") p3] (.Call (.Attribute (.Name (Str.ofString "text") p4) (Str.ofString "replace") ap) [.Constant (.str (Str.ofString x)) k1 p5, .Constant (.str (Str.ofString z)) k2 p6] [] p7) p8] [] p9 :: rest) P := by
  have h1 := escT_len ht ht2 l
  refine Tr.step (Sx.esc hq hxz hk ?_ hline hs) ?_
  · have : ((escT t₀ l).length + 1) * (cs z).length ≤ ((escT t₀ l).length + 1) * 6 := Nat.mul_le_mul_left _ hzl
    omega
  · have e : escT (t₀ ++ [(q, cs z)]) l = rep q (cs z) (escT t₀ l) := by simp [escT]
    rw [← e]; exact h
theorem escFn {a : Addr} {body : List Stmt} {t : Tab} {l : List Nat} (hd : IsDef c a sc ["text"] body) (ht : okT t = true) (h : Tr c n sc [("text", .val (sd (escT [] l)))] body fun af _ => af = .ret (sd (escT t l))) : FnR c (n + 1) (.ref a) [sd l] (sd (l.flatMap (wrT t))) := by
  rw [← escT_eq ht]
  exact FnR.of hd rfl h

theorem ds_vals {α : Type} (g : α → D) : ∀ l : List α, Slot.ds (l.map fun x => .val (g x)) = l.map g
  | [] => rfl
  | x :: l => by rw [List.map_cons, List.map_cons, ← ds_vals g l]; rfl
/-- a sign for a number, none of the surrogates -/
noncomputable def chrOf (h : Int) : Nat := (if h.fmod 1112064 < 55296 then h.fmod 1112064 else h.fmod 1112064 + 2048).toNat
theorem chrOf_ok (h : Int) : (0 : Int) ≤ chrOf h ∧ (chrOf h : Int) ≤ 1114111 ∧ (chrOf h : Int) = if h.fmod 1112064 < 55296 then h.fmod 1112064 else h.fmod 1112064 + 2048 := by
  have hmc : (0 : Int) ≤ h.fmod 1112064 ∧ h.fmod 1112064 < 1112064 := ⟨Int.fmod_nonneg_of_pos _ (by decide), Int.fmod_lt_of_pos _ (by decide)⟩
  unfold chrOf; split <;> omega
/-- chr(code if code < 55296 else code + 2048), with code named -/
theorem Ev.chrIf {k : Bool} {ρ : Sto} {h : Int} {k1 k2 : Nat} {p1 p2 p3 p4 p5 p6 p7 p8 p9 p10 : Pos} (hc : c.mg (Str.ofString "chr") = Option.none ∧ c.mb (Str.ofString "chr") = some (.builtin "chr")) (hl : ρ.lookup "code" = some (.val (.int (h.fmod 1112064))))
    (hk : sc.names.lookup (Str.ofString "chr") = some .globalImplicit := by rfl) :
    Ev c n sc k ρ (.Call (.Name (Str.ofString "chr") p1) [.IfExp (.Compare (.Name (Str.ofString "code") p2) [.Lt] [.Constant (.int 55296) k1 p3] p4) (.Name (Str.ofString "code") p5) (.BinOp (.Name (Str.ofString "code") p6) .Add (.Constant (.int 2048) k2 p7) p8) p9] [] p10) (sd [chrOf h]) := by
  obtain ⟨h1, h2, h3⟩ := chrOf_ok h
  refine Ev.call (ds := [.int (Mine.chrOf h)]) (Ev.blt hc.1 hc.2 hk) (.builtin _) (EvL.cons (Ev.ite (Tst.cmp (Ev.name hl) Ev.int CmpR.ltI) (fun q => ?_) fun q => ?_) EvL.nil) (FnR.chr h1 h2)
  · rw [h3, if_pos (by simpa using q)]; exact Ev.name hl
  · rw [h3, if_neg (by simpa using q)]; exact Ev.bin (Ev.name hl) Ev.int BinR.add

theorem bindOne {fd : FuncData} {p : String} (h : ∀ v : Value, bindArgs fd ⟨[v], []⟩ = pure [(Str.ofString p, v)]) : ∀ vs : List Value, vs.length = [p].length → bindArgs fd ⟨vs, []⟩ = pure (bindsOf [p] vs)
  | [v], _ => h v
theorem bindTwo {fd : FuncData} {p q : String} (h : ∀ v w : Value, bindArgs fd ⟨[v, w], []⟩ = pure [(Str.ofString p, v), (Str.ofString q, w)]) : ∀ vs : List Value, vs.length = [p, q].length → bindArgs fd ⟨vs, []⟩ = pure (bindsOf [p, q] vs)
  | [v, w], _ => h v w
theorem blt_of {K : Frag} {h : Heap} {p : Program} {lw : List Str} {mean : ExcName → Option Value} {mg mb : Str → Option Value} (X : K.In h) (T : Top p lw mean mg mb h) {x : String} {v : Value} (e : nsIn K mainGlobals (Str.ofString x) = some none) (b : bootBuiltins (Str.ofString x) = some v) (hx : x ≠ "__name__") :
    mg (Str.ofString x) = none ∧ mb (Str.ofString x) = some v :=
  ⟨mg_none_of X T.g e, (T.builtins _ fun q => hx (ofString_inj q)).trans b⟩
end
end Mine
namespace Mine
section
variable {c : Cx} {n : Nat} {sc : Scope} {k : Bool} {ρ ρ' : Sto}

end
end Mine
namespace Mine

/-- signs and the tails of their references; a sign may have several -/
noncomputable abbrev Tl := List (Nat × List Nat)
structure GoodTl (tb : Tl) : Prop where
  inj : ∀ p ∈ tb, ∀ q ∈ tb, p.2 = q.2 → p = q
  semi : ∀ p ∈ tb, ∃ nm, p.2 = nm ++ [59] ∧ 59 ∉ nm
  noamp : ∀ p ∈ tb, 38 ∉ p.2

section
variable {tb : Tl} (G : GoodTl tb)
include G
end
end Mine
namespace Mine
section
variable {c : Cx} {n : Nat} {sc : Scope} {k : Bool} {ρ ρ' : Sto} {env : Env} {V0 : Addr → Prop} {h0 : Heap} {Cs : List (Str × Addr)} {X : List Addr} {s s₁ : Shared} {A : Around}

theorem Ev.neg {e : Expr} {pos : Pos} {i : Int} (h : Ev c n sc k ρ e (.int i)) : Ev c n sc k ρ (.UnaryOp .USub e pos) (.int (-i)) := .mk fun A env V0 h0 Cs X s hA F =>
  wpAny_UnaryOp (wpAny_mono (h.run A env V0 h0 Cs X s hA F) (fun v s' q => by
    obtain ⟨g, r⟩ := q
    cases r
    exact wp_gr g (wp_end (P.neg_int ⟨fun _ _ e => e, rfl, rfl, fun _ => .int _ _⟩))) fun _ _ q => q)

end
end Mine
namespace Mine

end Mine
namespace Mine

end Mine
namespace Mine
section
variable {c : Cx} {n : Nat} {sc : Scope} {k : Bool} {ρ : Sto}

end
end Mine
namespace Mine

section
variable {c : Cx} {n : Nat} {sc : Scope} {k : Bool} {ρ : Sto}
theorem Rep.dictRef {V : Addr → Prop} {s : Shared} {kvs : List (List Nat × D)} {v : Value} (r : Rep c V s (.dict kvs) v) : ∃ a, v = .ref a := by
  cases r; exact ⟨_, rfl⟩
theorem FnR.dget {kvs : List (List Nat × D)} {x : List Nat} {d : D} : FnR c n (.builtin "dict.get") [.dict kvs, sd x, d] ((kvs.lookup x).getD d) := .mk fun A V s vs hA hS r => by
  cases r with
  | cons r rs => cases rs with
    | cons r' rs => cases rs with
      | cons r'' rs => cases rs; cases r' with
        | str _ t =>
          obtain ⟨a, rfl⟩ := r.dictRef
          obtain ⟨f, hm, hsys, hf⟩ := r.map
          refine call_meetsIn PySem.F.slot_dict_get hm.typeIs PySem.F.entry_dict_get (PySem.F.args_dict_get_3 _ _ _) (meets_dict_get_default (strKind c.prog c.w) a (strKind_is c.prog c.w (S x) t) hsys _) ⟨f, hm, ?_⟩
          refine ⟨Gr.toks (Nat.le_succ _), ?_⟩
          have hx := hf x
          cases e : kvs.lookup x with
          | none =>
            rw [e] at hx
            simp only at hx
            rw [hx]
            exact r''.gr (Gr.toks (Nat.le_succ _))
          | some d' =>
            rw [e] at hx
            obtain ⟨v, h1, h2⟩ := hx
            rw [h1]
            exact h2.gr (Gr.toks (Nat.le_succ _))

end
end Mine
namespace Mine
section
variable {c : Cx} {n : Nat} {sc : Scope} {k : Bool} {ρ : Sto}

noncomputable def setAll (ρ : Sto) : List (String × D) → Sto
  | [] => ρ
  | (x, d) :: r => setAll (setS ρ x (.val d)) r

theorem storeAll : ∀ {ps : List (String × D)} {ρ : Sto}, (∀ p ∈ ps, sc.names.lookup (Str.ofString p.1) = some .local) → ∀ {A env V0 h0 Cs X s vs}, Fm c sc env V0 h0 Cs X ρ s → RepL c (Vol V0 X) s (ps.map (·.2)) vs →
    wpAny c.M A (assignInOrder ((ps.map fun p => Str.ofString p.1).map fun n => bindName env n) vs) (fun _ s' => ∃ X', Stp X s X' s' ∧ Fm c sc env V0 h0 Cs X' (setAll ρ ps) s') (fun _ _ => False) s
  | [], ρ, _, A, env, V0, h0, Cs, X, s, vs, F, r => wpAny_pure ⟨X, .refl X s, F⟩
  | (x, d) :: ps, ρ, hk, A, env, V0, h0, Cs, X, s, vs, F, r => by
    cases r with
    | cons r rs =>
      have hx := hk _ (.head _)
      refine wpAny_bind (wpAny_holding (wpAny_bindName (wpAny_mono (F.store (.refl s) (fun q => by rw [hx] at q; cases q) (.inl hx) (RepS.ofRep (r.weak fun _ q => q.2)) .nil fun _ ha => nomatch ha) (fun _ s' q => ?_) fun _ _ q => q)))
      obtain ⟨X', g, F'⟩ := q
      exact wpAny_mono (storeAll (fun p hp => hk p (.tail _ hp)) F' (rs.stp g)) (fun _ s'' q => let ⟨X'', g', F''⟩ := q; ⟨X'', g.trans g', F''⟩) fun _ _ q => q

/-- a, b = (.., ..): the stores from the last to the first -/
theorem Sx.assignW {ts : List Expr} {kk : Nat} {tp pos : Pos} {e : Expr} {ps : List (String × D)} (h : Ev c n sc true ρ e (.tuple (ps.map (·.2)))) (hk : (ps.all fun p => sc.names.lookup (Str.ofString p.1) == some .local) = true)
    (hw : ∀ env : Env, env.scope = sc → swappedStores [.Tuple ts kk tp] e env = pure (some (ps.map fun p => Str.ofString p.1)))
    (hs : ∀ env : Env, swapsWithSole [.Tuple ts kk tp] e pos.line env = pure false := by intro _; rfl) (hn : c.hn := by assumption) : Sn c n sc ρ (.Assign [.Tuple ts kk tp] e pos) (setAll ρ ps.reverse) := .mk fun A env V0 h0 Cs X s hA hO F => by
  refine Assign_Tuple_swapped (wpAny_mono (h.run A env V0 h0 Cs X s hA F) (fun v s₁ q => ?_) fun _ _ q => q) (hs env) (hw env F.scope)
  obtain ⟨g, r⟩ := q
  have r' : Rep c (Vol V0 X) s₁ (.tuple (ps.map (·.2))) v := r.weak fun _ q => ⟨rfl, q⟩
  cases r' with
  | @tuple a o vs nn _ na ho hcl hd hdt rl =>
    have hl : vs.size = ps.length := by have := rl.length; simpa using this.symm
    have : (ps.map fun p => Str.ofString p.1).length = vs.size := by simp [hl]
    rw [this]
    refine unpackItems_tuple (hA.handled hn) ⟨o, ho, hcl, _, hdt⟩ fun h' he => ?_
    have g' := Gr.ext he
    have F' := (F.gr g).gr g'
    have hr : RepL c (Vol V0 X) { s₁ with heap := h' } (ps.reverse.map (·.2)) vs.toList.reverse := by
      have hrev : ∀ {ds : List D} {us : List Value} {st : Shared}, RepL c (Vol V0 X) st ds us → RepL c (Vol V0 X) st ds.reverse us.reverse := by
        intro ds us st hh
        induction ds generalizing us with
        | nil => cases hh; exact .nil
        | cons d ds ih => cases hh with
          | cons a b => rw [List.reverse_cons, List.reverse_cons]; exact (ih b).append (.cons a .nil)
      have := hrev (rl.gr g')
      rw [← List.map_reverse] at this; exact this
    have hst := storeAll (c := c) (sc := sc) (A := A) (ps := ps.reverse) (ρ := ρ) (fun p hp => by simpa using List.all_eq_true.mp hk p (List.mem_reverse.mp hp)) F' hr
    rw [List.map_reverse] at hst
    refine wpAny_mono hst (fun _ s₂ q => ?_) fun _ _ q => q
    obtain ⟨X', g2, F2⟩ := q
    exact ⟨X', _, .next, (Stp.of_gr (g.trans g')).trans g2, F2, .next, rfl, rfl⟩
end
end Mine
namespace Mine

noncomputable def wordsOf (r nm : List Nat) : List Nat := cs "cannot serialize " ++ r ++ cs " (type " ++ nm ++ cs ")"

end Mine
namespace Mine
section
variable {prog : Program} {w : World} {A : Around} {E : Value → Shared → Prop} {s : Shared}

/-- type(x).__name__ of a built-in type -/
theorem tyname_wp {T q : String} {expr : Bool} {Q : Value → Shared → Prop} (ht : kitMeta T = true) (hs : Manifest.isStub T = false)
    (e : findCls [] (.type T) (.type "type") "__name__" = some (.get (.builtin "getset_descriptor.__get__") (.builtin "type.__name__") (.type T) (.type "type"))) (hq : ktynFast T = q) (hz : (Str.ofString q).length ≤ sizeLine)
    (h : ∀ tk u, Q (.str (Str.ofString q) tk) { s with toks := u }) : wpAny (model prog w) A (getAttr (.type T) "__name__" expr) Q E s := by
  have X : Frag.In [] s.heap := fun _ _ e => nomatch e
  have hstub : opaqueClassAbove (.type T) = pure none := by unfold opaqueClassAbove; dsimp only; rw [hs]; rfl
  have L0 : Looks (model prog w) s.heap (typeOf (.type T)) (.type "type") := Looks.of_pure (kitMeta_of ht)
  have LO : Looks (model prog w) s.heap (opaqueClassAbove (.type T)) none := Looks.of_pure hstub
  have hg : findIn [] (.type "type") "__getattribute__" = some (some (.builtin "type.__getattribute__")) := type_tga
  refine cls_open X LO L0 hg (looks_hook X (r := none) (by rfl)) (by show subIn [] _ _ = _; rfl) e ?_
  show wpAny _ _ (do ret (← holding [Value.builtin "type.__name__"] (call (.builtin "getset_descriptor.__get__") [.builtin "type.__name__", .type T, .type "type"]))) _ _ _
  refine wpAny_bind (wpAny_holding (wpAny_call (ktyn_get (s := { s with toks := s.toks + 1 }) (kitMeta_of ht) hq hz ?_)))
  exact wpAny_pure (handed_on rfl (h _ _))

noncomputable abbrev intL (i : Int) : List Nat := cs (toString i)
end

theorem slot_bytes_repr : PySem.Slot "bytes" "__repr__" "bytes.__repr__" :=
  .of (owner := "bytes") (n := "__repr__") (by rw [typeLookup_type, builtinLookup_eq_fast]; kernel_rfl) (by decide +kernel) (by decide +kernel) (by decide +kernel)
    (by first | exact .inl (by decide +kernel) | exact .inr (by decide +kernel)) (by rw [isSubtype_type]; kernel_rfl)
theorem entry_bytes_repr : entryFor table "bytes.__repr__" = some Builtin.«bytes.__repr__» := entryFor_of_tree (by kernel_rfl)
theorem args_bytes_repr (a : Value) : argsOk "bytes.__repr__" ⟨[a], []⟩ := by unfold argsOk; kernel_rfl
theorem gives_bytes1 (t : Tok) : Gives (Builtin.«bytes.__repr__» ⟨[.bytes #[97, 38, 98] t], []⟩) (.str "b'a&b'") := .of_eq (by kernel_rfl)
section
variable {prog : Program} {w : World} {A : Around} {E : Value → Shared → Prop} {s : Shared}
end
end Mine
namespace Mine

/-- the same context while an exception may be handled -/
noncomputable abbrev Cx.h (c : Cx) : Cx := { c with hn := False }
mutual
theorem Rep.cx {c c' : Cx} (hw : c.w = c'.w) {V : Addr → Prop} {s : Shared} : ∀ {d v}, Rep c V s d v → Rep c' V s d v
  | _, _, .none => .none
  | _, _, .bool b => .bool b
  | _, _, .int i t => .int i t
  | _, _, .str x t => .str x t
  | _, _, .tstr x t h1 h2 => .tstr x t h1 h2
  | _, _, .bytes b t => .bytes b t
  | _, _, .val v => .val v
  | _, _, .range na h => .range na h
  | _, _, .list na ho hcl hd hdt r => .list na ho hcl hd hdt (RepL.cx hw r)
  | _, _, .tuple na ho hcl hd hdt r => .tuple na ho hcl hd hdt (RepL.cx hw r)
  | _, _, .dict na hsm ho hx hdt r => .dict na hsm ho hx hdt (RepD.cx hw r)
theorem RepL.cx {c c' : Cx} (hw : c.w = c'.w) {V : Addr → Prop} {s : Shared} : ∀ {d v}, RepL c V s d v → RepL c' V s d v
  | _, _, .nil => .nil
  | _, _, .cons r rs => .cons (Rep.cx hw r) (RepL.cx hw rs)
theorem RepD.cx {c c' : Cx} (hw : c.w = c'.w) {V : Addr → Prop} {s : Shared} : ∀ {d v}, RepD c V s d v → RepD c' V s d v
  | _, _, .nil => .nil
  | _, _, .cons hk hh r rs => .cons hk (hw ▸ hh) (Rep.cx hw r) (RepD.cx hw rs)
end
mutual
theorem RepS.cx {c c' : Cx} (hw : c.w = c'.w) {V : Addr → Prop} {s : Shared} : ∀ {d v fp}, RepS c V s d v fp → RepS c' V s d v fp
  | _, _, _, .val r => .val (r.cx hw)
  | _, _, _, .res h => .res h
  | _, _, _, .own ho hcl hd hdt r => .own ho hcl hd hdt (RepSL.cx hw r)
theorem RepSL.cx {c c' : Cx} (hw : c.w = c'.w) {V : Addr → Prop} {s : Shared} : ∀ {d v fp}, RepSL c V s d v fp → RepSL c' V s d v fp
  | _, _, _, .nil => .nil
  | _, _, _, .cons r rs => .cons (RepS.cx hw r) (RepSL.cx hw rs)
end
theorem StoR.cx {c c' : Cx} (hw : c.w = c'.w) {env : Env} {V : Addr → Prop} {s : Shared} {m : Str → Option Value} : ∀ {ρ fps}, StoR c env V s m ρ fps → StoR c' env V s m ρ fps
  | _, _, .nil => .nil
  | _, _, .cons l r rs => .cons l (r.cx hw) (rs.cx hw)
/-- another base under the same frame -/
theorem Fm.cx {c c' : Cx} {sc env V0 h0 Cs X ρ s} (F : Fm c sc env V0 h0 Cs X ρ s) (hw : c.w = c'.w) (hg : c'.Good) (hb : Keeps c'.base h0) : Fm c' sc env V0 h0 Cs X ρ s :=
  ⟨hg, F.scope, F.kind, F.globals, F.builtins, hb, F.keep, F.tok, F.live0, F.ccells, F.new, F.cells, F.cinj,
   let ⟨m, fps, h1, h2, h3, h4, h6, h5⟩ := F.sto; ⟨m, fps, h1, h2, h3, h4, h6, h5.cx hw⟩⟩
theorem Fm.h {c : Cx} {sc env V0 h0 Cs X ρ s} (F : Fm c sc env V0 h0 Cs X ρ s) : Fm c.h sc env V0 h0 Cs X ρ s := F.cx rfl ⟨F.good.g, F.good.b, F.good.lim⟩ F.base
theorem Room.h {c : Cx} {n : Nat} {A : Around} (h : Room c n A) (v : Option Value) : Room c.h n (A.mark v) := ⟨fun q => q.elim, h.depth, h.units⟩
/-- an exception flies: it has left the frames above l; all of B is as it was -/
structure Fly (B : Heap) (l : List Env) (T : String) (m : List Nat) (s : Shared) (ev : Value) (s' : Shared) : Prop where
  ex : ∃ e t tk, ev = .ref e ∧ Heap.FlyingW B l e (.type T) (.ref t) s'.heap ∧ s'.heap.TupAt t [.str (S m) tk] ∧ B.get? t = none
  up : s.heap.UpToSlots s'.heap
  tok : s.toks ≤ s'.toks
  gens : s'.gens = s.gens
  os : s'.os = s.os

/-- what is known of the stack -/
structure Stk (c : Cx) (A : Around) (B : Heap) (l : List Env) (h : Heap) : Prop where
  stack : A.frames = some l
  base : Keeps c.base B
  stays : B.StaysIn h
  frames : h.FunFrames B l
theorem Stk.gr {c : Cx} {A B l s s'} (K : Stk c A B l s.heap) (g : Gr s s') : Stk c A B l s'.heap :=
  ⟨K.stack, K.base, fun b o e => g.keep _ _ (K.stays b o e), K.frames.of_keeps fun b o e _ => ⟨o, g.keep _ _ e, rfl⟩⟩
theorem Stk.mark {c : Cx} {A B l h} (K : Stk c A B l h) (v : Option Value) : Stk c (A.mark v) B l h := ⟨K.stack, K.base, K.stays, K.frames⟩

/-- nothing is handled, or an exception without a context -/
noncomputable def Hnd (A : Around) (h : Heap) : Prop := A.handled = none ∨ ∃ e0 o vs, A.handled = some (.ref e0) ∧ h.get? e0 = some o ∧ o.data = .fields vs ∧ vs[2]? = some .none
theorem Hnd.keeps {A : Around} {h h' : Heap} (x : Hnd A h) (k : Keeps h h') : Hnd A h' := by
  rcases x with x | ⟨e0, o, vs, h1, h2, h3⟩
  · exact .inl x
  · exact .inr ⟨e0, o, vs, h1, k _ _ h2, h3⟩

/-- f called with ds raises T(m) -/
structure FnX (c : Cx) (n : Nat) (f : Value) (ds : List D) (T : String) (m : List Nat) : Prop where
  run : ∀ A V s vs B l, Room c n A → Hnd A s.heap → Stk c A B l s.heap → (∀ a ∈ l.filterMap (·.frame), V a) → St c V s → RepL c V s ds vs → wpAny c.M A (call f vs) (fun _ _ => False) (Fly B l T m s) s

/-- a def is entered -/
theorem fn_enter {c : Cx} {n : Nat} {a : Addr} {sc : Scope} {ps : List String} {body : List Stmt} {ds : List D} (hd : IsDefL c a sc ps body) (hl : ps.length = ds.length) {A : Around} {V : Addr → Prop} {s : Shared} {vs : List Value}
    {Q E : Value → Shared → Prop} (hA : Room c (n + 1) A) (hS : St c V s) (r : RepL c V s ds vs)
    (h : ∀ env X s₁, env.frame = some env.locals → s.heap.get? env.locals = none → Gr s s₁ → Fm c sc env V s.heap env.cells X (stoOf ps ds) s₁ → Own sc env.cells → (∀ a ∈ X, s.heap.get? a = none) →
      wpAny c.M (A.deeper env) (execs body env) (fun f s' => s.toks ≤ s'.toks → Q (match f with | .ret v => v | _ => .none) s') (fun e s' => wpAny c.M (A.deeper env) (leaving env e) (fun _ s'' => s.toks ≤ s''.toks → E e s'') (fun e' s'' => s.toks ≤ s''.toks → E e' s'') s') s₁) :
    wpAny c.M A (call (.ref a) vs) Q E s := by
  obtain ⟨o, fd, ho, hdat, hbody, hsc, hclo, hgl, hbl, hcd, hbind⟩ := hd.ex
  subst hsc
  have hvl : vs.length = ps.length := by rw [← r.length, hl]
  have hbs := hbind vs hvl
  have hkinds : ∀ x ∈ bindsOf ps vs, fd.scope.names.lookup x.1 = some .local ∨ (fd.scope.names.lookup x.1 = some .cell ∧ ((cellsFrom (s.heap.objs.size + 1) fd.scope.names []).lookup x.1).isSome = true) := fun x hx => by
    obtain ⟨x1, x2⟩ := x
    have := List.of_mem_zip hx
    obtain ⟨p, hp, e⟩ := List.mem_map.mp this.1
    subst e
    rcases hd.kinds p hp with q | q
    · exact .inl q
    · exact .inr ⟨q, cellsFrom_has _ _ _ q⟩
  have hnames : ((bindsOf ps vs).map (·.1)).Nodup := by
    unfold bindsOf
    rw [List.map_fst_zip (by simp [hvl])]
    have : ∀ l : List String, l.Nodup → (l.map Str.ofString).Nodup := by
      intro l hl
      induction l with
      | nil => exact .nil
      | cons x l ih =>
        rw [List.map_cons, List.nodup_cons]
        refine ⟨fun q => ?_, ih (List.nodup_cons.mp hl).2⟩
        obtain ⟨y, hy, e⟩ := List.mem_map.mp q
        exact (List.nodup_cons.mp hl).1 (ofString_inj e ▸ hy)
    exact this ps hd.nodup
  refine wpAny_with_toks (Nat.le_refl _) (wpAny_call (codeAny_mono (R := fun r s' => match r with | .ok (.ret v) => s.toks ≤ s'.toks → Q v s' | .ok _ => False | .error e => s.toks ≤ s'.toks → E e s') ?_ (fun r s' q => ?_)))
  · refine codeAny_call_function hA.lim (hS.keep _ _ ho) hdat hd.co hd.gen hbody (hcd.keeps hS.keep) ?_
    rw [hbs, hclo]
    refine wpAny_pure (wpAny_with_toks (Nat.le_refl _) (wpAny_newFunctionEnv_cells hd.kind hkinds fun env he s₁ x htok => ?_))
    subst he
    refine ⟨(hS.good.lim.keeps hS.keep).keeps x.toInCall.keep, codeAny_func ?_⟩
    -- the body
    have hk₁ : Keeps s.heap s₁.heap := x.toInCall.keep
    have hca := x.apart
    obtain ⟨h₁, tk, rfl⟩ := x.toInCall.same
    have hcellAt : ∀ y b, (y, b) ∈ (callEnvC fd s.heap.objs.size a).cells → (callEnvC fd s.heap.objs.size a).cells.lookup y = some b := fun y b hm => by
      have hnd : ((cellsFrom (s.heap.objs.size + 1) fd.scope.names []).map (·.1)).Nodup := cellsFrom_shift fd.scope.names 0 (s.heap.objs.size + 1) [] [] rfl ▸ hd.cnd
      exact lookup_of_mem_nodup hnd hm
    have htk : 0 < tk := Nat.lt_of_lt_of_le hS.pos htok
    have gr₁ : Gr s { s with heap := h₁, toks := tk } := ⟨hk₁, htok, rfl, rfl⟩
    have hnew : ∀ b ∈ s.heap.objs.size :: ((callEnvC fd s.heap.objs.size a).cells.map (·.2) ++ []), s.heap.get? b = none := fun b hb => by
      have : s.heap.objs.size ≤ b := by
        rcases List.mem_cons.mp hb with q | q
        · exact Nat.le_of_eq q.symm
        · rw [List.append_nil] at q
          obtain ⟨p, hp, rfl⟩ := List.mem_map.mp q
          exact Nat.le_of_lt (x.above p.1 p.2 hp)
      cases e : s.heap.get? b with
      | none => rfl
      | some o' => exact absurd (Heap.lt_size e) (Nat.not_lt.mpr this)
    have F : Fm c fd.scope (callEnvC fd s.heap.objs.size a) V s.heap (callEnvC fd s.heap.objs.size a).cells (s.heap.objs.size :: ((callEnvC fd s.heap.objs.size a).cells.map (·.2) ++ [])) (stoOf ps ds) { s with heap := h₁, toks := tk } := by
      refine ⟨hS.good, rfl, hd.kind, hgl, hbl, hS.keep, hk₁, Nat.ne_of_gt htk, (fun b q => by
        obtain ⟨o', e⟩ := hS.live b q
        exact ⟨⟨o', hk₁ _ _ e⟩, fun hb => by rw [hnew b hb] at e; cases e⟩), (fun y hy => by
        rcases hy with hy | hy
        · exact Option.isSome_iff_exists.mp (cellsFrom_has fd.scope.names (s.heap.objs.size + 1) [] hy)
        · exact absurd hy (hd.nofree y)), hnew, fun _ _ q => q, fun y z b hy hz => lookup_inj hca hy hz,
        ⟨_, [], x.toInCall.ns, rfl, ?_, fun b hb => ?_, fun p hp => ⟨_, x.cell p.1 p.2 (hcellAt _ _ hp)⟩, ?_⟩⟩
      · rw [List.append_nil]
        refine List.nodup_cons.mpr ⟨fun q => ?_, ?_⟩
        · obtain ⟨p, hp, e⟩ := List.mem_map.mp q
          have := x.above p.1 p.2 hp
          exact Nat.lt_irrefl _ (e ▸ this)
        · exact List.pairwise_map.mpr hca
      · rcases List.mem_cons.mp hb with q | q
        · obtain ⟨oL, _, _, e, _⟩ := x.toInCall.ns
          exact ⟨oL, q ▸ e⟩
        · rw [List.append_nil] at q
          obtain ⟨p, hp, rfl⟩ := List.mem_map.mp q
          obtain ⟨oc, e, _⟩ := x.cell p.1 p.2 (hcellAt _ _ hp)
          exact ⟨oc, e⟩
      · have r2 : RepL c (Vol V (s.heap.objs.size :: ((callEnvC fd s.heap.objs.size a).cells.map (·.2) ++ []))) { s with heap := h₁, toks := tk } ds vs :=
          (r.ext (W := fun b => b ∈ s.heap.objs.size :: ((callEnvC fd s.heap.objs.size a).cells.map (·.2) ++ [])) hnew).gr gr₁
        refine repL_zip r2 hl _ _ fun p v hm hp => ?_
        rcases hd.kinds p hp with q | q
        · exact .loc q (bindL_at q _ _ hnames hm)
        · obtain ⟨b, hb⟩ := Option.isSome_iff_exists.mp (cellsFrom_has fd.scope.names (s.heap.objs.size + 1) [] q)
          obtain ⟨oc, e, hdc⟩ := x.cell _ _ hb
          refine .cell (.inl q) hb e (hdc.trans ?_)
          have : bindC (callEnvC fd s.heap.objs.size a).kindOf (bindsOf ps vs) (fun _ => none) (Str.ofString p) = some v := bindC_at (by
            show fd.scope.names.lookup _ ≠ _
            rw [q]; decide) _ _ hnames hm
          exact congrArg _ this
    exact wpAny_mono (h _ _ _ rfl (hnew _ (.head _)) gr₁ F (fun y hy => Option.isSome_iff_exists.mp (cellsFrom_has fd.scope.names (s.heap.objs.size + 1) [] hy)) hnew) (fun f s' q => q) fun _ _ q => q
  · cases r with
    | error e => exact q
    | ok f =>
      cases f with
      | ret v => exact q
      | _ => exact q.elim

end Mine
namespace Mine

theorem entry_unchain : entryFor table "proto.unchain" = some Builtin.«proto.unchain» := entryFor_of_tree (by kernel_rfl)
/-- an exception of one argument tuple -/
noncomputable abbrev excObj (T : String) (t : Addr) (tb cx : Value) : Obj := { cls := .type T, data := .fields #[.ref t, tb, cx, .none, .bool false, .none] }
section
variable {prog : Program} {w : World} {A : Around} {E : Value → Shared → Prop} {s : Shared}

theorem unchain_wp {e e0 : Addr} {o : Obj} {vs : Array Value} {Q : Value → Shared → Prop} (ho : s.heap.get? e0 = some o) (hd : o.data = .fields vs) (h2 : vs[2]? = some .none) (h : Q .none s) :
    wpAny (model prog w) A (runValue (.builtin "proto.unchain" ⟨[.ref e, .ref e0, .ref e0, .bool false], []⟩)) Q E s := by
  refine wpAny_runValue (codeAny_builtin entry_unchain ?_)
  unfold Builtin.«proto.unchain»
  dsimp only
  refine wpAny_bind (wpAny_field ho hd h2 ?_)
  rw [if_pos (by rfl)]
  first | exact wpAny_pure h | exact h

theorem raiseNew_made {α : Type} {T : String} {e t : Addr} {Q : α → Shared → Prop} (hH : Hnd A s.heap) (he : s.heap.get? e = some (excObj T t .none .none)) (hne : ∀ e0, A.handled = some (.ref e0) → e0 ≠ e)
    (h : ∀ h' cx, h'.get? e = some (excObj T t .none cx) → Heap.SameBut e s.heap h' → E (.ref e) { s with heap := h' }) : wpAny (model prog w) A (raiseNew (.ref e) : Sem α) Q E s := by
  unfold raiseNew
  refine wpAny_bind (wpAny_handled ?_)
  rcases hH with hh | ⟨e0, o, vs, hh, ho, hd, h2⟩
  · rw [hh]
    have := h s.heap .none he (.refl _ _)
    first
      | exact wpAny_throw this
      | exact wpAny_bind (wpAny_pure (wpAny_throw this))
  · rw [hh]
    have hb : (Value.ref e0 != Value.ref e) = true := by simpa using hne e0 hh
    dsimp only
    rw [if_pos hb]
    refine wpAny_bind (wpAny_holding (unchain_wp ho hd h2 ?_))
    show wpAny (model prog w) A (setField (.ref e) 2 (.ref e0) >>= fun _ => throw (.ref e)) Q E s
    refine wpAny_bind (wpAny_setField (i := 2) (x := .ref e0) he rfl (by simp) (wpAny_throw (h _ (.ref e0) ?_ (.update _ _ _))))
    exact Heap.get?_update_self _ he rfl

theorem raiseStmt_madeH {T : String} (F : ExcRaiseFacts T) {env : Env} {x : Sem Value} {Q : Flow → Shared → Prop}
    (h : wpAny (model prog w) A x (fun v s₁ => ∃ e t, v = .ref e ∧ s₁.heap.get? e = some (excObj T t .none .none) ∧ Hnd A s₁.heap ∧ (∀ e0, A.handled = some (.ref e0) → e0 ≠ e) ∧
      ∀ h' cx, h'.get? e = some (excObj T t .none cx) → Heap.SameBut e s₁.heap h' → E (.ref e) { s₁ with heap := h' }) E s) :
    wpAny (model prog w) A (raiseStmt env (some x) none) Q E s := by
  unfold raiseStmt
  refine wpAny_bind (wpAny_mono h (fun v s₁ h₁ => ?_) fun _ _ x => x)
  obtain ⟨e, t, rfl, he, hH, hne, hE⟩ := h₁
  obtain ⟨hp, g, d, tk, os⟩ := s₁
  have hsub := F.isExc
  have hmeta := F.plainMeta
  repeat (first | refine wpAny_loadPart he ?_ | wp_step)
  exact raiseNew_made hH he hne hE

/-- raise X(..) with a built-in class, whatever is handled -/
theorem Raise_callH {cls newId initId : String} (F : ExcCallFacts cls newId initId) (G : ExcRaiseFacts cls) {env : Env} {x : Str} {np cpos pos : Pos} {args : List Expr} {Q : Flow → Shared → Prop} (hplain : (backTo cpos (starEach args env)).any (·.1) = false)
    (h : wpAny (model prog w) A (eval (.Name x np) env) (fun f s₁ => f = .type cls ∧ wpAny (model prog w) A (evalArgs (.type cls) true (backTo cpos (starEach args env)) [])
      (fun a s₂ => a.kw = [] ∧ a.pos.length ≤ sizeLine ∧ Hnd A s₂.heap ∧ (∀ e0, A.handled = some (.ref e0) → ∃ o, s₂.heap.get? e0 = some o) ∧
        ∀ h' e t cx, (∀ b o, s₂.heap.get? b = some o → h'.get? b = some o) → s₂.heap.get? e = none → s₂.heap.get? t = none → h'.get? e = some (excObj cls t .none cx) → h'.get? t = some { cls := .type "tuple", data := .seq a.pos.toArray } → E (.ref e) { s₂ with heap := h' }) E s₁) E s) :
    wpAny (model prog w) A (exec (.Raise (some (.Call (.Name x np) args [] cpos)) none pos) env) Q E s := by
  rw [arm_exec_Raise]
  show wpAny _ A (do standAt pos; raiseStmt env (some (do let v ← eval (.Call (.Name x np) args [] cpos) env; standAt pos; pure v)) none) Q E s
  refine wpAny_bind (wpAny_standAt (raiseStmt_madeH G (wpAny_bind (wpAny_Call_ofName (wpAny_mono h (fun f s₁ h₁ => ?_) fun _ _ x => x)))))
  obtain ⟨rfl, h₁⟩ := h₁
  refine callWith_excType hplain (wpAny_mono h₁ (fun a s₂ h₂ => ?_) fun _ _ x => x)
  obtain ⟨apos, akw⟩ := a
  obtain ⟨hkw, hlen, hH, hlv, h₂⟩ := h₂
  obtain rfl : akw = [] := hkw
  obtain ⟨hp, g, d, tk, os⟩ := s₂
  refine wpAny_call_exc F (hrest := hlen) fun h' e hm => wpAny_bind (wpAny_standAt (wpAny_pure ?_))
  obtain ⟨t, ht, htn, htt⟩ := hm.there
  refine ⟨e, t, rfl, ht, hH.keeps hm.keeps, fun e0 q r => ?_, fun h'' cx he hs => h₂ h'' e t cx (fun b o q => ?_) hm.new htn he ((hs.2 t fun q => ?_).trans htt)⟩
  · obtain ⟨o, ho⟩ := hlv e0 q
    rw [r] at ho
    have := hm.new
    rw [show ({ heap := hp, gens := g, drawn := d, toks := tk, os := os } : Shared).heap = hp from rfl] at ho
    rw [ho] at this; cases this
  · refine (hs.2 b fun r => ?_).trans (hm.keeps b o q)
    have q' : hp.get? b = some o := q
    have := hm.new
    rw [← r, q'] at this; cases this
  · rw [q, ht] at htt
    cases htt
end
end Mine
namespace Mine
section
variable {c : Cx} {n : Nat} {sc : Scope} {k : Bool} {ρ : Sto}

theorem Ev.fmt {e : Expr} {pos : Pos} {l : List Nat} (h : Ev c n sc k ρ e (sd l)) (hz : l.length ≤ 16777216) : Ev c n sc k ρ (.FormattedValue e (-1) Option.none pos) (sd l) := .mk fun A env V0 h0 Cs X s hA F => by
  refine FormattedValue_plain (wpAny_mono (h.run A env V0 h0 Cs X s hA F) (fun v s₁ q => ?_) fun _ _ q => q)
  obtain ⟨g, r⟩ := q
  cases r with
  | str _ t => exact wp_gr g (wp_end (formatField_str (fun t' tk => ⟨fun _ _ e => e, rfl, rfl, fun _ => .str _ _⟩) (by rw [S_length, sizeLine_eq]; exact hz)))

theorem TruR.none : TruR c .none false := fun A V s v _ _ r => by cases r; exact fun _ _ _ => ⟨.refl s, rfl⟩
theorem TruR.text {l : List Nat} (hz : l.length ≤ 16777216) : TruR c (sd l) (decide (l ≠ [])) := fun A V s v _ _ r => by
  cases r with
  | str _ t =>
    refine wp_end (PySem.P.truthy_str (by rw [S_length]; omega) ⟨fun _ _ e => e, rfl, rfl, fun _ => ?_⟩)
    rw [S_length]
    cases l with
    | nil => rfl
    | cons a l => simp; omega

/-- the parts of a text that is put together -/
structure EvJ (c : Cx) (n : Nat) (sc : Scope) (ρ : Sto) (es : List Expr) (l : List Nat) : Prop where
  run : ∀ A env V0 h0 Cs X s out, Room c n A → Fm c sc env V0 h0 Cs X ρ s → out.length + l.length ≤ 16777216 →
    wpAny c.M A (joinParts (S out) (evalEach es env)) (fun v s' => Gr s s' ∧ ∃ t, v = .str (S (out ++ l)) t) (fun _ _ => False) s
theorem EvJ.nil : EvJ c n sc ρ [] [] := .mk fun A env V0 h0 Cs X s out hA F hz =>
  wp_end (joinParts_nil ⟨fun _ _ e => e, rfl, rfl, fun _ => ⟨_, by rw [List.append_nil]⟩⟩ (by rw [S_length, sizeLine_eq]; omega))
theorem EvJ.cons {e : Expr} {es : List Expr} {l m : List Nat} (h : Ev c n sc true ρ e (sd l)) (hs : EvJ c n sc ρ es m) : EvJ c n sc ρ (e :: es) (l ++ m) := .mk fun A env V0 h0 Cs X s out hA F hz => by
  refine joinParts_cons (wpAny_mono (h.run A env V0 h0 Cs X s hA F) (fun v s₁ q => ?_) fun _ _ q => q)
  obtain ⟨g, r⟩ := q
  simp at hz
  cases r with
  | str _ t =>
    refine ⟨by rw [S_append, S_length, sizeLine_eq]; simp; omega, ?_⟩
    rw [S_append]
    refine wpAny_mono (hs.run A env V0 h0 Cs X s₁ (out ++ l) hA (F.gr g) (by simp; omega)) (fun v s₂ q => ⟨g.trans q.1, ?_⟩) fun _ _ q => q
    obtain ⟨t', e⟩ := q.2
    exact ⟨t', by rw [e, List.append_assoc]⟩
theorem Ev.joined {e₁ e₂ : Expr} {es : List Expr} {pos : Pos} {l : List Nat} (h : EvJ c n sc ρ (e₁ :: e₂ :: es) l) (hz : l.length ≤ 16777216) : Ev c n sc k ρ (.JoinedStr (e₁ :: e₂ :: es) pos) (sd l) := .mk fun A env V0 h0 Cs X s hA F =>
  JoinedStr_many (wpAny_mono (h.run A env V0 h0 Cs X s [] hA F (by simpa using hz)) (fun v s' q => ⟨q.1, by obtain ⟨t, rfl⟩ := q.2; exact .str _ _⟩) fun _ _ q => q)
end
end Mine
namespace Mine

/-- facts of a built-in type's name -/
structure NameOk (T : String) : Prop where
  nb : (Value.type T == Value.type "builtin_function_or_method") = false
  km : kitMeta T = true
  st : Manifest.isStub T = false
  fc : findCls [] (.type T) (.type "type") "__name__" = some (.get (.builtin "getset_descriptor.__get__") (.builtin "type.__name__") (.type T) (.type "type"))
  q : ktynFast T = T
  z : (cs T).length ≤ 1000
theorem nameOk_int : NameOk "int" := ⟨by decide, by decide +kernel, by decide +kernel, by rfl, by decide +kernel, by decide +kernel⟩
theorem nameOk_none : NameOk "NoneType" := ⟨by decide, by decide +kernel, by decide +kernel, by rfl, by decide +kernel, by decide +kernel⟩
theorem nameOk_bytes : NameOk "bytes" := ⟨by decide, by decide +kernel, by decide +kernel, by rfl, by decide +kernel, by decide +kernel⟩

/-- d is of the type T and is written r -/
structure ReprOf (c : Cx) (d : D) (r : List Nat) (T : String) : Prop where
  ty : ∀ V s v, Rep c V s d v → s.TypeIs v T
  nm : NameOk T
  len : r.length ≤ 1000000
  run : ∀ A V s v, Room c 0 A → St c V s → Rep c V s d v → wpAny c.M A (pyReprObj v) (fun o s' => (∃ t', o = .str (S r) t') ∧ Gr s s') (fun _ _ => False) s

section
variable {c : Cx} {n : Nat} {sc : Scope} {k : Bool} {ρ : Sto}

theorem ReprOf.int {i : Int} (hi : i.natAbs.log2 < 1920) : ReprOf c (.int i) (intL i) "int" :=
  ⟨fun V s v r => by cases r; exact typeIs_int _ _ _, nameOk_int, by
    have e := int_text_length_le (k := 1920) (by decide) hi
    have e2 : (S (intL i)).length = (toString i).length := by rw [← ofString_S]; exact PySem.ofString_length _
    rw [S_length] at e2
    omega, fun A V s v _ _ r => by
    cases r
    exact wpAny_with_toks (Nat.le_refl _) (pyReprObj_int hi fun ht => ⟨⟨_, by rw [ofString_S]⟩, Keeps.refl _, ht, rfl, rfl⟩)⟩
theorem ReprOf.none : ReprOf c .none (cs "None") "NoneType" :=
  ⟨fun V s v r => by cases r; exact rfl, nameOk_none, by decide +kernel, fun A V s v _ _ r => by
    cases r
    exact wpAny_with_toks (Nat.le_refl _) (pyReprObj_none fun ht => ⟨⟨_, by rw [ofString_S]⟩, Keeps.refl _, ht, rfl, rfl⟩)⟩
theorem ReprOf.bytes1 : ReprOf c (.bytes [97, 38, 98]) (cs "b'a&b'") "bytes" :=
  ⟨fun V s v r => by cases r; exact rfl, nameOk_bytes, by decide +kernel, fun A V s v _ _ r => by
    cases r
    exact wpAny_with_toks (Nat.le_refl _) (wpAny_pyReprObj_gives (T := "bytes") rfl slot_bytes_repr entry_bytes_repr (args_bytes_repr _) (gives_bytes1 _) (fun ht => ⟨⟨_, by rw [ofString_S]⟩, Keeps.refl _, ht, rfl, rfl⟩) rfl (by decide +kernel))⟩

theorem FnR.typeOf {d : D} {r : List Nat} {T : String} (h : ReprOf c d r T) : FnR c n (.type "type") [d] (.val (.type T)) := .mk fun A V s vs hA hS rs => by
  cases rs with
  | cons r rs => cases rs; exact call_type_of (h.ty _ _ _ r) h.nm.nb ⟨.refl s, .val _⟩

theorem Ev.tyname {e : Expr} {p1 p2 p3 : Pos} {d : D} {r : List Nat} {T : String} (hb : c.mg (Str.ofString "type") = Option.none ∧ c.mb (Str.ofString "type") = some (.type "type")) (h : ReprOf c d r T) (he : Ev c n sc k ρ e d)
    (hg : sc.names.lookup (Str.ofString "type") = some .globalImplicit := by rfl) (hp : plainE e = true := by rfl)
    (hc : ∀ env : Env, PySem.eval (.Call (.Name (Str.ofString "type") p1) [e] [] p2) env = (do callWith p2 (← PySem.eval (.Name (Str.ofString "type") p1) env) [] (backTo p2 (starEach [e] env)) (backToKw p2 (keywordEach [] env))) := by intro _; rfl)
    (ha : ∀ env : Env, PySem.eval (.Attribute (.Call (.Name (Str.ofString "type") p1) [e] [] p2) (Str.ofString "__name__") p3) env = (do
      let o ← PySem.eval (.Call (.Name (Str.ofString "type") p1) [e] [] p2) env
      standAt p3.atName
      let r ← holding [o] (getAttr o (Str.ofString "__name__") true)
      letTemporaryGo (.Call (.Name (Str.ofString "type") p1) [e] [] p2) o r
      pure r) := by intro _; rfl) :
    Ev c n sc k ρ (.Attribute (.Call (.Name (Str.ofString "type") p1) [e] [] p2) (Str.ofString "__name__") p3) (sd (cs T)) := .mk fun A env V0 h0 Cs X s hA F => by
  have hcall := Ev.call (k := k) (Ev.blt (k := true) hb.1 hb.2 hg) (.type "type") (.cons he .nil hp) (FnR.typeOf (n := n) h) (by simp [hp]) hc
  refine Attribute_any_ (wpAny_mono (hcall.run A env V0 h0 Cs X s hA F) (fun tv s₁ q => ?_) fun _ _ q => q) (ha env)
  obtain ⟨g, r⟩ := q
  cases r
  refine wp_gr g (wp_end (tyname_wp h.nm.km h.nm.st h.nm.fc h.nm.q ?_ fun tk u => ⟨fun _ _ e => e, rfl, rfl, fun _ => ?_⟩))
  · rw [ofString_S, S_length, sizeLine_eq]; exact Nat.le_trans h.nm.z (by decide)
  · rw [ofString_S]; exact .str _ _

/-- {e!r} -/
theorem Ev.fmtR {e : Expr} {pos : Pos} {d : D} {r : List Nat} {T : String} (he : Ev c n sc k ρ e d) (h : ReprOf c d r T) : Ev c n sc k ρ (.FormattedValue e 114 Option.none pos) (sd r) := .mk fun A env V0 h0 Cs X s hA F => by
  refine wpAny_FormattedValue_repr (wpAny_mono (he.run A env V0 h0 Cs X s hA F) (fun v s₁ q => ?_) fun _ _ q => q)
  obtain ⟨g, rv⟩ := q
  refine wpAny_mono (h.run A _ s₁ v hA.zero ((F.st k).gr g) rv) (fun o s₂ q => ?_) fun _ _ q => q
  obtain ⟨⟨t', rfl⟩, g₂⟩ := q
  exact wp_gr (g.trans g₂) (wp_end (formatField_str (fun t' tk => ⟨fun _ _ e => e, rfl, rfl, fun _ => .str _ _⟩) (by rw [S_length, sizeLine_eq]; exact Nat.le_trans h.len (by decide))))
/-- {e!s} of a text -/
theorem Ev.fmtS {e : Expr} {pos : Pos} {l : List Nat} (he : Ev c n sc k ρ e (sd l)) (hz : l.length ≤ 16777216) : Ev c n sc k ρ (.FormattedValue e 115 Option.none pos) (sd l) := .mk fun A env V0 h0 Cs X s hA F => by
  refine wpAny_FormattedValue_s (wpAny_mono (he.run A env V0 h0 Cs X s hA F) (fun v s₁ q => ?_) fun _ _ q => q)
  obtain ⟨g, rv⟩ := q
  cases rv with
  | str _ t =>
    have hz' : (S l).length ≤ sizeLine := by rw [S_length, sizeLine_eq]; exact hz
    refine wpAny_with_toks (n := s₁.toks) (Nat.le_refl _) (SB.convS_str (fun t' k' => ?_) hz')
    intro ht
    exact wp_gr (g.trans (Gr.toks ht)) (wp_end (formatField_str (fun t'' tk => ⟨fun _ _ e => e, rfl, rfl, fun _ => .str _ _⟩) hz'))

theorem FunFrames_push {B h : Heap} {env : Env} {l : List Env} {L : Addr} {o : Obj} (hk : env.scope.kind ≠ .module) (hf : env.frame = some L) (hn : B.get? L = none) (ho : h.get? L = some o) (hd : ∀ vs, o.data ≠ .fields vs) (hl : h.FunFrames B l) : h.FunFrames B (env :: l) :=
  ⟨hk, ⟨L, o, hf, hn, ho, hd⟩, hl⟩

/-- the stack with the frame at hand -/
theorem Fm.stk {env V0 h0 Cs X s} {A : Around} {B : Heap} {l : List Env} {s₀ : Shared} (F : Fm c sc env V0 h0 Cs X ρ s) (hf : env.frame = some env.locals) (hn : s₀.heap.get? env.locals = Option.none) (K : Stk c A B l s₀.heap) (g : Gr s₀ s) :
    Stk c (A.deeper env) B (env :: l) s.heap := by
  obtain ⟨m, fps, ⟨o, es, ep, ho, hd, _⟩, _⟩ := F.sto
  have K' := K.gr g
  refine ⟨Around.frames_deeper K.stack, K.base, K'.stays, FunFrames_push (by rw [F.scope, F.kind]; decide) hf ?_ ho (fun vs q => by rw [hd] at q; cases q) K'.frames⟩
  cases q : B.get? env.locals with
  | none => rfl
  | some o' => have := K.stays _ _ q; rw [hn] at this; cases this

/-- the def that raises TypeError('cannot serialize %r (type %s)' % (text, type(text).__name__)) -/
theorem raise_fn {a : Addr} {p1 p2 p3 p4 p5 p6 p7 p8 p9 p10 p11 p12 p13 p14 : Pos} {k1 k2 k3 : Nat} {d : D} {r : List Nat} {T : String}
    (hd : IsDefL c a sc ["text"] [.Raise (some (.Call (.Name (Str.ofString "TypeError") p1) [.JoinedStr [.Constant (.str (Str.ofString "cannot serialize ")) k1 p2, .FormattedValue (.Name (Str.ofString "text") p3) 114 none p12, .Constant (.str (Str.ofString " (type ")) k2 p13, .FormattedValue (.Attribute (.Call (.Name (Str.ofString "type") p4) [.Name (Str.ofString "text") p5] [] p6) (Str.ofString "__name__") p7) 115 none p8, .Constant (.str (Str.ofString ")")) k3 p14] p9] [] p10)) none p11])
    (ht : c.mg (Str.ofString "type") = Option.none ∧ c.mb (Str.ofString "type") = some (.type "type")) (hT : c.mg (Str.ofString "TypeError") = Option.none ∧ c.mb (Str.ofString "TypeError") = some (.type "TypeError"))
    (hg : sc.names.lookup (Str.ofString "type") = some .globalImplicit) (hG : sc.names.lookup (Str.ofString "TypeError") = some .globalImplicit)
    (h : ReprOf c d r T) : FnX c (n + 1) (.ref a) [d] "TypeError" (wordsOf r (cs T)) := .mk fun A V s vs B l hA hH K hV hS rv => by
  refine fn_enter hd rfl hA hS rv fun env X s₁ hf hn g F hO hX => ?_
  have K₁ := F.stk hf hn K g
  have hH₁ : Hnd (A.deeper env) s₁.heap := hH.keeps g.keep
  refine wpAny_execs_cons ?_
  have hw : Ev c n sc true [("text", .val d)] (.JoinedStr [.Constant (.str (Str.ofString "cannot serialize ")) k1 p2, .FormattedValue (.Name (Str.ofString "text") p3) 114 none p12, .Constant (.str (Str.ofString " (type ")) k2 p13, .FormattedValue (.Attribute (.Call (.Name (Str.ofString "type") p4) [.Name (Str.ofString "text") p5] [] p6) (Str.ofString "__name__") p7) 115 none p8, .Constant (.str (Str.ofString ")")) k3 p14] p9) (sd (wordsOf r (cs T))) := by
    have e1 : (cs "cannot serialize ").length = 17 := by decide
    have e2 : (cs " (type ").length = 7 := by decide
    have e3 : (cs ")").length = 1 := by decide
    have h1 := h.len
    have h2 := h.nm.z
    refine .to (.joined (.cons .lit (.cons (.fmtR (.name rfl) h) (.cons .lit (.cons (.fmtS (.tyname ht h (.name rfl) hg) (by omega)) (.cons .lit .nil))))) ?_) ?_
    · simp only [List.length_append, e1, e2, e3, List.length_nil]; omega
    · unfold wordsOf; simp only [List.append_assoc, List.append_nil]
  refine Raise_callH PySem.F.excCall_TypeError PySem.F.excRaise_TypeError (noStar_all rfl) (wpAny_mono ((Ev.blt (n := n) (ρ := [("text", .val d)]) (k := true) hT.1 hT.2 hG).run (A.deeper env) env V s.heap _ X s₁ (hA.deeper env) F) (fun f s₂ q => ?_) fun _ _ q => q.elim)
  obtain ⟨g₂, r₂⟩ := q
  cases r₂
  refine ⟨rfl, evalArgs_of rfl (wpAny_mono ((EvL.cons hw .nil).run (A.deeper env) env V s.heap _ X s₂ p10 (hA.deeper env) (F.gr g₂)) (fun vs' s₃ q => ?_) fun _ _ q => q.elim)⟩
  obtain ⟨g₃, r₃⟩ := q
  cases r₃ with
  | cons rs rn => cases rn; cases rs with
    | str _ tk =>
      have g' := g₂.trans g₃
      have K₃ := K₁.gr g'
      refine ⟨rfl, by rw [sizeLine_eq]; show 1 ≤ _; decide, hH₁.keeps g'.keep, fun e0 q => ?_, fun h' e t cx hk he ht' heo hto => ?_⟩
      · rcases hH₁.keeps g'.keep with q' | ⟨e1, o, _, q', ho, _⟩
        · rw [q'] at q; cases q
        · rw [q'] at q; cases q; exact ⟨o, ho⟩
      · have fresh : ∀ b, s₃.heap.get? b = Option.none → B.get? b = Option.none := fun b hb => by
          cases q : B.get? b with
          | none => rfl
          | some o' => have := K₃.stays _ _ q; rw [hb] at this; cases this
        refine wpAny_leaving_firstW (a0 := .ref t) K₁.stack (K₃.frames.of_keeps fun b o e _ => ⟨o, hk b o e, rfl⟩) hf heo (fun b o e => hk b o (K₃.stays b o e)) (fresh e he) rfl rfl rfl fun h'' hL htk => ?_
        obtain ⟨k1, ⟨_, _, k2⟩, k3, k4⟩ := hL
        refine ⟨⟨e, t, tk, rfl, ⟨k1, fresh e he, k2, k3⟩, Heap.TupAt.of_slots ⟨_, _, hto, rfl, rfl⟩ k4, fresh t ht'⟩, ?_, htk, (g.trans g').gens, (g.trans g').os⟩
        exact ((Heap.UpToSlots.of_keeps (g.trans g').keep).trans (Heap.UpToSlots.of_keeps hk)).trans k4
end
end Mine
namespace Mine

/-- an exception has just been made and raised -/
structure Thrown (T : String) (s : Shared) (ev : Value) (s' : Shared) : Prop where
  ex : ∃ e t, ev = .ref e ∧ s.heap.get? e = none ∧ s'.heap.get? e = some (excObj T t .none .none)
  keep : Keeps s.heap s'.heap
  tok : s.toks ≤ s'.toks
  gens : s'.gens = s.gens
  os : s'.os = s.os
theorem Thrown.gr {T : String} {s s₁ s' : Shared} {ev : Value} (h : Thrown T s₁ ev s') (g : Gr s s₁) : Thrown T s ev s' := by
  obtain ⟨⟨e, t, rfl, h1, h2⟩, k, a, b, d⟩ := h
  refine ⟨⟨e, t, rfl, ?_, h2⟩, g.keep.trans k, Nat.le_trans g.tok a, b.trans g.gens, d.trans g.os⟩
  cases q : s.heap.get? e with
  | none => rfl
  | some o => have := g.keep _ _ q; rw [h1] at this; cases this

section
variable {prog : Program} {w : World} {A : Around} {E : Value → Shared → Prop} {s : Shared}

theorem throw_made {α : Type} {T msg : String} {Q : α → Shared → Prop} (hp : PlainExc T) (hh : A.handled = none) (hz : (Str.ofString msg).length ≤ sizeLine) (h : ∀ ev s', Thrown T s ev s' → E ev s') :
    wpAny (model prog w) A (raiseErrorMade T msg : Sem α) Q E s := by
  unfold raiseErrorMade
  refine wpAny_with_toks (Nat.le_refl _) ?_
  refine wpAny_bind (wpAny_mkStr (wpAny_bind (wpAny_newExc_plain hp fun h' e hm => wpAny_raiseNew_none hh fun ht => ?_)) hz)
  obtain ⟨t, h1, _, _⟩ := hm.there
  exact h _ _ ⟨⟨e, t, rfl, hm.new, h1⟩, hm.keeps, ht, rfl, rfl⟩

/-- what a type must lack so that nothing is in its things -/
structure NoIn (T : String) : Prop where
  c : typeLookup (.type T) "__contains__" = pure none
  i : typeLookup (.type T) "__iter__" = pure none
  g : typeLookup (.type T) "__getitem__" = pure none
  z1 : (Str.ofString (toString "'" ++ toString T ++ toString "' object is not iterable")).length ≤ sizeLine
  z2 : (Str.ofString (toString "argument of type '" ++ toString T ++ toString "' is not iterable")).length ≤ sizeLine

theorem in_none {T : String} {v u : Value} {Q : Value → Shared → Prop} (N : NoIn T) (hT : s.TypeIs v T) (hnm : PySem.typeNameOf v = pure T) (hsay : stdlibNamesSay? v u = none) (hTy : ∀ s' : Shared, Keeps s.heap s'.heap → s'.TypeIs v T) (hh : A.handled = none)
    (h : ∀ ev s', Thrown "TypeError" s ev s' → E ev s') : wpAny (model prog w) A (compareOp .In u v) Q E s := by
  unfold compareOp
  dsimp only
  refine wpAny_bind ?_
  unfold contains
  refine wpAny_holding ?_
  rw [hsay]
  dsimp only
  refine wpAny_bind (wpAny_specialOf hT N.c ?_)
  rw [if_neg (by decide)]
  refine wpAny_bind (wpAny_callSpecialUnlessNone?_none hT N.c ?_)
  dsimp only
  refine wpAny_bind (wpAny_rule ?_)
  refine wpAny_bind (wpAny_tryCatch ?_)
  unfold pyIter
  refine wpAny_bind (wpAny_specialOf hT N.i ?_)
  dsimp only
  refine wpAny_bind (wpAny_specialOf hT N.g ?_)
  dsimp only
  refine wpAny_bind (wpAny_rule ?_)
  rw [hnm]
  refine wpAny_bind (wpAny_pure ?_)
  refine throw_made plainExc_TypeError hh N.z1 fun ev s₁ x => ?_
  obtain ⟨⟨e, t, rfl, h1, h2⟩, k, a, b, d⟩ := x
  refine wpAny_bind (wpAny_isInstance (T := "TypeError") (b := true) ⟨_, h2, rfl⟩ (by rw [isSubtype_type]; kernel_rfl) ?_)
  rw [if_pos rfl]
  refine wpAny_bind (wpAny_pure ?_)
  exact throw_made plainExc_TypeError hh N.z2 fun ev s₂ x => h ev s₂ (x.gr ⟨k, a, b, d⟩)
end
theorem noIn_int : NoIn "int" := ⟨by rw [typeLookup_type, builtinLookup_eq_fast]; kernel_rfl, by rw [typeLookup_type, builtinLookup_eq_fast]; kernel_rfl, by rw [typeLookup_type, builtinLookup_eq_fast]; kernel_rfl, by decide +kernel, by decide +kernel⟩
theorem noIn_none : NoIn "NoneType" := ⟨by rw [typeLookup_type, builtinLookup_eq_fast]; kernel_rfl, by rw [typeLookup_type, builtinLookup_eq_fast]; kernel_rfl, by rw [typeLookup_type, builtinLookup_eq_fast]; kernel_rfl, by decide +kernel, by decide +kernel⟩

theorem slot_bytes_contains : PySem.Slot "bytes" "__contains__" "bytes.__contains__" :=
  .of (owner := "bytes") (n := "__contains__") (by rw [typeLookup_type, builtinLookup_eq_fast]; kernel_rfl) (by decide +kernel) (by decide +kernel) (by decide +kernel)
    (by first | exact .inl (by decide +kernel) | exact .inr (by decide +kernel)) (by rw [isSubtype_type]; kernel_rfl)
theorem entry_bytes_contains : entryFor table "bytes.__contains__" = some Builtin.«bytes.__contains__» := entryFor_of_tree (by kernel_rfl)
theorem args_bytes_contains (a b : Value) : argsOk "bytes.__contains__" ⟨[a, b], []⟩ := by unfold argsOk; kernel_rfl
section
variable {prog : Program} {w : World} {A : Around} {E : Value → Shared → Prop} {s : Shared}
theorem in_bytes {bs : Array UInt8} {tk t : Tok} {x : PySem.Str} {Q : Value → Shared → Prop} (hh : A.handled = none)
    (h : ∀ ev s', Thrown "TypeError" s ev s' → E ev s') : wpAny (model prog w) A (compareOp .In (.str x tk) (.bytes bs t)) Q E s := by
  unfold compareOp
  dsimp only
  refine wpAny_bind ?_
  unfold contains
  refine wpAny_holding ?_
  rw [show stdlibNamesSay? (.bytes bs t) (.str x tk) = none from rfl]
  dsimp only
  have hT : s.TypeIs (.bytes bs t) "bytes" := rfl
  refine wpAny_bind (wpAny_specialOf hT slot_bytes_contains.lookup ?_)
  rw [if_neg (by decide)]
  refine wpAny_bind (wpAny_callSpecialUnlessNone?_slot (name := Str.ofString "__contains__") hT slot_bytes_contains ?_)
  refine wpAny_call (codeAny_call_builtin slot_bytes_contains.plain entry_bytes_contains (slot_bytes_contains.check _ _ _ _ _ _ _ _ hT (args_bytes_contains _ _) ?_))
  unfold Builtin.«bytes.__contains__»
  refine wpAny_bind (wpAny_of_eq (a := (.bytes bs t, [.str x tk])) (by kernel_rfl) ?_)
  dsimp only
  refine wpAny_bind ?_
  unfold Builtin.Bytes.containsIn
  have hS : s.TypeIs (.str x tk) "str" := typeIs_str _ _ _
  refine wpAny_bind (wpAny_attempt ?_)
  unfold asIndex
  refine wpAny_bind (wpAny_of_eq (a := none) rfl ?_)
  dsimp only
  refine wpAny_bind (wpAny_callSpecial?_none hS (by rw [typeLookup_type, builtinLookup_eq_fast]; kernel_rfl) ?_)
  dsimp only
  refine wpAny_bind (wpAny_of_eq (a := "str") (by kernel_rfl) ?_)
  refine throw_made plainExc_TypeError hh (by decide +kernel) fun ev s₁ x₁ => ?_
  obtain ⟨⟨e, t1, rfl, h1, h2⟩, k, a, b, d⟩ := x₁
  have hT1 : s₁.TypeIs (.bytes bs t) "bytes" := rfl
  have hS1 : s₁.TypeIs (.str x tk) "str" := typeIs_str _ _ _
  have lb : typeLookup (.type "bytes") (Str.ofString "__buffer__") = pure (some (.builtin "bytes.__buffer__")) := by rw [typeLookup_type, builtinLookup_eq_fast]; kernel_rfl
  have lr : typeLookup (.type "bytes") (Str.ofString "__release_buffer__") = pure none := by rw [typeLookup_type, builtinLookup_eq_fast]; kernel_rfl
  have ls : typeLookup (.type "str") (Str.ofString "__buffer__") = pure none := by rw [typeLookup_type, builtinLookup_eq_fast]; kernel_rfl
  refine wpAny_bind ?_
  unfold Builtin.Bytes.buffer?
  refine wpAny_bind (wpAny_specialOf hT1 lb ?_)
  dsimp only
  refine wpAny_bind ?_
  unfold Builtin.Bytes.slotIsOwn
  refine wpAny_bind (wpAny_specialOf (name := Str.ofString "__buffer__") hT1 lb ?_)
  dsimp only
  rw [if_neg (by decide +kernel)]
  refine wpAny_isInstance (T := "bytes") (b := true) hT1 (by rw [isSubtype_type]; kernel_rfl) ?_
  rw [if_neg (by decide)]
  refine wpAny_bind (wpAny_specialOf (name := Str.ofString "__buffer__") hT1 lb ?_)
  unfold Builtin.Bytes.ownRelease Builtin.Bytes.slotIsOwn
  refine wpAny_bind (wpAny_bind (wpAny_bind (wpAny_specialOf (name := Str.ofString "__release_buffer__") hT1 lr ?_)))
  dsimp only
  refine wpAny_pure (wpAny_pure ?_)
  rw [if_neg (by decide)]
  refine wpAny_bind (wpAny_of_eq (a := bs) rfl (wpAny_pure ?_))
  dsimp only
  refine wpAny_bind (wpAny_bind (wpAny_specialOf (name := Str.ofString "__buffer__") hS1 ls ?_))
  dsimp only
  refine wpAny_bind (wpAny_specialOf (name := Str.ofString "__buffer__") hS1 ls ?_)
  dsimp only
  refine wpAny_pure ?_
  dsimp only
  refine wpAny_bind (wpAny_rule ?_)
  refine wpAny_bind (wpAny_of_eq (a := "str") (by kernel_rfl) ?_)
  exact throw_made plainExc_TypeError hh (by decide +kernel) fun ev s₂ y => h ev s₂ (y.gr ⟨k, a, b, d⟩)
end
end Mine
namespace Mine

/-- only the slots of some places have turned -/
structure Slt (fr : List Addr) (s s' : Shared) : Prop where
  keep : ∀ b o, b ∉ fr → s.heap.get? b = some o → s'.heap.get? b = some o
  up : ∀ b o, b ∈ fr → s.heap.get? b = some o → ∃ sl, s'.heap.get? b = some { o with slots := sl }
  tok : s.toks ≤ s'.toks
  gens : s'.gens = s.gens
  os : s'.os = s.os
theorem Slt.of_gr {fr : List Addr} {s s' : Shared} (g : Gr s s') : Slt fr s s' := ⟨fun b o _ e => g.keep b o e, fun b o _ e => ⟨o.slots, g.keep b o e⟩, g.tok, g.gens, g.os⟩
theorem Slt.trans {fr : List Addr} {s s' s'' : Shared} (a : Slt fr s s') (b : Slt fr s' s'') : Slt fr s s'' :=
  ⟨fun x o h e => b.keep x o h (a.keep x o h e), fun x o h e => let ⟨_, e₁⟩ := a.up x o h e; let ⟨sl, e₂⟩ := b.up x _ h e₁; ⟨sl, e₂⟩, Nat.le_trans a.tok b.tok, b.gens.trans a.gens, b.os.trans a.os⟩
theorem Slt.ns {fr : List Addr} {s s' : Shared} (a : Slt fr s s') {L : Addr} {m : Str → Option Value} (h : s.heap.Ns L m) : s'.heap.Ns L m := by
  obtain ⟨o, es, ep, ho, hd, r⟩ := h
  by_cases q : L ∈ fr
  · obtain ⟨sl, e⟩ := a.up L o q ho; exact ⟨_, es, ep, e, hd, r⟩
  · exact ⟨o, es, ep, a.keep L o q ho, hd, r⟩
/-- from a base that is all but the frames -/
theorem Slt.of_hide {fr : List Addr} {s s' : Shared} (hb : (hideAll s.heap fr).StaysIn s'.heap) (hu : s.heap.UpToSlots s'.heap) (hd : ∀ b o, b ∈ fr → s.heap.get? b = some o → ∀ vs, o.data ≠ .fields vs) (t : s.toks ≤ s'.toks) (g : s'.gens = s.gens) (o : s'.os = s.os) : Slt fr s s' :=
  ⟨fun b ob h e => hb b ob (hideAll_get fr e h), fun b ob h e => hu b ob e (hd b ob h e), t, g, o⟩

section
variable {c : Cx} {sc : Scope} {ρ : Sto}
/-- a frame behind a raise -/
theorem Fm.noted {env V0 h0 h0' Cs X s s'} {fr : List Addr} (F : Fm c sc env V0 h0 Cs X ρ s) (t : Slt fr s s') (hfr : ∀ a ∈ fr, V0 a ∨ a = env.locals) (hb : Keeps c.base h0') (hk : Keeps h0' s'.heap) (hn : ∀ a ∈ X, h0'.get? a = none) (hcs : Cs = env.cells) :
    Fm c sc env V0 h0' Cs X ρ s' := by
  obtain ⟨m, fps, h1, h2, h3, h4, h6, h5⟩ := F.sto
  have hLX : env.locals ∈ X := h2 ▸ .head _
  have hoff : ∀ a, ¬ Vol V0 X a → a ∉ fr := fun a na q => (hfr a q).elim (fun q => na (.inl q)) fun q => na (.inr (q ▸ hLX))
  have hX : ∀ a ∈ X, a ≠ env.locals → a ∉ fr := fun a ha hne q => (hfr a q).elim (fun q => (F.live0 a q).2 ha) hne
  have hlive : ∀ a o, s.heap.get? a = some o → ∃ o', s'.heap.get? a = some o' := fun a o e => by
    by_cases q : a ∈ fr
    · obtain ⟨sl, e'⟩ := t.up a o q e; exact ⟨_, e'⟩
    · exact ⟨o, t.keep a o q e⟩
  have hndL : env.locals ∉ Cs.map (·.2) ++ fps := (List.nodup_cons.mp (h2 ▸ h3)).1
  have hcm : Calm (Vol V0 X) s s' := ⟨t.tok, fun b o nb e _ => t.keep b o (hoff b nb) e⟩
  refine ⟨F.good, F.scope, F.kind, F.globals, F.builtins, hb, hk, fun e => F.tok (Nat.le_zero.mp (e ▸ t.tok)), fun a q => ⟨let ⟨o, e⟩ := (F.live0 a q).1; hlive a o e, (F.live0 a q).2⟩, F.ccells, hn, F.cells, F.cinj,
    m, fps, t.ns h1, h2, h3, fun a ha => let ⟨o, e⟩ := h4 a ha; hlive a o e, fun p hp => ?_, h5.change hcm (fun a ha o e => t.keep a o ?_ e) (fun _ _ _ => rfl) fun p hp a o w hc e hw => ?_⟩
  · obtain ⟨v, o, e, d⟩ := h6 p hp
    have hp2 : p.2 ∈ Cs.map (·.2) := List.mem_map_of_mem hp
    exact ⟨v, o, t.keep _ o (hX _ (h2 ▸ .tail _ (List.mem_append_left _ hp2)) fun q => hndL (q ▸ List.mem_append_left _ hp2)) e, d⟩
  · exact hX a (h2 ▸ .tail _ (List.mem_append_right _ ha)) fun q => hndL (q ▸ List.mem_append_right _ ha)
  · have hp2 : a ∈ Cs.map (·.2) := by rw [hcs]; exact List.mem_map.mpr ⟨_, mem_lookup hc, rfl⟩
    exact t.keep a o (hX a (h2 ▸ .tail _ (List.mem_append_left _ hp2)) fun q => hndL (q ▸ List.mem_append_left _ hp2)) e
end

section
variable {M : Model} {A : Around} {E : Value → Shared → Prop} {s : Shared}
/-- an exception that was made in this very frame is noted and comes to the clauses -/
theorem note_made {B : Heap} {env : Env} {l : List Env} {L e t : Addr} {T : String} {Q : Unit → Shared → Prop} (hfr : A.frames = some (env :: l)) (hl : s.heap.FunFrames B (env :: l)) (hf : env.frame = some L)
    (he : s.heap.get? e = some (excObj T t .none .none)) (hkb : B.StaysIn s.heap) (hen : B.get? e = none)
    (h : ∀ h' tb oT ts, B.StaysIn h' → h'.FunFrames B (env :: l) → h'.get? e = some (excObj T t (.ref tb) .none) → B.get? tb = none → tb ≠ e → h'.get? tb = some oT → oT.data = .fields ts → 3 < ts.size → s.heap.UpToSlots h' → Q () { s with heap := h' }) :
    wpAny M A (noteFrame (.ref e) env) (fun _ s₂ => wpAny M A (setFlight (.ref e) none) Q E s₂) E s := by
  unfold noteFrame
  simp only [hf]
  refine wpAny_bind (wpAny_field he rfl (by simp; rfl) ?_)
  rw [if_neg (by decide)]
  have hene : e ∉ (env :: l).filterMap (·.frame) := fun hm => by
    obtain ⟨_, o, ho, hnf⟩ := hl.mem hm
    rw [he] at ho; injection ho with ho; subst ho; exact hnf _ rfl
  refine wpAny_bind (wpAny_frameOf_fun hfr hl hf fun h₁ hs₁ => ?_)
  refine wpAny_bind (wpAny_entryPlaceOf fun pl hpl => ?_)
  unfold EntryCells.newEntry newFields
  refine wpAny_bind (wpAny_newObj_type ?_ (hpl.sizeOk5 _ _ _ _ _))
  have he₁ : h₁.get? e = some (excObj T t .none .none) := (hs₁.2.1 e hene).trans he
  have kb₁ : B.StaysIn h₁ := fun b o hbo => (hs₁.2.1 b fun hm => by rw [(hl.mem hm).1] at hbo; cases hbo).trans (hkb b o hbo)
  generalize hoT : ({ cls := .type "traceback", dict := none, data := .fields ([Value.none, .ref L, .none, rawInt L, .none] ++ (if pl.isEmpty then List.replicate 6 Value.none else pl)).toArray } : Obj) = oT
  obtain ⟨ts, hts, hsz3⟩ : ∃ ts, oT.data = .fields ts ∧ 3 < ts.size := ⟨_, by rw [← hoT], by simp only [List.size_toArray, List.length_append, List.length_cons, List.length_nil]; omega⟩
  have hfT : oT.isFreed = false := by rw [← hoT]; rfl
  have he₂ : (h₁.push oT).get? e = some (excObj T t .none .none) := Heap.get?_push_of_some _ he₁
  have hTe : h₁.objs.size ≠ e := Nat.ne_of_gt (Heap.lt_size he₁)
  refine wpAny_setField (i := 1) he₂ rfl (by simp) ?_
  have he₃ := Heap.get?_update_self (Obj.mapFields (·.setIfInBounds 1 (Value.ref h₁.objs.size))) he₂ rfl
  have hT₃ := (Heap.get?_update_other (h₁.push oT) (Obj.mapFields (·.setIfInBounds 1 (Value.ref h₁.objs.size))) (Ne.symm hTe)).trans (Heap.get?_push_size h₁ hfT)
  unfold setFlight
  refine wpAny_bind (wpAny_field he₃ rfl (x := .ref h₁.objs.size) (by simp) ?_)
  rw [if_pos (show (Value.ref h₁.objs.size != Value.none) = true from by simp)]
  refine wpAny_setField hT₃ hts hsz3 (h _ h₁.objs.size _ _ ?_ ?_ ?_ kb₁.fresh hTe (Heap.get?_update_self _ hT₃ (Obj.isFreed_of_fields (Obj.data_mapFields hts _))) (Obj.data_mapFields hts _) (by simpa using hsz3) ?_)
  all_goals
    have keep : ∀ b o, b ≠ e → h₁.get? b = some o →
      (((h₁.push oT).update e (Obj.mapFields (·.setIfInBounds 1 (Value.ref h₁.objs.size)))).update h₁.objs.size (Obj.mapFields (·.setIfInBounds 3 ((none : Option Addr).elim Value.none fun f => rawInt f)))).get? b = some o := fun b o hbe hb => by
      have hbT : h₁.objs.size ≠ b := Nat.ne_of_gt (Heap.lt_size hb)
      rw [Heap.get?_update_other _ _ hbT, Heap.get?_update_other _ _ (Ne.symm hbe)]
      exact Heap.get?_push_of_some _ hb
    have noRecord : ∀ b o, s.heap.get? b = some o → (∀ vs, o.data ≠ .fields vs) → b ≠ e := fun b o hb hnf q => by
      rw [q, he] at hb; injection hb with hb; subst hb; exact hnf _ rfl
  · exact fun b o hbo => keep b o (fun q => by rw [q, hen] at hbo; cases hbo) (kb₁ b o hbo)
  · exact hl.of_keeps fun b o hb hnf => let ⟨sl, hs⟩ := hs₁.2.2 b o hb; ⟨_, keep b _ (noRecord b o hb hnf) hs, rfl⟩
  · rw [Heap.get?_update_other _ _ hTe]; exact he₃
  · exact fun b o hb hnf => let ⟨sl, hs⟩ := hs₁.2.2 b o hb; ⟨sl, keep b _ (noRecord b o hb hnf) hs⟩

/-- an exception that has left a callee is noted in this frame, comes back from a clause's suite and leaves -/
theorem held_back {B : Heap} {env : Env} {l : List Env} {L e : Addr} {cls a0 : Value} (hf : env.frame = some L) (hh : Heap.HeldW B (env :: l) e cls a0 L s.heap)
    (h : ∀ h', Heap.HeldW B (env :: l) e cls a0 L h' → s.heap.UpToSlots h' → E (.ref e) { s with heap := h' }) : cameBackBy M A env E (.ref e) s := by
  obtain ⟨f1, f2, f3, oe, vs, T, oT, ts, a1, a2, a3, a4, a5, a6, a7, a8, a9⟩ := hh
  have hsz3 : 3 < ts.size := (Array.getElem?_eq_some_iff.mp a9).1
  unfold cameBackBy
  refine wpAny_bind (wpAny_field a1 a3 a4 ?_)
  rw [if_neg (by simp)]
  unfold setFlight
  refine wpAny_bind (wpAny_field a1 a3 a4 ?_)
  rw [if_pos (show (Value.ref T != Value.none) = true from by simp), hf]
  have other : ∀ b, b ≠ T → (s.heap.update T (Obj.mapFields (·.setIfInBounds 3 (rawInt L)))).get? b = s.heap.get? b := fun b hb => Heap.get?_update_other _ _ (Ne.symm hb)
  have noRecord : ∀ b o, s.heap.get? b = some o → (∀ vs, o.data ≠ .fields vs) → b ≠ T := fun b o hb hnf q => by
    rw [q, a7] at hb; injection hb with hb; subst hb; exact hnf ts a8
  refine wpAny_setField a7 a8 hsz3 (h _ ⟨fun b o hbo => (other b fun q => by rw [q, a5] at hbo; cases hbo).trans (f1 b o hbo), f2, f3.of_keeps fun b o hb hnf => ⟨o, (other b (noRecord b o hb hnf)).trans hb, rfl⟩, oe, vs, T, _, _, (other e (Ne.symm a6)).trans a1, a2, a3, a4, a5, a6,
    Heap.get?_update_self _ a7 (Obj.isFreed_of_fields (Obj.data_mapFields a8 _)), Obj.data_mapFields a8 _, by simp [hsz3]⟩ fun b o hb hnf => ⟨o.slots, (other b (noRecord b o hb hnf)).trans hb⟩)
theorem leave_held {B : Heap} {env : Env} {l : List Env} {L e : Addr} {cls a0 : Value} {Q : Unit → Shared → Prop} (hf : env.frame = some L) (hh : Heap.HeldW B (env :: l) e cls a0 L s.heap)
    (h : ∀ h', Heap.FlyingW B l e cls a0 h' → s.heap.UpToSlots h' → Q () { s with heap := h' }) : wpAny M A (leaving env (.ref e)) Q E s := by
  unfold leaving
  refine wpAny_bind (wpAny_noteFrame_againW hf hh.2.2.2 ?_)
  refine wpAny_landsW hh fun h' hfl hu => ?_
  obtain ⟨k1, k2, ⟨_, _, k3⟩, k4⟩ := hfl
  exact h h' ⟨k1, k2, k3, k4⟩ hu
end
end Mine
namespace Mine
section
variable {c : Cx} {n : Nat} {sc : Scope} {ρ : Sto}

/-- a sign in d: TypeError -/
noncomputable def InX (c : Cx) (d : D) : Prop := ∀ A V s v x tk, A.handled = none → Rep c V s d v → wpAny c.M A (compareOp .In (.str x tk) v) (fun _ _ => False) (Thrown "TypeError" s) s
theorem InX.int {i : Int} : InX c (.int i) := fun A V s v x tk hh r => by
  cases r
  exact in_none noIn_int (typeIs_int _ _ _) rfl rfl (fun s' _ => typeIs_int _ _ _) hh fun _ _ q => q
theorem InX.none : InX c .none := fun A V s v x tk hh r => by
  cases r
  exact in_none noIn_none rfl rfl rfl (fun s' _ => rfl) hh fun _ _ q => q
theorem InX.bytes {b : List Nat} : InX c (.bytes b) := fun A V s v x tk hh r => by
  cases r
  exact in_bytes hh fun _ _ q => q

theorem Slt.upto {fr : List Addr} {s s' : Shared} (t : Slt fr s s') : s.heap.UpToSlots s'.heap := fun b o e _ => by
  by_cases q : b ∈ fr
  · exact t.up b o q e
  · exact ⟨o.slots, t.keep b o q e⟩
theorem Stk.slt {A B l s s'} {fr : List Addr} (K : Stk c A B l s.heap) (t : Slt fr s s') (hfr : ∀ b ∈ fr, B.get? b = Option.none) : Stk c A B l s'.heap :=
  ⟨K.stack, K.base, fun b o e => t.keep b o (fun q => by rw [hfr b q] at e; cases e) (K.stays b o e), K.frames.of_keeps fun b o e hd => let ⟨sl, e'⟩ := t.upto b o e hd; ⟨_, e', rfl⟩⟩
theorem Callee.h {fv : Value} (h : Callee c fv) : Callee c.h fv := by
  cases h with
  | builtin id => exact .builtin id
  | type T => exact .type T
  | func ho hd => exact .func ho hd

/-- a call that raises -/
theorem call_raises {f : Expr} {es : List Expr} {pos : Pos} {fv : Value} {ds : List D} {T : String} {m : List Nat} {A : Around} {env : Env} {V0 h0 Cs X s B l} (hA : Room c n A) (hH : Hnd A s.heap) (F : Fm c sc env V0 h0 Cs X ρ s) (K : Stk c A B l s.heap) (hV : ∀ a ∈ l.filterMap (·.frame), Vol V0 X a)
    (hf : Ev c n sc true ρ f (.val fv)) (hc : Callee c fv) (ha : EvL c n sc true ρ es ds) (h : FnX c n fv ds T m) (hp : es.all plainE = true := by rfl)
    (he : ∀ env : Env, eval (.Call f es [] pos) env = (do callWith pos (← eval f env) [] (backTo pos (starEach es env)) (backToKw pos (keywordEach [] env))) := by intro _; rfl) :
    wpAny c.M A (eval (.Call f es [] pos) env) (fun _ _ => False) (Fly B l T m s) s := by
  rw [he]
  refine wpAny_bind (wpAny_mono (hf.run A env V0 h0 Cs X s hA F) (fun v s₁ q₁ => ?_) fun _ _ q => q.elim)
  obtain ⟨g₁, r₁⟩ := q₁
  cases r₁
  refine hc.wp hp (wpAny_mono (ha.run A env V0 h0 Cs X s₁ pos hA (F.gr g₁)) (fun vs s₂ q₂ => ⟨((F.gr g₁).gr q₂.1).base.trans ((F.gr g₁).gr q₂.1).keep, ?_⟩) fun _ _ q => q.elim)
  have g := g₁.trans q₂.1
  have hvk : VK true V0 X = Vol V0 X := by funext a; simp [VK]
  refine wpAny_mono (h.run A _ s₂ vs B l hA (hH.keeps g.keep) (K.gr g) (fun a ha => ⟨rfl, hV a ha⟩) ((F.st true).gr g) q₂.2) (fun _ _ q => q) fun ev s' q => ?_
  exact ⟨q.ex, (Heap.UpToSlots.of_keeps g.keep).trans q.up, Nat.le_trans g.tok q.tok, q.gens.trans g.gens, q.os.trans g.os⟩

theorem frames_hidden {h B : Heap} {l : List Env} (hl : h.FunFrames B l) : h.FunFrames (hideAll h (l.filterMap (·.frame))) l :=
  funFrames_hide hl fun env he a ha => List.mem_filterMap.mpr ⟨env, he, ha⟩
theorem hidden_stays {h B : Heap} {l : List Env} (hk : B.StaysIn h) (hl : h.FunFrames B l) : B.StaysIn (hideAll h (l.filterMap (·.frame))) := fun b o e =>
  hideAll_get _ (hk b o e) fun q => by rw [(hl.mem q).1] at e; cases e

theorem isExc_AttributeError : isSubtype (.type "AttributeError") (.type "BaseException") = pure true := by rw [isSubtype_type]; kernel_rfl
theorem notTuple_AttributeError : isSubtype (.type ((Manifest.find? "AttributeError").elim "type" fun x => x.metatype)) (.type "tuple") = pure false := by
  rw [show ((Manifest.find? "AttributeError").elim "type" fun x => x.metatype) = "type" by rw [find?_eq_fast]; kernel_rfl, isSubtype_type]; kernel_rfl

/-- an escape that meets what is no text -/
theorem esc_raises {a ra : Addr} {x : String} {p0 p1 p2 p3 p4 p5 p6 p7 p8 p9 p10 p11 p12 : Pos} {k0 kt : Nat} {b1 o1 rest : List Stmt} {d : D} {m : List Nat} (hn : c.hn)
    (hd : IsDefL c a sc ["text"] [.Try (.If (.Compare (.Constant (.str (Str.ofString x)) k0 p0) [.In] [.Name (Str.ofString "text") p1] p2) b1 o1 p3 :: rest)
      [.ExceptHandler (some (.Tuple [.Name (Str.ofString "TypeError") p4, .Name (Str.ofString "AttributeError") p5] kt p6)) none [.Expr (.Call (.Name (Str.ofString "_raise_serialization_error") p7) [.Name (Str.ofString "text") p8] [] p9) p10] p11] [] [] p12])
    (hin : InX c d) (hra : c.mg (Str.ofString "_raise_serialization_error") = some (.ref ra)) (hcal : Callee c (.ref ra))
    (hT : c.mg (Str.ofString "TypeError") = Option.none ∧ c.mb (Str.ofString "TypeError") = some (.type "TypeError")) (hAt : c.mg (Str.ofString "AttributeError") = Option.none ∧ c.mb (Str.ofString "AttributeError") = some (.type "AttributeError"))
    (hG : sc.names.lookup (Str.ofString "TypeError") = some .globalImplicit) (hG2 : sc.names.lookup (Str.ofString "AttributeError") = some .globalImplicit) (hG3 : sc.names.lookup (Str.ofString "_raise_serialization_error") = some .globalImplicit)
    (h : FnX c.h n (.ref ra) [d] "TypeError" m) : FnX c (n + 1) (.ref a) [d] "TypeError" m := .mk fun A V s vs B l hA hH K hV hS rv => by
  refine fn_enter hd rfl hA hS rv fun env X s₁ hf hnl g F hO hX => ?_
  have K₁ := F.stk hf hnl K g
  have hA₁ := hA.deeper env
  refine wpAny_execs_cons (wpAny_Try_except (wpAny_execs_cons (wpAny_If (wpAny_isTrue_Compare1 ?_ (by with_unfolding_all rfl)))))
  refine wpAny_mono ((Ev.lit (n := n) (k := true) (ρ := [("text", .val d)])).run (A.deeper env) env V s.heap _ X s₁ hA₁ F) (fun u s₂ q₂ => ?_) fun _ _ q => q.elim
  refine wpAny_mono ((Ev.name (n := n) (k := true) (ρ := [("text", .val d)]) rfl).run (A.deeper env) env V s.heap _ X s₂ hA₁ (F.gr q₂.1)) (fun v s₃ q₃ => ?_) fun _ _ q => q.elim
  have g₃ := q₂.1.trans q₃.1
  have F₃ := F.gr g₃
  have K₃ := K₁.gr g₃
  obtain ⟨_, ru⟩ := q₂
  cases ru with
  | str _ tk =>
  refine wpAny_mono (hin (A.deeper env) _ s₃ v _ tk (hA₁.handled hn) q₃.2) (fun _ _ q => q.elim) fun ev s₄ th => ?_
  obtain ⟨⟨e, t, rfl, hen, heo⟩, hk, ht4, hg4, ho4⟩ := th
  have K₄ : Stk c (A.deeper env) B (env :: l) s₄.heap := K₃.gr ⟨hk, ht4, hg4, ho4⟩
  have hfl₃ := frames_hidden K₃.frames
  have hfl₄ : s₄.heap.FunFrames (hideAll s₃.heap ((env :: l).filterMap (·.frame))) (env :: l) := hfl₃.of_keeps fun b o e _ => ⟨o, hk b o e, rfl⟩
  have hst₄ : (hideAll s₃.heap ((env :: l).filterMap (·.frame))).StaysIn s₄.heap := fun b o e => hk b o (of_hideAll _ e)
  refine note_made (B := hideAll s₃.heap ((env :: l).filterMap (·.frame))) K₁.stack hfl₄ hf heo hst₄ (by
    cases q : (hideAll s₃.heap ((env :: l).filterMap (·.frame))).get? e with
    | none => rfl
    | some o => have := of_hideAll _ q; rw [hen] at this; cases this) fun h₅ tb oT ts k1 k2 k3 k4 k5 k6 k7 k8 k9 => ?_
  -- the frame behind the raise
  have hfrV : ∀ b ∈ (env :: l).filterMap (·.frame), V b ∨ b = env.locals := fun b hb => by
    rw [List.filterMap_cons, hf] at hb
    rcases List.mem_cons.mp hb with q | q
    · exact .inr q
    · exact .inl (hV b q)
  have hdf : ∀ b o, b ∈ (env :: l).filterMap (·.frame) → s₃.heap.get? b = some o → ∀ vs, o.data ≠ .fields vs := fun b o hb e => by
    obtain ⟨_, o', ho', hd'⟩ := K₃.frames.mem hb
    rw [e] at ho'; cases ho'; exact hd'
  have htb3 : s₃.heap.get? tb = Option.none := by
    cases q : s₃.heap.get? tb with
    | none => rfl
    | some o =>
      by_cases hb : tb ∈ (env :: l).filterMap (·.frame)
      · obtain ⟨_, o', ho', hd'⟩ := k2.mem hb
        rw [k6] at ho'; cases ho'; exact absurd k7 (hd' ts)
      · rw [hideAll_get _ q hb] at k4; cases k4
  have hBX : ∀ b ∈ X, B.get? b = Option.none := fun b hb => by
    cases q : B.get? b with
    | none => rfl
    | some o => have := K.stays _ _ q; rw [hX b hb] at this; cases this
  have hBH := hidden_stays K₃.stays K₃.frames
  have sl₅ : Slt ((env :: l).filterMap (·.frame)) s₃ { s₄ with heap := h₅ } := Slt.of_hide k1 ((Heap.UpToSlots.of_keeps hk).trans k9) hdf ht4 hg4 ho4
  have F₅ := F₃.noted sl₅ hfrV K.base (fun b o e => k1 b o (hBH b o e)) hBX rfl
  refine wpAny_handleBy_tup2 (T1 := "TypeError") (T2 := "AttributeError") (X := "TypeError") (b1 := true) (b2 := false) PySem.F.isExc_TypeError PySem.F.notTuple_TypeError isExc_AttributeError notTuple_AttributeError (by rw [isSubtype_type]; kernel_rfl) (by rw [isSubtype_type]; kernel_rfl) ?_
  have hA₅ : Room c.h n ((A.deeper env).mark (some (.ref e))) := hA₁.h _
  have htup : Ev c.h n sc true [("text", .val d)] (.Tuple [.Name (Str.ofString "TypeError") p4, .Name (Str.ofString "AttributeError") p5] kt p6) (.tuple [.val (.type "TypeError"), .val (.type "AttributeError")]) :=
    .tuple (.cons (.blt hT.1 hT.2 hG) (.cons (.blt hAt.1 hAt.2 hG2) .nil)) (by rw [sizeLine_eq]; show 2 ≤ _; decide)
  refine wpAny_mono (htup.run _ env V B _ X _ hA₅ F₅.h) (fun cv s₆ q₆ => ?_) fun _ _ q => q.elim
  obtain ⟨g₆, r₆⟩ := q₆
  cases r₆ with
  | @tuple tup o tvs nn _ na ho hcl hdd hdt rr =>
  obtain ⟨tvs⟩ := tvs
  cases rr with
  | cons ra1 rr => cases rr with
  | cons ra2 rr =>
  cases rr; cases ra1; cases ra2
  have he₆ := g₆.keep _ _ k3
  have htb₆ := g₆.keep _ _ k6
  refine ⟨tup, rfl, ⟨o, ho, hcl, nn, hdt⟩, ⟨_, he₆, rfl⟩, ?_⟩
  rw [if_pos (show (true || false) = true from rfl)]
  refine wpAny_setFlight_none he₆ rfl (by simp) htb₆ k7 k8 ?_
  have sl₇ : Slt ((env :: l).filterMap (·.frame)) s₃ { s₆ with heap := s₆.heap.update tb (Obj.mapFields (·.setIfInBounds 3 .none)) } := by
    have s56 := sl₅.trans (Slt.of_gr (s' := s₆) g₆)
    have off : ∀ b o, s₃.heap.get? b = some o → ∀ o', s₆.heap.get? b = some o' → (s₆.heap.update tb (Obj.mapFields (·.setIfInBounds 3 .none))).get? b = some o' := fun b o e o' e' =>
      (Heap.get?_update_other _ _ (fun q => by rw [← q, htb3] at e; cases e)).trans e'
    exact ⟨fun b o hb e => off b o e o (s56.keep b o hb e), fun b o hb e => let ⟨sl, e'⟩ := s56.up b o hb e; ⟨sl, off b o e _ e'⟩, s56.tok, s56.gens, s56.os⟩
  have hfrB : ∀ b ∈ (env :: l).filterMap (·.frame), B.get? b = Option.none := fun b hb => (K₃.frames.mem hb).1
  have K₇ : Stk c.h ((A.deeper env).mark (some (.ref e))) B (env :: l) _ := (Stk.slt (c := c.h) ⟨K₃.stack, K₃.base, K₃.stays, K₃.frames⟩ sl₇ hfrB).mark _
  have F₇ := (F₃.noted sl₇ hfrV K.base K₇.stays hBX rfl).h
  have hH₇ : Hnd ((A.deeper env).mark (some (.ref e))) (s₆.heap.update tb (Obj.mapFields (·.setIfInBounds 3 .none))) :=
    .inr ⟨e, _, _, rfl, (Heap.get?_update_other _ _ k5).trans he₆, rfl, by simp⟩
  have hint : interactive env = false := by
    unfold interactive
    rw [F.scope, F.kind]; rfl
  have hVX : ∀ b ∈ (env :: l).filterMap (·.frame), Vol V X b := fun b hb => (hfrV b hb).imp id fun q => by
    obtain ⟨_, _, _, h2, _⟩ := F.sto
    rw [h2, q]; exact .head _
  refine wpAny_execs_cons (wpAny_Expr_any (wpAny_mono (call_raises (c := c.h) (n := n) (ρ := [("text", .val d)]) hA₅ hH₇ F₇ K₇ hVX (.glob hra hG3) hcal.h (.cons (.name rfl) .nil) h) (fun _ _ q => q.elim) fun ev s₈ fly => ?_) hint rfl)
  obtain ⟨⟨e2, t2, tk2, rfl, hfl, htup2, ht2⟩, hu8, htk8, hg8, ho8⟩ := fly
  refine wpAny_looks_onW K₇.stack hf hfl fun h₉ hh9 hu9 => held_back hf hh9 fun h₁₀ hh10 hu10 => leave_held hf hh10 fun h₁₁ hfl11 hu11 htk => ?_
  refine ⟨⟨e2, t2, tk2, rfl, hfl11, ((htup2.of_slots hu9).of_slots hu10).of_slots hu11, ht2⟩, ?_, htk, (hg8.trans sl₇.gens).trans (g.trans g₃).gens, (ho8.trans sl₇.os).trans (g.trans g₃).os⟩
  exact (((((Heap.UpToSlots.of_keeps (g.trans g₃).keep).trans sl₇.upto).trans hu8).trans hu9).trans hu10).trans hu11
end
end Mine
namespace Mine

/-- a dict of names, of at most k of them -/
noncomputable def NsK (h : Heap) (a : Addr) (m : Str → Option Value) (k : Nat) : Prop :=
  ∃ es ep, h.get? a = some { cls := .type "dict", data := .dict es ep } ∧ StrKeys es ∧ (∀ name, nsFind es name = m name) ∧ es.size ≤ k
noncomputable abbrev upd (m : Str → Option Value) (x : Str) (v : Value) : Str → Option Value := fun y => if y = x then some v else m y
theorem NsK.look {h : Heap} {a : Addr} {m : Str → Option Value} {k : Nat} (x : NsK h a m k) : ∃ o, h.get? a = some o ∧ ∀ name, lookIn name o = some (m name) := by
  obtain ⟨es, ep, h1, h2, h3, _⟩ := x
  refine ⟨_, h1, fun name => ?_⟩
  have hany : es.toList.any (·.refKey) = false := by
    rw [List.any_eq_false]; intro e he; obtain ⟨n, t, h⟩ := h2 e (Array.mem_toList_iff.mp he); simp [DictEntry.refKey, h]
  unfold lookIn
  dsimp only
  rw [← h3 name]
  unfold nsFind findBy
  rw [← Array.find?_toList]
  cases hf : es.toList.find? (·.key.isStr name) with
  | some e => rfl
  | none => rw [hany]; rfl
theorem NsK.keeps {h h' : Heap} {a : Addr} {m : Str → Option Value} {k : Nat} (x : NsK h a m k) (hk : ∀ o, h.get? a = some o → h'.get? a = some o) : NsK h' a m k :=
  let ⟨es, ep, h1, r⟩ := x; ⟨es, ep, hk _ h1, r⟩

section
variable {M : Model} {A : Around} {E : Value → Shared → Prop} {s : Shared}
theorem nsSet_K {a : Addr} {m : Str → Option Value} {k : Nat} {name : Str} {v : Value} {Q : Unit → Shared → Prop} (hn : NsK s.heap a m k)
    (hQ : ∀ h', NsK h' a (upd m name v) (k + 1) → Heap.SameBut a s.heap h' → Q () { s with heap := h', toks := s.toks + 1 }) : wpAny M A (nsSet a name v) Q E s := by
  obtain ⟨es, ep, ho, hk, hm, hz⟩ := hn
  have hany : es.any (·.refKey) = false := by
    rw [Array.any_eq_false']; intro e he; obtain ⟨n, t, h⟩ := hk e he; simp [DictEntry.refKey, h]
  unfold nsSet
  refine wpAny_bind (wpAny_bind (wpAny_askSetting (wpAny_pure (wpAny_bind (wpAny_mkText (wpAny_bind (wpAny_loadPart (s := { s with toks := s.toks + 1 }) ho ?_)))))))
  dsimp only
  rw [aRefKeyMayBeTheName_at, hany, Bool.and_false]
  rw [if_neg (by decide)]
  refine wpAny_updatePart ho ?_
  refine hQ _ ?_ (.update _ _ _)
  cases hi : es.findIdx? (·.key.isStr name) with
  | some i =>
    refine ⟨es.modify i fun e => { e with val := v }, ep, ?_, hk.modify _ _, fun x => ?_, by simpa using Nat.le_succ_of_le hz⟩
    · rw [Heap.get?_update_self _ ho (by simp only [Obj.putName_eq, Obj.putNameByArray, hi] <;> rfl)]
      simp only [Obj.putName_eq, Obj.putNameByArray, hi] <;> rfl
    · show _ = if x = name then some v else m x
      rw [← hm]; exact findBy_modify (fun n v => v.isStr n) Value.isStr_inj es name x v i hi
  | none =>
    refine ⟨es.push ⟨if name.cps.isEmpty = true then 0 else reduceHash (M.w.params.strHash name.cps), .str name s.toks, v⟩, ep + 1, ?_, hk.push _ _ _ _, fun x => ?_, by simpa using Nat.succ_le_succ hz⟩
    · rw [Heap.get?_update_self _ ho (by simp only [Obj.putName_eq, Obj.putNameByArray, hi] <;> rfl)]
      simp only [Obj.putName_eq, Obj.putNameByArray, hi] <;> rfl
    · show _ = if x = name then some v else m x
      rw [← hm]
      exact findBy_push (fun n v => v.isStr n) es name x _ _ v (fun y => by
        show (name == y) = decide (y = name)
        by_cases h : y = name
        · subst h; simp
        · have : ¬ name = y := fun e => h e.symm
          simp [h, this]) hi
end

/-- an instance of the class at C with its own dict -/
structure Inst (h : Heap) (x C dx : Addr) (m : Str → Option Value) (k : Nat) : Prop where
  at' : h.get? x = some (instObj C dx)
  dict : NsK h dx m k
theorem Inst.inst {h : Heap} {x C dx : Addr} {m : Str → Option Value} {k : Nat} (I : Inst h x C dx m k) : ∃ o, InstAt h x (instObj C dx) C (some o) ∧ ∀ name, lookIn name o = some (m name) := by
  obtain ⟨o, h1, h2⟩ := I.dict.look
  exact ⟨o, ⟨I.at', rfl, rfl, h1⟩, h2⟩

/-- a class without surprises -/
structure ClsOk (K : Frag) (C : Addr) : Prop where
  ga : findIn K (.ref C) "__getattribute__" = some (some (.builtin "object.__getattribute__"))
  gk : findIn K (.ref C) "__getattr__" = some none
  sa : findIn K (.ref C) "__setattr__" = some (some (.builtin "object.__setattr__"))
  over : plainOver K C = true
  hasDict : (clsIn K C).any (·.hasDict) = true

section
variable {prog : Program} {w : World} {A : Around} {E : Value → Shared → Prop} {s : Shared} {K : Frag} {x C dx : Addr} {m : Str → Option Value} {k : Nat} {name : Str}

theorem get_field {v : Value} {expr : Bool} {Q : Value → Shared → Prop} (X : K.In s.heap) (O : ClsOk K C) (I : Inst s.heap x C dx m k) (hf : findIn K (.ref C) name = some none) (hv : m name = some v) (hh : handedIn v = true)
    (h : Q v { s with toks := s.toks + 1 }) : wpAny (model prog w) A (getAttr (.ref x) name expr) Q E s := by
  obtain ⟨o, I', hl⟩ := I.inst
  refine get_value X I' O.ga ?_ hh h
  obtain ⟨cd, hc, hd⟩ := any_some O.hasDict
  unfold findObj
  rw [hc, Option.bind_some, hf, Option.bind_some]
  show (W.ownOf cd (some o) name).bind _ = _
  unfold W.ownOf
  rw [hd, if_pos rfl]
  dsimp only
  rw [hl name, hv]
  rfl

theorem get_meth {f : Addr} {pl : Sem Bool} {Q : Value × List Value → Shared → Prop} (X : K.In s.heap) (O : ClsOk K C) (I : Inst s.heap x C dx m k) (hf : findIn K (.ref C) name = some (some (.ref f))) (ht : typeIn K (.ref f) = some (.type "function")) (hv : m name = none)
    (h : Q (.ref f, [.ref x]) s) : wpAny (model prog w) A (getMethod (.ref x) name pl) Q E s := by
  obtain ⟨o, I', hl⟩ := I.inst
  refine method_fn X I' O.ga O.gk hf ht ?_ h
  show (lookIn name o).map _ = _
  rw [hl name, hv]; rfl
theorem get_methField {v : Value} {pl : Sem Bool} {Q : Value × List Value → Shared → Prop} (X : K.In s.heap) (O : ClsOk K C) (I : Inst s.heap x C dx m k) (hf : findIn K (.ref C) name = some none) (hv : m name = some v) (hh : handedIn v = true)
    (h : Q (v, []) { s with toks := s.toks + 1 }) : wpAny (model prog w) A (getMethod (.ref x) name pl) Q E s := by
  obtain ⟨o, I', hl⟩ := I.inst
  exact method_usual X I' O.ga O.gk hf rfl (get_field X O I hf hv hh h)

theorem set_field {v : Value} {Q : Unit → Shared → Prop} (X : K.In s.heap) (O : ClsOk K C) (I : Inst s.heap x C dx m k) (ht : takerIn K C name = some none) (hk : k ≤ 100000)
    (h : ∀ h' tk, NsK h' dx (upd m name v) (k + 1) → Heap.SameBut dx s.heap h' → Q () { s with heap := h', toks := tk }) : wpAny (model prog w) A (setAttr (.ref x) name v) Q E s := by
  obtain ⟨o, I', hl⟩ := I.inst
  refine set_plain X I' O.sa (osa_open (s := { s with toks := s.toks + 1 }) X I' O.over ht fun b => ?_)
  obtain ⟨cd, hc, hd⟩ := any_some O.hasDict
  refine wpAny_bind (wpAny_pure (wpAny_bind (wpAny_bind (wpAny_loadPart I.at' (wpAny_bind (Looks.here (s := { s with toks := s.toks + 1 }) (looks_clsIn X hc) ?_))))))
  rw [hd]
  refine wpAny_pure (a := some dx) (wpAny_bind (wpAny_pure (wpAny_bind ?_)))
  refine nsSet_K (s := { s with toks := s.toks + 1 }) I.dict fun h' hn hs => ?_
  have hn' := hn
  obtain ⟨es, ep, ho, _, _, hz⟩ := hn'
  refine wpAny_bind (wpAny_lookBehind ho (pastItsLine_dict (by rw [sizeLine_eq]; omega)) (wpAny_pure ?_))
  exact h h' _ hn hs
end
end Mine
namespace Mine

theorem sig_append : ∃ sig, Manifest.signature? "list.append" = some sig ∧ ∀ a b : Value, Bind.checkArgs "list.append" { sig with full := toString (Bind.lastOf "list") ++ toString "." ++ toString (Bind.lastOf "list.append") } ⟨[a, b], []⟩ = pure () := by
  rw [signature?_of (id := "list.append") (n := ['d', 'n', 'e', 'p', 'p', 'a']) (o := ['t', 's', 'i', 'l']) (by kernel_rfl) PySem.F.owner_list]
  exact ⟨_, rfl, fun a b => by kernel_rfl⟩
theorem kind_append : builtinKind "list.append" = some .method := by decide +kernel

section
variable {prog : Program} {w : World} {A : Around} {E : Value → Shared → Prop} {s : Shared}

noncomputable abbrev boundObj (id : String) (a : Addr) : Obj := { cls := .type "builtin_function_or_method", data := .fields #[.builtin id, .ref a] }

theorem check_append {pa : Addr} {vs : Array Value} {nn : Nat} {x : Value} {Q : Unit → Shared → Prop} (ho : s.heap.get? pa = some { cls := .type "list", data := .seq vs nn }) (h : Q () s) :
    wpAny (model prog w) A (checkBoundCall "list.append" ⟨[.ref pa, x], []⟩) Q E s := by
  have hT : s.TypeIs (.ref pa) "list" := ⟨_, ho, rfl⟩
  obtain ⟨sig, hs, hc⟩ := sig_append
  unfold checkBoundCall
  rw [hs, kind_append]
  dsimp only
  rw [if_neg (by decide)]
  refine wpAny_bind (wpAny_isInstance (b := false) hT (by rw [isSubtype_type]; kernel_rfl) ?_)
  rw [if_neg (by decide +kernel)]
  refine wpAny_bind ?_
  unfold isType
  refine wpAny_bind (wpAny_load ho ?_)
  refine wpAny_pure ?_
  dsimp only
  rw [if_neg (by decide)]
  refine wpAny_bind (wpAny_typeOf hT ?_)
  dsimp only
  rw [hc]
  exact wpAny_pure h

/-- pieces.append, bound, is called -/
theorem bound_append {ba pa : Addr} {items : Array Value} {nn : Nat} {x : Value} {Q : Value → Shared → Prop} (hb : s.heap.get? ba = some (boundObj "list.append" pa)) (ho : s.heap.get? pa = some { cls := .type "list", data := .seq items nn })
    (hQ : ∀ h' n', h'.get? pa = some { cls := .type "list", data := .seq (items.push x) n' } → Heap.SameBut pa s.heap h' → Q .none { s with heap := h' }) (hsz : items.size ≤ 16777216) :
    wpAny (model prog w) A (call (.ref ba) [x]) Q E s := by
  obtain ⟨n', hd'⟩ := Obj.data_mapSeq (o := { cls := .type "list", data := .seq items nn }) rfl (·.push x)
  refine wpAny_call (codeAny_of_tree ?_)
  show wpAny _ _ (callAny (.ref ba) _) _ _ _
  unfold callAny
  refine wpAny_bind (wpAny_load hb ?_)
  dsimp only
  rw [if_pos (by decide)]
  show wpAny _ _ (if (Value.type "builtin_function_or_method" != Value.type "method") = true then (do checkBoundCall "list.append" ⟨[.ref pa, x], []⟩; again (.builtin "list.append" ⟨[.ref pa, x], []⟩)) else again (.call (.builtin "list.append") ⟨[.ref pa, x], []⟩)) _ _ _
  rw [if_pos (by decide)]
  refine wpAny_bind (check_append ho (wpAny_pure ⟨Code.quiet_builtin _ (by decide +kernel), codeAny_builtin entry_list_append ?_⟩))
  show wpAny _ _ (updateSeq pa (·.push x) >>= fun _ => ret .none) _ _ s
  refine wpAny_bind ?_
  refine wpAny_updateSeq ho rfl (wpAny_pure (hQ _ n' ?_ (Heap.SameBut.update ..))) (by rw [sizeLine_eq]; exact hsz)
  rw [Heap.get?_update_self _ ho (Obj.isFreed_of_seq hd')]
  exact congrArg some (obj_eq (Obj.cls_mapSeq ..) ⟨(Obj.dict_mapSeq ..).1, (Obj.dict_mapSeq ..).2⟩ hd')

/-- a bound built-in in front of the brackets -/
theorem callWith_bound {pos : Pos} {id : String} {ba pa : Addr} {args : List (Bool × Sem Value)} {Q : Value → Shared → Prop} (hplain : args.any (·.1) = false)
    (h : wpAny (model prog w) A (evalArgs (.ref ba) true args []) (fun a s₁ => s₁.heap.get? ba = some (boundObj id pa) ∧ wpAny (model prog w) A (call (.ref ba) a.pos a.kw) Q E s₁) E s) :
    wpAny (model prog w) A (callWith pos (.ref ba) [] args []) Q E s := by
  unfold callWith
  refine wpAny_bind (wpAny_holding (wpAny_mono h (fun a s₁ h₁ => wpAny_bind (wpAny_standAt ?_)) fun _ _ x => x))
  obtain ⟨hb, h₁⟩ := h₁
  simp only [hplain, List.any_nil, Bool.or_false]
  unfold keeperOf
  refine wpAny_bind (wpAny_bind (wpAny_load hb ?_))
  dsimp only
  rw [if_pos (by decide)]
  refine wpAny_pure ?_
  show wpAny _ _ (do let r ← call (.ref ba) ([] ++ a.pos) a.kw; holding [r] point; pure r) _ _ _
  exact wpAny_bind (wpAny_mono h₁ (fun r s₂ hr => wpAny_bind (wpAny_holding (wpAny_point (wpAny_pure hr)))) fun _ _ x => x)

/-- x.name(..) by what getMethod gives -/
theorem Call_meth {env : Env} {o : Expr} {name : Str} {apos pos : Pos} {args : List Expr} {Q : Value → Shared → Prop} (hbase : attributeBase o name env (eval o env) = eval o env)
    (hp : args.all plainE = true) (hlen : decide (args.length < 30) = true) (hline : (apos.endLine == pos.line) = true)
    (h : wpAny (model prog w) A (eval o env) (fun ov s₁ => ∀ pl, wpAny (model prog w) A (getMethod ov name pl) (fun r s₂ => wpAny (model prog w) A (callWith pos r.1 r.2 (backTo pos (starEach args env)) []) Q E s₂) E s₁) E s) :
    wpAny (model prog w) A (eval (.Call (.Attribute o name apos) args [] pos) env) Q E s := by
  rw [arm_eval_Call, hbase]
  refine wpAny_bind (wpAny_mono h (fun ov s₁ h₁ => wpAny_bind (wpAny_standAt ?_)) fun _ _ x => x)
  have hf : methodCallForm (args.length + ([] : List Keyword).length) (backTo pos (starEach args env)) (backToKw pos (keywordEach [] env)) = true := by
    unfold methodCallForm
    have h2 := noStar_all (env := env) (pos := pos) hp
    have h3 : (backTo pos (starEach args env)).all (fun x => !x.1) = true := by
      rw [List.all_eq_not_any_not]; simpa using h2
    rw [h3]
    exact hlen
  unfold methodCall
  rw [hf]
  refine wpAny_bind (wpAny_holding (wpAny_mono (h₁ _) (fun r s₂ h₂ => ?_) fun _ _ x => x))
  unfold methodCallPos
  rw [hline]
  exact wpAny_bind (wpAny_pure h₂)
end
end Mine
namespace Mine

/-- what a piece of code may do: the places fp may turn, the slots of fr may turn -/
structure StpF (fr fp : List Addr) (s : Shared) (fp' : List Addr) (s' : Shared) : Prop where
  keep : ∀ b o, b ∉ fp → b ∉ fr → s.heap.get? b = some o → s'.heap.get? b = some o
  up : ∀ b o, b ∈ fr → b ∉ fp → s.heap.get? b = some o → ∃ sl, s'.heap.get? b = some { o with slots := sl }
  tok : s.toks ≤ s'.toks
  gens : s'.gens = s.gens
  os : s'.os = s.os
  new : ∀ b ∈ fp', b ∈ fp ∨ s.heap.get? b = none
  live : ∀ b ∈ fp, ∀ o, s.heap.get? b = some o → ∃ o', s'.heap.get? b = some o'
theorem StpF.of {fr fp fp' : List Addr} {s s' : Shared} (t : Stp fp s fp' s') : StpF fr fp s fp' s' :=
  ⟨fun b o h _ e => t.keep b o h e, fun b o _ h e => ⟨o.slots, t.keep b o h e⟩, t.tok, t.gens, t.os, t.new, t.live⟩
theorem StpF.alive {fr fp fp' : List Addr} {s s' : Shared} (t : StpF fr fp s fp' s') {b : Addr} {o : Obj} (e : s.heap.get? b = some o) : ∃ o', s'.heap.get? b = some o' := by
  by_cases h1 : b ∈ fp
  · exact t.live b h1 o e
  · by_cases h2 : b ∈ fr
    · obtain ⟨sl, e'⟩ := t.up b o h2 h1 e; exact ⟨_, e'⟩
    · exact ⟨o, t.keep b o h1 h2 e⟩
section
variable {c : Cx} {n : Nat} {sc : Scope} {env : Env} {V0 : Addr → Prop} {h0 : Heap} {Cs : List (Str × Addr)} {X : List Addr} {ρ : Sto} {s : Shared} {A : Around} {x : String} {R R' : Res} {fp fp' fps' fr : List Addr}

structure OpR (c : Cx) (env : Env) (V0 : Addr → Prop) (Cs : List (Str × Addr)) (X : List Addr) (ρ : Sto) (x : String) (R : Res) (fp fps' : List Addr) (s : Shared) : Prop where
  ns : ∃ m, s.heap.Ns env.locals m ∧ Loc env s m x R.v ∧ StoR c env (Vol V0 X) s m (delS x ρ) fps'
  p : R.P fp s.heap
  nd : (env.locals :: (Cs.map (·.2) ++ (fp ++ fps'))).Nodup
  sub : ∀ b ∈ env.locals :: (Cs.map (·.2) ++ (fp ++ fps')), b ∈ X

theorem Fm.opR (F : Fm c sc env V0 h0 Cs X ρ s) (h : ρ.lookup x = some (.res R)) : ∃ fp fps', OpR c env V0 Cs X ρ x R fp fps' s := by
  obtain ⟨m, fps, h1, h2, h3, h4, h6, h5⟩ := F.sto
  obtain ⟨v, fp, fps', rest, l, rx, r, hp⟩ := h5.take h
  cases rx with
  | res hP =>
    have hx1 : (env.locals :: (Cs.map (·.2) ++ fps)).Nodup := h2 ▸ h3
    have hpm : (rest ++ (env.locals :: (Cs.map (·.2) ++ (fp ++ fps')))).Perm (env.locals :: (Cs.map (·.2) ++ fps)) := by
      refine List.perm_middle.trans (List.Perm.cons _ ?_)
      exact (List.perm_append_comm_assoc rest _ _).trans (hp.append_left _)
    exact ⟨fp, fps', ⟨m, h1, l, r⟩, hP, (List.nodup_append.mp (hpm.nodup_iff.mpr hx1)).2.1, fun b hb => h2 ▸ hpm.subset (List.mem_append_right _ hb)⟩

theorem OpR.gr {s' : Shared} (O : OpR c env V0 Cs X ρ x R fp fps' s) (g : Gr s s') : OpR c env V0 Cs X ρ x R fp fps' s' := by
  obtain ⟨m, h1, h2, h3⟩ := O.ns
  exact ⟨⟨m, h1.keeps g.keep, h2.calm (fun _ => rfl) fun _ _ _ _ e _ => g.keep _ _ e, h3.gr g⟩, R.keep _ _ _ O.p fun a _ o e => g.keep _ _ e, O.nd, O.sub⟩
theorem OpR.fpX (O : OpR c env V0 Cs X ρ x R fp fps' s) : ∀ a ∈ fp, a ∈ X := fun a ha => O.sub a (.tail _ (List.mem_append_right _ (List.mem_append_left _ ha)))
theorem OpR.fpN (O : OpR c env V0 Cs X ρ x R fp fps' s) : fp.Nodup := (List.nodup_append.mp (List.nodup_append.mp (List.nodup_cons.mp O.nd).2).2.1).1
theorem OpR.load {E : Value → Shared → Prop} {Q : Value → Shared → Prop} {p : Pos} (F : Fm c sc env V0 h0 Cs X ρ s) (O : OpR c env V0 Cs X ρ x R fp fps' s) (hx : x ≠ "__debug__") (h : Q R.v s) :
    wpAny c.M A (eval (.Name (Str.ofString x) p) env) Q E s := by
  obtain ⟨m, h1, h2, _⟩ := O.ns
  exact wpAny_Name (h2.load (by rw [F.scope]; exact F.kind) h1 h) (ofString_ne hx)

/-- the resource has been turned, and all is said again -/
theorem OpR.close {s' : Shared} (F : Fm c sc env V0 h0 Cs X ρ s) (O : OpR c env V0 Cs X ρ x R fp fps' s) (hv : R'.v = R.v) (t : StpF fr fp s fp' s') (hfr : ∀ b ∈ fr, b = env.locals) (hp : R'.P fp' s'.heap) (hn : fp'.Nodup) :
    ∃ X', Stp X s X' s' ∧ Fm c sc env V0 h0 Cs X' (setS ρ x (.res R')) s' := by
  obtain ⟨m, h1, h2, h3⟩ := O.ns
  obtain ⟨m0, fps0, _, hX0, _, hlv, hcl, _⟩ := F.sto
  have hLX : env.locals ∈ X := O.sub _ (.head _)
  have hnd := List.nodup_cons.mp O.nd
  have hnd2 := List.nodup_append.mp hnd.2
  have hnd3 := List.nodup_append.mp hnd2.2.1
  have hLfp : env.locals ∉ fp := fun q => hnd.1 (List.mem_append_right _ (List.mem_append_left _ q))
  have hfpX := O.fpX
  have hcalm : ∀ b o, ¬ Vol V0 X b → s.heap.get? b = some o → s'.heap.get? b = some o := fun b o nb e =>
    t.keep b o (fun q => nb (.inr (hfpX b q))) (fun q => nb (.inr (hfr b q ▸ hLX))) e
  have hcm : Calm (Vol V0 X) s s' := ⟨t.tok, fun b o nb e _ => hcalm b o nb e⟩
  have hofs : ∀ b o, b ∉ fp → b ≠ env.locals → s.heap.get? b = some o → s'.heap.get? b = some o := fun b o h1 h2 e => t.keep b o h1 (fun q => h2 (hfr b q)) e
  have hfresh : ∀ b ∈ fp', b ∉ fp → b ∉ X := fun b hb hnb q => by
    rcases t.new b hb with q' | q'
    · exact hnb q'
    · obtain ⟨o, e⟩ := hlv b q; rw [q'] at e; cases e
  have hfpq : ∀ b ∈ fp', ∀ b', b' ∈ env.locals :: (Cs.map (·.2) ++ fps') → b ≠ b' := fun b hb b' hb' q => by
    subst q
    have hbX : b ∈ X := O.sub b (by
      rcases List.mem_cons.mp hb' with q | q
      · exact q ▸ .head _
      · refine .tail _ ?_
        rcases List.mem_append.mp q with q | q
        · exact List.mem_append_left _ q
        · exact List.mem_append_right _ (List.mem_append_right _ q))
    by_cases hbf : b ∈ fp
    · rcases List.mem_cons.mp hb' with q | q
      · exact hLfp (q ▸ hbf)
      · rcases List.mem_append.mp q with q | q
        · exact hnd2.2.2 b q b (List.mem_append_left _ hbf) rfl
        · exact hnd3.2.2 b hbf b q rfl
    · exact hfresh b hb hbf hbX
  have hXn : (env.locals :: (Cs.map (·.2) ++ (fp' ++ fps'))).Nodup := by
    refine List.nodup_cons.mpr ⟨fun q => ?_, List.nodup_append.mpr ⟨hnd2.1, List.nodup_append.mpr ⟨hn, hnd3.2.1, fun a ha b hb e => ?_⟩, fun a ha b hb e => ?_⟩⟩
    · rcases List.mem_append.mp q with q | q
      · exact hnd.1 (List.mem_append_left _ q)
      · rcases List.mem_append.mp q with q | q
        · exact hfpq _ q _ (.head _) rfl
        · exact hnd.1 (List.mem_append_right _ (List.mem_append_right _ q))
    · exact hfpq a ha b (.tail _ (List.mem_append_right _ hb)) e
    · rcases List.mem_append.mp hb with q | q
      · exact hfpq b q a (.tail _ (List.mem_append_left _ ha)) e.symm
      · exact hnd2.2.2 a ha b (List.mem_append_right _ q) e
  have hsub : ∀ b ∈ env.locals :: (Cs.map (·.2) ++ (fp' ++ fps')), b ∈ X ∨ (b ∈ fp' ∧ s.heap.get? b = Option.none) := fun b hb => by
    rcases List.mem_cons.mp hb with q | q
    · exact .inl (q ▸ hLX)
    · rcases List.mem_append.mp q with q | q
      · exact .inl (O.sub b (.tail _ (List.mem_append_left _ q)))
      · rcases List.mem_append.mp q with q | q
        · rcases t.new b q with q' | q'
          · exact .inl (hfpX b q')
          · exact .inr ⟨q, q'⟩
        · exact .inl (O.sub b (.tail _ (List.mem_append_right _ (List.mem_append_right _ q))))
  have hns : s'.heap.Ns env.locals m := by
    obtain ⟨o, es, ep, ho, hd, r⟩ := h1
    by_cases q : env.locals ∈ fr
    · obtain ⟨sl, e⟩ := t.up _ o q hLfp ho; exact ⟨_, es, ep, e, hd, r⟩
    · exact ⟨o, es, ep, t.keep _ o hLfp q ho, hd, r⟩
  have hcell : ∀ b o w, s.heap.get? b = some o → o.data = .cell w → s'.heap.get? b = some o := fun b o w e hw => by
    refine hofs b o (fun q => R.nocell _ _ O.p b q o w e hw) (fun q => ?_) e
    obtain ⟨o', es, ep, ho, hd, _⟩ := h1
    rw [q, ho] at e; cases e; rw [hd] at hw; cases hw
  have h30 : ∀ a o, h0.get? a = some o → a ∉ X := fun a o e q => by rw [F.new a q] at e; cases e
  refine ⟨_, ⟨fun b o hb e => hofs b o (fun q => hb (hfpX b q)) (fun q => hb (q ▸ hLX)) e, t.tok, t.gens, t.os, fun b hb => (hsub b hb).imp id And.right, fun b _ o e => t.alive e⟩,
    ⟨F.good, F.scope, F.kind, F.globals, F.builtins, F.base, fun b o e => hofs b o (fun q => h30 b o e (hfpX b q)) (fun q => h30 b o e (q ▸ hLX)) (F.keep b o e), fun e => F.tok (Nat.le_zero.mp (e ▸ t.tok)), (fun b q => ?_), F.ccells, fun b hb => ?_, F.cells, F.cinj,
      ⟨m, _, hns, rfl, hXn, fun b hb => ?_, fun p hp => ?_, .cons (v := R'.v) (fp := fp') ?_ (.res hp) ?_⟩⟩⟩
  · obtain ⟨⟨o, e⟩, hx⟩ := F.live0 b q
    exact ⟨t.alive e, fun q' => (hsub b q').elim hx fun q'' => by rw [q''.2] at e; cases e⟩
  · rcases hsub b hb with q | q
    · exact F.new b q
    · cases e : h0.get? b with
      | none => rfl
      | some o => have := F.keep b o e; rw [q.2] at this; cases this
  · rcases hsub b hb with q | q
    · obtain ⟨o, e⟩ := hlv b q; exact t.alive e
    · exact R'.live _ _ hp b q.1
  · obtain ⟨v, o, e, d⟩ := hcl p hp
    exact ⟨v, o, hcell _ o _ e d, d⟩
  · rw [hv]; exact h2.calm (fun _ => rfl) fun b o w _ e hw => hcell b o w e hw
  · have h3' : StoR c env (fun a => Vol V0 X a ∨ (a ∈ fp' ∧ s.heap.get? a = Option.none)) s m (delS x ρ) fps' := h3.ext fun a q => q.2
    refine StoR.weak (fun b q => ?_) (h3'.change ⟨t.tok, fun b o nb e _ => hcalm b o (fun q => nb (.inl q)) e⟩ (fun b hb o e => hofs b o (fun q => hnd3.2.2 b q b hb rfl) (fun q => hnd.1 (q ▸ List.mem_append_right _ (List.mem_append_right _ hb))) e) (fun _ _ _ => rfl) fun p hp b o w _ e hw => hcell b o w e hw)
    rcases q with q | q
    · exact .inl (.inl q)
    · rcases hsub b q with q' | q'
      · exact .inl (.inr q')
      · exact .inr q'
end
end Mine
namespace Mine

/-- a def that binds vs when it is called with args -/
structure IsDefB (c : Cx) (a : Addr) (sc : Scope) (ps : List String) (body : List Stmt) (args : Args) (vs : List Value) : Prop where
  ex : ∃ o fd, c.base.get? a = some o ∧ o.data = .func fd ∧ fd.body = .stmts body ∧ fd.scope = sc ∧ fd.closure = [] ∧ fd.globals = mainGlobals ∧ fd.builtins = builtinsNs ∧ c.base.CodeRec fd.code fd.qualname ∧
    (∀ s : Shared, Keeps c.base s.heap → BindsTo s fd args (bindsOf ps vs))
  kinds : ∀ p ∈ ps, CanStore sc p
  nodup : ps.Nodup
  cnd : ((cellsFrom 0 sc.names []).map (·.1)).Nodup
  co : sc.isCoroutine = false
  gen : sc.isGenerator = false
  kind : sc.kind = .function
  nofree : ∀ x, sc.names.lookup x ≠ some .free
theorem IsDefL.toB {c : Cx} {a : Addr} {sc : Scope} {ps : List String} {body : List Stmt} {vs : List Value} (h : IsDefL c a sc ps body) (hl : vs.length = ps.length) : IsDefB c a sc ps body ⟨vs, []⟩ vs :=
  ⟨let ⟨o, fd, h1, h2, h3, h4, h5, h6, h7, h8, h9⟩ := h.ex; ⟨o, fd, h1, h2, h3, h4, h5, h6, h7, h8, fun s _ => .of_eq (h9 vs hl)⟩, h.kinds, h.nodup, h.cnd, h.co, h.gen, h.kind, h.nofree⟩

/-- a def is entered whose first parameter is a resource -/
theorem fn_enterC {c : Cx} {x₀ : String} {R : Res} {fp : List Addr} {n : Nat} {a : Addr} {sc : Scope} {ps : List String} {body : List Stmt} {ds : List D} {args : Args} {vs : List Value} (hd : IsDefB c a sc (x₀ :: ps) body args (R.v :: vs)) (hl : ps.length = ds.length) {A : Around} {V : Addr → Prop} {s : Shared}
    {Q E : Value → Shared → Prop} (hA : Room c (n + 1) A) (hS : St c V s) (hfV : ∀ a ∈ fp, ¬ V a) (hfn : fp.Nodup) (hfb : ∀ a ∈ fp, c.base.get? a = none) (hP : R.P fp s.heap) (r : RepL c (fun a => V a ∨ a ∈ fp) s ds vs)
    (h : ∀ env X s₁, env.frame = some env.locals → s.heap.get? env.locals = none → Gr s s₁ → Fm c sc env V (hideAll s.heap fp) env.cells X ((x₀, .res R) :: stoOf ps ds) s₁ → Own sc env.cells → (∀ a ∈ X, s.heap.get? a = none ∨ a ∈ fp) → (∀ a ∈ fp, a ∈ X) →
      wpAny c.M (A.deeper env) (execs body env) (fun f s' => s.toks ≤ s'.toks → Q (match f with | .ret v => v | _ => .none) s') (fun e s' => wpAny c.M (A.deeper env) (leaving env e) (fun _ s'' => s.toks ≤ s''.toks → E e s'') (fun e' s'' => s.toks ≤ s''.toks → E e' s'') s') s₁) :
    codeAny c.M A (.call (.ref a) args) (fun r s' => match r with | .ok (.ret v) => s.toks ≤ s'.toks → Q v s' | .ok _ => False | .error e => s.toks ≤ s'.toks → E e s') s := by
  obtain ⟨o, fd, ho, hdat, hbody, hsc, hclo, hgl, hbl, hcd, hbind⟩ := hd.ex
  subst hsc
  have hvl : vs.length = ps.length := by rw [← r.length, hl]
  have hkinds : ∀ x ∈ bindsOf (x₀ :: ps) (R.v :: vs), fd.scope.names.lookup x.1 = some .local ∨ (fd.scope.names.lookup x.1 = some .cell ∧ ((cellsFrom (s.heap.objs.size + 1) fd.scope.names []).lookup x.1).isSome = true) := fun x hx => by
    obtain ⟨x1, x2⟩ := x
    have := List.of_mem_zip hx
    obtain ⟨p, hp, e⟩ := List.mem_map.mp this.1
    subst e
    rcases hd.kinds p hp with q | q
    · exact .inl q
    · exact .inr ⟨q, cellsFrom_has _ _ _ q⟩
  have hnames : ((bindsOf (x₀ :: ps) (R.v :: vs)).map (·.1)).Nodup := by
    unfold bindsOf
    rw [List.map_fst_zip (by simp [hvl])]
    have : ∀ l : List String, l.Nodup → (l.map Str.ofString).Nodup := by
      intro l hl
      induction l with
      | nil => exact .nil
      | cons x l ih =>
        rw [List.map_cons, List.nodup_cons]
        refine ⟨fun q => ?_, ih (List.nodup_cons.mp hl).2⟩
        obtain ⟨y, hy, e⟩ := List.mem_map.mp q
        exact (List.nodup_cons.mp hl).1 (ofString_inj e ▸ hy)
    exact this (x₀ :: ps) hd.nodup
  refine codeAny_call_function hA.lim (hS.keep _ _ ho) hdat hd.co hd.gen hbody (hcd.keeps hS.keep) ?_
  rw [hclo]
  refine hbind s hS.keep _ _ _ _ (wpAny_with_toks (Nat.le_refl _) (wpAny_newFunctionEnv_cells hd.kind hkinds fun env he s₁ x htok => ?_))
  subst he
  refine ⟨(hS.good.lim.keeps hS.keep).keeps x.toInCall.keep, codeAny_func ?_⟩
  -- the body
  have hk₁ : Keeps s.heap s₁.heap := x.toInCall.keep
  have hca := x.apart
  obtain ⟨h₁, tk, rfl⟩ := x.toInCall.same
  have hcellAt : ∀ y b, (y, b) ∈ (callEnvC fd s.heap.objs.size a).cells → (callEnvC fd s.heap.objs.size a).cells.lookup y = some b := fun y b hm => by
    have hnd : ((cellsFrom (s.heap.objs.size + 1) fd.scope.names []).map (·.1)).Nodup := cellsFrom_shift fd.scope.names 0 (s.heap.objs.size + 1) [] [] rfl ▸ hd.cnd
    exact lookup_of_mem_nodup hnd hm
  have htk : 0 < tk := Nat.lt_of_lt_of_le hS.pos htok
  have gr₁ : Gr s { s with heap := h₁, toks := tk } := ⟨hk₁, htok, rfl, rfl⟩
  have hnew : ∀ b ∈ s.heap.objs.size :: (callEnvC fd s.heap.objs.size a).cells.map (·.2), s.heap.get? b = none := fun b hb => by
    have : s.heap.objs.size ≤ b := by
      rcases List.mem_cons.mp hb with q | q
      · exact Nat.le_of_eq q.symm
      · obtain ⟨p, hp, rfl⟩ := List.mem_map.mp q
        exact Nat.le_of_lt (x.above p.1 p.2 hp)
    cases e : s.heap.get? b with
    | none => rfl
    | some o' => exact absurd (Heap.lt_size e) (Nat.not_lt.mpr this)
  have hfl := R.live _ _ hP
  have hXc : ∀ b ∈ s.heap.objs.size :: ((callEnvC fd s.heap.objs.size a).cells.map (·.2) ++ (fp ++ [])), s.heap.get? b = none ∨ b ∈ fp := fun b hb => by
    rcases List.mem_cons.mp hb with q | q
    · exact .inl (hnew b (q ▸ .head _))
    · rcases List.mem_append.mp q with q | q
      · exact .inl (hnew b (.tail _ q))
      · exact .inr (by simpa using q)
  have hnewH : ∀ b ∈ s.heap.objs.size :: ((callEnvC fd s.heap.objs.size a).cells.map (·.2) ++ (fp ++ [])), (hideAll s.heap fp).get? b = none := fun b hb => by
    rcases hXc b hb with q | q
    · cases e : (hideAll s.heap fp).get? b with
      | none => rfl
      | some o' => have := of_hideAll _ e; rw [q] at this; cases this
    · exact hideAll_none _ q
  have hP₁ : R.P fp h₁ := R.keep _ _ _ hP fun b _ o e => hk₁ b o e
  have F : Fm c fd.scope (callEnvC fd s.heap.objs.size a) V (hideAll s.heap fp) (callEnvC fd s.heap.objs.size a).cells (s.heap.objs.size :: ((callEnvC fd s.heap.objs.size a).cells.map (·.2) ++ (fp ++ []))) ((x₀, .res R) :: stoOf ps ds) { s with heap := h₁, toks := tk } := by
    refine ⟨hS.good, rfl, hd.kind, hgl, hbl, fun b o e => hideAll_get _ (hS.keep b o e) (fun q => by rw [hfb b q] at e; cases e), fun b o e => hk₁ b o (of_hideAll _ e), Nat.ne_of_gt htk, (fun b q => by
      obtain ⟨o', e⟩ := hS.live b q
      exact ⟨⟨o', hk₁ _ _ e⟩, fun hb => (hXc b hb).elim (fun q' => by rw [q'] at e; cases e) fun q' => hfV b q' q⟩), (fun y hy => by
      rcases hy with hy | hy
      · exact Option.isSome_iff_exists.mp (cellsFrom_has fd.scope.names (s.heap.objs.size + 1) [] hy)
      · exact absurd hy (hd.nofree y)), hnewH, fun _ _ q => q, fun y z b hy hz => lookup_inj hca hy hz,
      ⟨_, fp ++ [], x.toInCall.ns, rfl, ?_, fun b hb => ?_, fun p hp => ⟨_, x.cell p.1 p.2 (hcellAt _ _ hp)⟩, ?_⟩⟩
    · have hold : ∀ b ∈ fp, ∀ b' ∈ s.heap.objs.size :: (callEnvC fd s.heap.objs.size a).cells.map (·.2), b' ≠ b := fun b hb b' hb' q => by
        obtain ⟨o', e⟩ := hfl b hb
        rw [← q, hnew b' hb'] at e; cases e
      rw [List.append_nil]
      refine List.nodup_cons.mpr ⟨fun q => ?_, List.nodup_append.mpr ⟨List.pairwise_map.mpr hca, hfn, fun b hb b' hb' q => hold b' hb' b (.tail _ hb) q⟩⟩
      rcases List.mem_append.mp q with q | q
      · obtain ⟨p, hp, e⟩ := List.mem_map.mp q
        have := x.above p.1 p.2 hp
        exact Nat.lt_irrefl _ (e ▸ this)
      · exact hold _ q _ (.head _) rfl
    · rcases List.mem_cons.mp hb with q | q
      · obtain ⟨oL, _, _, e, _⟩ := x.toInCall.ns
        exact ⟨oL, q ▸ e⟩
      · rcases List.mem_append.mp q with q | q
        · obtain ⟨p, hp, rfl⟩ := List.mem_map.mp q
          obtain ⟨oc, e, _⟩ := x.cell p.1 p.2 (hcellAt _ _ hp)
          exact ⟨oc, e⟩
        · obtain ⟨o', e⟩ := hfl b (by simpa using q)
          exact ⟨o', hk₁ _ _ e⟩
    · have hloc : ∀ p v, (Str.ofString p, v) ∈ bindsOf (x₀ :: ps) (R.v :: vs) → p ∈ x₀ :: ps → Loc (callEnvC fd s.heap.objs.size a) { s with heap := h₁, toks := tk } (bindL (callEnvC fd s.heap.objs.size a).kindOf (bindsOf (x₀ :: ps) (R.v :: vs)) fun _ => none) p v := fun p v hm hp => by
        rcases hd.kinds p hp with q | q
        · exact .loc q (bindL_at q _ _ hnames hm)
        · obtain ⟨b, hb⟩ := Option.isSome_iff_exists.mp (cellsFrom_has fd.scope.names (s.heap.objs.size + 1) [] q)
          obtain ⟨oc, e, hdc⟩ := x.cell _ _ hb
          refine .cell (.inl q) hb e (hdc.trans ?_)
          have : bindC (callEnvC fd s.heap.objs.size a).kindOf (bindsOf (x₀ :: ps) (R.v :: vs)) (fun _ => none) (Str.ofString p) = some v := bindC_at (by
            show fd.scope.names.lookup _ ≠ _
            rw [q]; decide) _ _ hnames hm
          exact congrArg _ this
      have r2 : RepL c (Vol V (s.heap.objs.size :: ((callEnvC fd s.heap.objs.size a).cells.map (·.2) ++ (fp ++ [])))) { s with heap := h₁, toks := tk } ds vs :=
        ((r.ext (W := fun b => b ∈ s.heap.objs.size :: (callEnvC fd s.heap.objs.size a).cells.map (·.2)) hnew).gr gr₁).weak fun b q => by
          rcases q with q | q
          · exact .inl (.inl q)
          · rcases List.mem_cons.mp q with q | q
            · exact .inr (q ▸ .head _)
            · rcases List.mem_append.mp q with q | q
              · exact .inr (.tail _ q)
              · exact .inl (.inr (by simpa using q))
      exact .cons (fp := fp) (fps := []) (hloc x₀ R.v (.head _) (.head _)) (.res hP₁) (repL_zip r2 hl _ _ fun p v hm hp => hloc p v (.tail _ hm) (.tail _ hp))
  exact wpAny_mono (h _ _ _ rfl (hnew _ (.head _)) gr₁ F (fun y hy => Option.isSome_iff_exists.mp (cellsFrom_has fd.scope.names (s.heap.objs.size + 1) [] hy)) hXc (fun b hb => .tail _ (List.mem_append_right _ (by simpa using hb)))) (fun f s' q => q) fun _ _ q => q
theorem fn_enterB {c : Cx} {x₀ : String} {R : Res} {fp : List Addr} {n : Nat} {a : Addr} {sc : Scope} {ps : List String} {body : List Stmt} {ds : List D} {args : Args} {vs : List Value} (hd : IsDefB c a sc (x₀ :: ps) body args (R.v :: vs)) (hl : ps.length = ds.length) {A : Around} {V : Addr → Prop} {s : Shared}
    {Q E : Value → Shared → Prop} (hA : Room c (n + 1) A) (hS : St c V s) (hfV : ∀ a ∈ fp, ¬ V a) (hfn : fp.Nodup) (hfb : ∀ a ∈ fp, c.base.get? a = none) (hP : R.P fp s.heap) (r : RepL c (fun a => V a ∨ a ∈ fp) s ds vs)
    (h : ∀ env X s₁, env.frame = some env.locals → s.heap.get? env.locals = none → Gr s s₁ → Fm c sc env V (hideAll s.heap fp) env.cells X ((x₀, .res R) :: stoOf ps ds) s₁ → Own sc env.cells → (∀ a ∈ X, s.heap.get? a = none ∨ a ∈ fp) → (∀ a ∈ fp, a ∈ X) →
      wpAny c.M (A.deeper env) (execs body env) (fun f s' => s.toks ≤ s'.toks → Q (match f with | .ret v => v | _ => .none) s') (fun e s' => wpAny c.M (A.deeper env) (leaving env e) (fun _ s'' => s.toks ≤ s''.toks → E e s'') (fun e' s'' => s.toks ≤ s''.toks → E e' s'') s') s₁) :
    wpAny c.M A (call (.ref a) args.pos args.kw) Q E s := by
  refine wpAny_with_toks (Nat.le_refl _) (wpAny_call (codeAny_mono (fn_enterC hd hl hA hS hfV hfn hfb hP r h) fun r s' q => ?_))
  cases r with
  | error e => exact q
  | ok f =>
    cases f with
    | ret v => exact q
    | _ => exact q.elim

theorem fn_enterP {c : Cx} {x₀ : String} {R : Res} {fp : List Addr} {n : Nat} {a : Addr} {sc : Scope} {ps : List String} {body : List Stmt} {ds : List D} (hd : IsDefL c a sc (x₀ :: ps) body) (hl : ps.length = ds.length) {A : Around} {V : Addr → Prop} {s : Shared} {vs : List Value}
    {Q E : Value → Shared → Prop} (hA : Room c (n + 1) A) (hS : St c V s) (hfV : ∀ a ∈ fp, ¬ V a) (hfn : fp.Nodup) (hfb : ∀ a ∈ fp, c.base.get? a = none) (hP : R.P fp s.heap) (r : RepL c (fun a => V a ∨ a ∈ fp) s ds vs)
    (h : ∀ env X s₁, env.frame = some env.locals → s.heap.get? env.locals = none → Gr s s₁ → Fm c sc env V (hideAll s.heap fp) env.cells X ((x₀, .res R) :: stoOf ps ds) s₁ → Own sc env.cells → (∀ a ∈ X, s.heap.get? a = none ∨ a ∈ fp) → (∀ a ∈ fp, a ∈ X) →
      wpAny c.M (A.deeper env) (execs body env) (fun f s' => s.toks ≤ s'.toks → Q (match f with | .ret v => v | _ => .none) s') (fun e s' => wpAny c.M (A.deeper env) (leaving env e) (fun _ s'' => s.toks ≤ s''.toks → E e s'') (fun e' s'' => s.toks ≤ s''.toks → E e' s'') s') s₁) :
    wpAny c.M A (call (.ref a) (R.v :: vs)) Q E s :=
  fn_enterB (args := ⟨R.v :: vs, []⟩) (hd.toB (by simp [← r.length, hl])) hl hA hS hfV hfn hfb hP r h

end Mine
namespace Mine

/-- f called with a resource and ds turns the resource and gives d -/
structure FnP (c : Cx) (n : Nat) (f : Value) (R : Res) (ds : List D) (R' : Res) (d : D) : Prop where
  run : ∀ A V s vs fp, Room c n A → St c V s → (∀ a ∈ fp, ¬ V a) → fp.Nodup → (∀ a ∈ fp, c.base.get? a = none) → R.P fp s.heap → RepL c (fun a => V a ∨ a ∈ fp) s ds vs →
    wpAny c.M A (call f (R.v :: vs)) (fun v s' => ∃ fp', StpF [] fp s fp' s' ∧ R'.P fp' s'.heap ∧ fp'.Nodup ∧ Rep c V s' d v) (fun _ _ => False) s

section
variable {c : Cx} {n : Nat} {sc : Scope} {ρ : Sto}

/-- what a frame leaves of its resource -/
theorem Fm.left {env V h0 X X' s₁ s'} {s : Shared} {fp : List Addr} {x₀ : String} {R' : Res} {ρ' : Sto} (g : Gr s s₁) (hXc : ∀ a ∈ X, s.heap.get? a = none ∨ a ∈ fp) (hfX : ∀ a ∈ fp, a ∈ X) (hfl : ∀ a ∈ fp, ∃ o, s.heap.get? a = some o)
    (hkeep : ∀ b o, b ∉ fp → s.heap.get? b = some o → s'.heap.get? b = some o) (t : Stp X s₁ X' s') (F : Fm c sc env V h0 env.cells X' ρ' s') (hs : SubS [(x₀, .res R')] ρ') :
    ∃ fp', StpF [] fp s fp' s' ∧ R'.P fp' s'.heap ∧ fp'.Nodup := by
  obtain ⟨X'', hsub, F''⟩ := Ent.sub (c := c) (sc := sc) hs env V h0 env.cells X' s' F
  obtain ⟨m, fps, h1, h2, h3, h4, h6, h5⟩ := F''.sto
  cases h5 with
  | cons l r rs =>
    cases rs
    cases r with
    | res hP =>
      rename_i fp'
      have hfp' : ∀ a ∈ fp', a ∈ X'' := fun a ha => h2 ▸ .tail _ (List.mem_append_right _ (by simpa using ha))
      refine ⟨fp', ⟨fun b o h _ e => hkeep b o h e, fun b o h => (nomatch h), Nat.le_trans g.tok t.tok, t.gens.trans g.gens, t.os.trans g.os, fun b hb => ?_, fun b hb o e => ?_⟩, hP, ?_⟩
      · rcases t.new b (hsub b (hfp' b hb)) with q | q
        · exact (hXc b q).symm
        · refine .inr ?_
          cases e : s.heap.get? b with
          | none => rfl
          | some o => rw [g.keep _ _ e] at q; cases q
      · exact t.live b (hfX b hb) o (g.keep _ _ e)
      · have := (List.nodup_append.mp (List.nodup_cons.mp (h2 ▸ h3)).2).2.1
        simpa using this

theorem FnP.runB {a : Addr} {x₀ : String} {ps : List String} {body : List Stmt} {ds : List D} {d : D} {R R' : Res} {args : Args} {vs : List Value} (hd : IsDefB c a sc (x₀ :: ps) body args (R.v :: vs)) (hnl : ¬ c.lsc sc) (hl : ps.length = ds.length)
    (h : Tr c n sc ((x₀, .res R) :: stoOf ps ds) body fun af ρ' => (af = .ret d ∨ (d = .none ∧ ∀ d', af ≠ .ret d')) ∧ SubS [(x₀, .res R')] ρ') {A : Around} {V : Addr → Prop} {s : Shared} {fp : List Addr} (hA : Room c (n + 1) A) (hS : St c V s) (hfV : ∀ a ∈ fp, ¬ V a) (hfn : fp.Nodup) (hfb : ∀ a ∈ fp, c.base.get? a = none) (hP : R.P fp s.heap) (r : RepL c (fun a => V a ∨ a ∈ fp) s ds vs) :
    wpAny c.M A (call (.ref a) args.pos args.kw) (fun v s' => ∃ fp', StpF [] fp s fp' s' ∧ R'.P fp' s'.heap ∧ fp'.Nodup ∧ Rep c V s' d v) (fun _ _ => False) s := by
  refine fn_enterB hd hl hA hS hfV hfn hfb hP r fun env X s₁ hf hnl' g F hO hXc hfX => ?_
  refine wpAny_mono (h.run (A.deeper env) env V _ env.cells X s₁ (hA.deeper env) ⟨hO, fun q => absurd q hnl⟩ F) (fun f s' q _ => ?_) fun _ _ q => q.elim
  obtain ⟨X', ρ', af, t, F', hfl, hp, hs⟩ := q
  obtain ⟨fp', ht, hP', hn'⟩ := Fm.left g hXc hfX (R.live _ _ hP) (fun b o hb e => F'.keep b o (hideAll_get _ e hb)) t F' hs
  refine ⟨fp', ht, hP', hn', ?_⟩
  cases hfl with
  | ret r' =>
    rcases hp with hp | ⟨_, hp⟩
    · cases hp; exact r'.weak fun _ q => .inl q
    · exact absurd rfl (hp _)
  | next => rcases hp with hp | ⟨rfl, _⟩
            · cases hp
            · exact .none
  | brk => rcases hp with hp | ⟨rfl, _⟩
           · cases hp
           · exact .none
  | cont => rcases hp with hp | ⟨rfl, _⟩
            · cases hp
            · exact .none

theorem FnP.def {a : Addr} {x₀ : String} {ps : List String} {body : List Stmt} {ds : List D} {d : D} {R R' : Res} (hd : IsDef c a sc (x₀ :: ps) body) (hl : ps.length = ds.length)
    (h : Tr c n sc ((x₀, .res R) :: stoOf ps ds) body fun af ρ' => (af = .ret d ∨ (d = .none ∧ ∀ d', af ≠ .ret d')) ∧ SubS [(x₀, .res R')] ρ') : FnP c (n + 1) (.ref a) R ds R' d := .mk fun A V s vs fp hA hS hfV hfn hfb hP r =>
  FnP.runB (args := ⟨R.v :: vs, []⟩) (hd.toIsDefL.toB (by simp [← r.length, hl])) hd.nl hl h hA hS hfV hfn hfb hP r

/-- the callee that getMethod or a name gives for a procedure on the resource in x -/
theorem Sx.methP {x : String} {R R' : Res} {name : Str} {f : Addr} {es : List Expr} {ds : List D} {d : D} {xp ap pos epos : Pos} (hx : ρ.lookup x = some (.res R)) (hv : R'.v = R.v) (hfc : Callee c (.ref f))
    (hm : ∀ (A : Around) (s : Shared) (fp : List Addr) (pl : Sem Bool) (E : Value → Shared → Prop) (Q : Value × List Value → Shared → Prop), Keeps c.base s.heap → R.P fp s.heap → Q (.ref f, [R.v]) s → wpAny c.M A (getMethod R.v name pl) Q E s)
    (ha : EvL c n sc true ρ es ds) (h : FnP c n (.ref f) R ds R' d) (hd : d.flat = true)
    (hp : es.all plainE = true := by rfl) (hlen : decide (es.length < 30) = true := by rfl) (hline : (ap.endLine == pos.line) = true := by rfl) (hxd : x ≠ "__debug__" := by decide)
    (hbase : ∀ env : Env, attributeBase (.Name (Str.ofString x) xp) name env (eval (.Name (Str.ofString x) xp) env) = eval (.Name (Str.ofString x) xp) env := by intro _; rfl)
    (hsw : ∀ env : Env, swapsWith (.Call (.Attribute (.Name (Str.ofString x) xp) name ap) es [] pos) none epos.line env = pure false := by intro _; rfl) :
    Sn c n sc ρ (.Expr (.Call (.Attribute (.Name (Str.ofString x) xp) name ap) es [] pos) epos) (setS ρ x (.res R')) := .mk fun A env V0 h0 Cs X s hA hO F => by
  obtain ⟨fp, fps', O⟩ := F.opR hx
  have hi : interactive env = false := by
    unfold interactive
    rw [F.scope, F.kind]; rfl
  refine wpAny_Expr_any (Call_meth (hbase env) hp hlen hline (O.load F hxd fun pl => hm A s fp pl _ _ (F.base.trans F.keep) O.p ?_)) hi (hsw env)
  refine hfc.wp hp (wpAny_mono (ha.run A env V0 h0 Cs X s pos hA F) (fun vs s₂ q₂ => ⟨(F.gr q₂.1).base.trans (F.gr q₂.1).keep, ?_⟩) fun _ _ q => q.elim)
  obtain ⟨g₂, r₂⟩ := q₂
  have O₂ := O.gr g₂
  have F₂ := F.gr g₂
  have hfx := O.fpX
  have hvk : VK true V0 X = Vol V0 X := by funext a; simp [VK]
  -- the call sees V0 and all places of the frame but the resource's
  refine wpAny_mono (h.run A (fun a => Vol V0 X a ∧ a ∉ fp) s₂ vs fp hA ((F₂.st true).weak fun a q => ⟨rfl, q.1⟩) (fun a ha q => q.2 ha) O.fpN (fun a ha => ?_) O₂.p (r₂.weak fun a q => ?_)) (fun v s₃ q => ?_) fun _ _ q => q.elim
  · cases e : c.base.get? a with
    | none => rfl
    | some o => have := F.base a o e; rw [F.new a (hfx a ha)] at this; cases this
  · rcases q with q | q
    · exact ⟨rfl, q.1⟩
    · exact ⟨rfl, .inr (hfx a q)⟩
  · obtain ⟨fp', t, hP', hn', _⟩ := q
    obtain ⟨X', t', F'⟩ := O₂.close F₂ hv t (fun b hb => nomatch hb) hP' hn'
    exact ⟨X', _, .next, (Stp.of_gr g₂).trans t', F', .next, rfl, rfl⟩

/-- a field of the resource in x -/
theorem Ev.resFld {k : Bool} {x : String} {R : Res} {name : Str} {xp pos : Pos} {d : D} (hx : ρ.lookup x = some (.res R))
    (hg : ∀ (A : Around) (s : Shared) (fp : List Addr), Keeps c.base s.heap → R.P fp s.heap → wpAny c.M A (getAttr R.v name true) (fun v s' => Gr s s' ∧ ∀ V, Rep c V s' d v) (fun _ _ => False) s) (hxd : x ≠ "__debug__" := by decide) :
    Ev c n sc k ρ (.Attribute (.Name (Str.ofString x) xp) name pos) d := .mk fun A env V0 h0 Cs X s hA F => by
  obtain ⟨fp, fps', O⟩ := F.opR hx
  exact Attribute_name (O.load F hxd (wpAny_mono (hg A s fp (F.base.trans F.keep) O.p) (fun v s' q => ⟨q.1, q.2 _⟩) fun _ _ q => q))
end
end Mine
namespace Mine

/-- where the writer's parts lie -/
structure WA where
  wa : Addr
  da : Addr
  la : Addr
  na : Addr
  ta : Addr
  pa : Addr
  ba : Addr
  xa : Addr
/-- what the writer has come to -/
structure WS where
  wished : Bool
  depth : Nat
  data : List (List Nat)
  pcs : List (List Nat)

noncomputable def wMethods : List String := ["start_ns", "start", "end", "data", "comment", "pi", "_flush"]
structure WF (W : WA) (σ : WS) (m : Str → Option Value) : Prop where
  write : m (Str.ofString "_write") = some (.ref W.ba)
  data : m (Str.ofString "_data") = some (.ref W.la)
  com : m (Str.ofString "_with_comments") = some (.bool σ.wished)
  strip : m (Str.ofString "_strip_text") = some (.bool false)
  tags : m (Str.ofString "_exclude_tags") = some (.ref W.xa)
  stack : m (Str.ofString "_ns_stack") = some (.ref W.na)
  pend : m (Str.ofString "_pending_start") = some .none
  seen : m (Str.ofString "_root_seen") = some (.bool false)
  done : m (Str.ofString "_root_done") = some (.bool false)
  depth : ∃ t, m (Str.ofString "_ignored_depth") = some (.int σ.depth t)
  meths : ∀ x ∈ wMethods, m (Str.ofString x) = none

noncomputable abbrev listObj (vs : Array Value) (n : Nat) : Obj := { cls := .type "list", data := .seq vs n }

structure WP (prog : Program) (w : World) (C : Addr) (W : WA) (k : Nat) (σ : WS) (h : Heap) : Prop where
  inst : ∃ m, Inst h W.wa C W.da m k ∧ WF W σ m
  ba : h.get? W.ba = some (boundObj "list.append" W.pa)
  pa : ∃ vs n, h.get? W.pa = some (listObj vs n) ∧ StrsAre vs.toList (σ.pcs.map S)
  la : ∃ vs n, h.get? W.la = some (listObj vs n) ∧ StrsAre vs.toList (σ.data.map S)
  na : ∃ v n, h.get? W.na = some (listObj #[v, .ref W.ta] n)
  ta : ∃ vs n, h.get? W.ta = some (listObj vs n) ∧ vs.size ≤ k
  xa : h.SetOf (strKind prog w) W.xa (fun y => y == Str.ofString "x") 1

noncomputable abbrev WA.fp (W : WA) : List Addr := [W.wa, W.da, W.la, W.na, W.ta, W.pa, W.ba, W.xa]

theorem WP.keep {prog : Program} {w : World} {C : Addr} {W : WA} {k : Nat} {σ : WS} {h h' : Heap} (x : WP prog w C W k σ h) (hk : ∀ a ∈ W.fp, ∀ o, h.get? a = some o → h'.get? a = some o) : WP prog w C W k σ h' := by
  obtain ⟨⟨m, ⟨i1, i2⟩, wf⟩, hb, ⟨pv, pn, hp, ps⟩, ⟨lv, ln, hl, ls⟩, ⟨nv, nn, hn⟩, ⟨tv, tn, ht, tz⟩, ⟨o, es, ep, t, ho, r⟩⟩ := x
  have k1 := hk W.wa (by simp [WA.fp])
  have k2 := hk W.da (by simp [WA.fp])
  have k3 := hk W.la (by simp [WA.fp])
  have k4 := hk W.na (by simp [WA.fp])
  have k5 := hk W.ta (by simp [WA.fp])
  have k6 := hk W.pa (by simp [WA.fp])
  have k7 := hk W.ba (by simp [WA.fp])
  have k8 := hk W.xa (by simp [WA.fp])
  exact ⟨⟨m, ⟨k1 _ i1, i2.keeps k2⟩, wf⟩, k7 _ hb, ⟨pv, pn, k6 _ hp, ps⟩, ⟨lv, ln, k3 _ hl, ls⟩, ⟨nv, nn, k4 _ hn⟩, ⟨tv, tn, k5 _ ht, tz⟩, ⟨o, es, ep, t, k8 _ ho, r⟩⟩
theorem WP.live {prog : Program} {w : World} {C : Addr} {W : WA} {k : Nat} {σ : WS} {h : Heap} (x : WP prog w C W k σ h) : ∀ a ∈ W.fp, ∃ o, h.get? a = some o ∧ ∀ v, o.data ≠ .cell v := by
  obtain ⟨⟨m, ⟨i1, ⟨es, ep, i2, _⟩⟩, wf⟩, hb, ⟨pv, pn, hp, ps⟩, ⟨lv, ln, hl, ls⟩, ⟨nv, nn, hn⟩, ⟨tv, tn, ht, tz⟩, ⟨o, es', ep', t, ho, hx, hd, r⟩⟩ := x
  intro a ha
  simp only [WA.fp, List.mem_cons, List.not_mem_nil, or_false] at ha
  rcases ha with rfl | rfl | rfl | rfl | rfl | rfl | rfl | rfl
  · exact ⟨_, i1, fun v q => nomatch q⟩
  · exact ⟨_, i2, fun v q => nomatch q⟩
  · exact ⟨_, hl, fun v q => nomatch q⟩
  · exact ⟨_, hn, fun v q => nomatch q⟩
  · exact ⟨_, ht, fun v q => nomatch q⟩
  · exact ⟨_, hp, fun v q => nomatch q⟩
  · exact ⟨_, hb, fun v q => nomatch q⟩
  · exact ⟨_, ho, fun v q => by rw [hd] at q; cases q⟩

noncomputable def WR (c : Cx) (C : Addr) (W : WA) (k : Nat) (σ : WS) : Res where
  v := .ref W.wa
  P fp h := fp = W.fp ∧ WP c.prog c.w C W k σ h
  live fp h x a ha := by obtain ⟨rfl, x⟩ := x; obtain ⟨o, e, _⟩ := x.live a ha; exact ⟨o, e⟩
  nocell fp h x a ha o v e := by obtain ⟨rfl, x⟩ := x; obtain ⟨o', e', hn⟩ := x.live a ha; rw [e] at e'; cases e'; exact hn v
  keep fp h h' x hk := by obtain ⟨rfl, x⟩ := x; exact ⟨rfl, x.keep hk⟩

theorem StrsAre.snoc {v : Value} {x : PySem.Str} {t : Tok} (hv : v = .str x t) : ∀ {vs : List Value} {xs : List PySem.Str}, StrsAre vs xs → StrsAre (vs ++ [v]) (xs ++ [x])
  | _, _, .nil => by subst hv; exact .cons _ _ .nil
  | _, _, .cons y u r => .cons y u (StrsAre.snoc hv r)
theorem StrsAre.len : ∀ {vs : List Value} {xs : List PySem.Str}, StrsAre vs xs → vs.length = xs.length
  | _, _, .nil => rfl
  | _, _, .cons _ _ r => by simp [StrsAre.len r]

theorem StpF.one {fr fp : List Addr} {a : Addr} {s : Shared} {h' : Heap} {tk : Nat} (ha : a ∈ fp) (hs : Heap.SameBut a s.heap h') (hl : ∃ o, h'.get? a = some o) (ht : s.toks ≤ tk) : StpF fr fp s fp { s with heap := h', toks := tk } :=
  .of ⟨fun b o hb e => (hs.2 b fun q => hb (q ▸ ha)).trans e, ht, rfl, rfl, fun b hb => .inl hb, fun b hb o e => by
    by_cases q : b = a
    · exact q ▸ hl
    · exact ⟨o, (hs.2 b q).trans e⟩⟩

/-- what is known of the class -/
structure WC (c : Cx) (K : Frag) (C : Addr) : Prop where
  X : K.In c.base
  ok : ClsOk K C
  flds : ∀ x ∈ ["_write", "_data", "_with_comments", "_strip_text", "_exclude_tags", "_ns_stack", "_pending_start", "_root_seen", "_root_done", "_ignored_depth"], findIn K (.ref C) (Str.ofString x) = some none

section
variable {c : Cx} {n : Nat} {sc : Scope} {ρ : Sto} {K : Frag} {C : Addr} {W : WA} {k : Nat} {σ : WS} {x : String}

theorem WC.takes (Y : WC c K C) {y : String} (h : findIn K (.ref C) (Str.ofString y) = some none) : takerIn K C (Str.ofString y) = some none := by
  unfold takerIn; rw [h]; rfl

/-- a field whose value is flat -/
theorem WR.get (Y : WC c K C) {y : String} {d : D} (hy : y ∈ ["_write", "_data", "_with_comments", "_strip_text", "_exclude_tags", "_ns_stack", "_pending_start", "_root_seen", "_root_done", "_ignored_depth"])
    (h : ∀ m, WF W σ m → ∃ v, m (Str.ofString y) = some v ∧ handedIn v = true ∧ ∀ V s, Rep c V s d v) (A : Around) (s : Shared) (fp : List Addr) (hb : Keeps c.base s.heap) (hP : (WR c C W k σ).P fp s.heap) :
    wpAny c.M A (getAttr (WR c C W k σ).v (Str.ofString y) true) (fun v s' => Gr s s' ∧ ∀ V, Rep c V s' d v) (fun _ _ => False) s := by
  obtain ⟨rfl, hP⟩ := hP
  obtain ⟨m, I, wf⟩ := hP.inst
  obtain ⟨v, hv, hh, hr⟩ := h m wf
  exact get_field (Y.X.keeps hb) Y.ok I (Y.flds y hy) hv hh ⟨Gr.toks (Nat.le_succ _), fun V => hr V _⟩

theorem Ev.wDepth {kk : Bool} {xp pos : Pos} (Y : WC c K C) (hx : ρ.lookup x = some (.res (WR c C W k σ))) (hxd : x ≠ "__debug__" := by decide) : Ev c n sc kk ρ (.Attribute (.Name (Str.ofString x) xp) (Str.ofString "_ignored_depth") pos) (.int σ.depth) :=
  .resFld hx (WR.get Y (by decide) fun m wf => let ⟨t, h⟩ := wf.depth; ⟨_, h, rfl, fun _ _ => .int _ _⟩) hxd
theorem Ev.wCom {kk : Bool} {xp pos : Pos} (Y : WC c K C) (hx : ρ.lookup x = some (.res (WR c C W k σ))) (hxd : x ≠ "__debug__" := by decide) : Ev c n sc kk ρ (.Attribute (.Name (Str.ofString x) xp) (Str.ofString "_with_comments") pos) (.bool σ.wished) :=
  .resFld hx (WR.get Y (by decide) fun m wf => ⟨_, wf.com, rfl, fun _ _ => .bool _⟩) hxd
theorem Ev.wStrip {kk : Bool} {xp pos : Pos} (Y : WC c K C) (hx : ρ.lookup x = some (.res (WR c C W k σ))) (hxd : x ≠ "__debug__" := by decide) : Ev c n sc kk ρ (.Attribute (.Name (Str.ofString x) xp) (Str.ofString "_strip_text") pos) (.bool false) :=
  .resFld hx (WR.get Y (by decide) fun m wf => ⟨_, wf.strip, rfl, fun _ _ => .bool _⟩) hxd
theorem Ev.wSeen {kk : Bool} {xp pos : Pos} (Y : WC c K C) (hx : ρ.lookup x = some (.res (WR c C W k σ))) (hxd : x ≠ "__debug__" := by decide) : Ev c n sc kk ρ (.Attribute (.Name (Str.ofString x) xp) (Str.ofString "_root_seen") pos) (.bool false) :=
  .resFld hx (WR.get Y (by decide) fun m wf => ⟨_, wf.seen, rfl, fun _ _ => .bool _⟩) hxd
theorem Ev.wDone {kk : Bool} {xp pos : Pos} (Y : WC c K C) (hx : ρ.lookup x = some (.res (WR c C W k σ))) (hxd : x ≠ "__debug__" := by decide) : Ev c n sc kk ρ (.Attribute (.Name (Str.ofString x) xp) (Str.ofString "_root_done") pos) (.bool false) :=
  .resFld hx (WR.get Y (by decide) fun m wf => ⟨_, wf.done, rfl, fun _ _ => .bool _⟩) hxd
theorem Ev.wPend {kk : Bool} {xp pos : Pos} (Y : WC c K C) (hx : ρ.lookup x = some (.res (WR c C W k σ))) (hxd : x ≠ "__debug__" := by decide) : Ev c n sc kk ρ (.Attribute (.Name (Str.ofString x) xp) (Str.ofString "_pending_start") pos) .none :=
  .resFld hx (WR.get Y (by decide) fun m wf => ⟨_, wf.pend, rfl, fun _ _ => .none⟩) hxd
theorem Ev.wTags {kk : Bool} {xp pos : Pos} (Y : WC c K C) (hx : ρ.lookup x = some (.res (WR c C W k σ))) (hxd : x ≠ "__debug__" := by decide) : Ev c n sc kk ρ (.Attribute (.Name (Str.ofString x) xp) (Str.ofString "_exclude_tags") pos) (.val (.ref W.xa)) :=
  .resFld hx (WR.get Y (by decide) fun m wf => ⟨_, wf.tags, rfl, fun _ _ => .val _⟩) hxd

/-- self._write(e) -/
theorem Sx.wWrite {e : Expr} {y : List Nat} {xp ap pos epos : Pos} (Y : WC c K C) (hx : ρ.lookup x = some (.res (WR c C W k σ))) (h : Ev c n sc true ρ e (sd y)) (hz : σ.pcs.length ≤ 16777216)
    (hp : plainE e = true := by rfl) (hline : (ap.endLine == pos.line) = true := by rfl) (hxd : x ≠ "__debug__" := by decide)
    (hbase : ∀ env : Env, attributeBase (.Name (Str.ofString x) xp) (Str.ofString "_write") env (eval (.Name (Str.ofString x) xp) env) = eval (.Name (Str.ofString x) xp) env := by intro _; rfl)
    (hsw : ∀ env : Env, swapsWith (.Call (.Attribute (.Name (Str.ofString x) xp) (Str.ofString "_write") ap) [e] [] pos) none epos.line env = pure false := by intro _; rfl) :
    Sn c n sc ρ (.Expr (.Call (.Attribute (.Name (Str.ofString x) xp) (Str.ofString "_write") ap) [e] [] pos) epos) (setS ρ x (.res (WR c C W k { σ with pcs := σ.pcs ++ [y] }))) := .mk fun A env V0 h0 Cs X s hA hO F => by
  obtain ⟨fp, fps', O⟩ := F.opR hx
  have hi : interactive env = false := by
    unfold interactive
    rw [F.scope, F.kind]; rfl
  refine wpAny_Expr_any (Call_meth (hbase env) (by simp [hp]) rfl hline (O.load F hxd fun pl => ?_)) hi (hsw env)
  have hP := O.p
  obtain ⟨rfl, hP⟩ := hP
  obtain ⟨m, I, wf⟩ := hP.inst
  refine get_methField (Y.X.keeps (F.base.trans F.keep)) Y.ok I (Y.flds "_write" (by decide)) wf.write rfl ?_
  have g₁ : Gr s { s with toks := s.toks + 1 } := Gr.toks (Nat.le_succ _)
  refine callWith_bound (id := "list.append") (pa := W.pa) (noStar_all (by simp [hp])) (evalArgs_of (by simp [hp]) (wpAny_mono ((EvL.cons h .nil hp).run A env V0 h0 Cs X _ pos hA (F.gr g₁)) (fun vs s₂ q₂ => ?_) fun _ _ q => q.elim))
  obtain ⟨g₂, r₂⟩ := q₂
  cases r₂ with
  | cons rv rn => cases rn; cases rv with
    | str _ tk =>
      have g := g₁.trans g₂
      have O₂ := O.gr g
      have F₂ := F.gr g
      obtain ⟨_, hP₂⟩ := O₂.p
      obtain ⟨pv, pn, hpa, ps⟩ := hP₂.pa
      refine ⟨hP₂.ba, bound_append hP₂.ba hpa (fun h' n' hn' hs' => ?_) (by have := StrsAre.len ps; simp at this; omega)⟩
      have hnd := O.fpN
      have off : ∀ a, a ≠ W.pa → ∀ o, s₂.heap.get? a = some o → h'.get? a = some o := fun a ha o e => (hs'.2 a ha).trans e
      have hP' : WP c.prog c.w C W k { σ with pcs := σ.pcs ++ [y] } h' := by
        simp only [WA.fp, List.nodup_cons, List.mem_cons, List.not_mem_nil, or_false, not_or, not_false_eq_true, List.nodup_nil, and_true] at hnd
        obtain ⟨n1, n2, n3, n4, n5, n6, n7⟩ := hnd
        obtain ⟨⟨m, ⟨i1, i2⟩, wf⟩, hb, _, ⟨lv, ln, hl, ls⟩, ⟨nv, nn, hn⟩, ⟨tv, tn, ht, tz⟩, ⟨o, es, ep, t, ho, r⟩⟩ := hP₂
        refine ⟨⟨m, ⟨off _ n1.2.2.2.2.1 _ i1, i2.keeps (off _ n2.2.2.2.1)⟩, ⟨wf.write, wf.data, wf.com, wf.strip, wf.tags, wf.stack, wf.pend, wf.seen, wf.done, wf.depth, wf.meths⟩⟩, off _ (fun q => n6.1 q.symm) _ hb, ⟨_, n', hn', ?_⟩, ⟨lv, ln, off _ n3.2.2.1 _ hl, ls⟩, ⟨nv, nn, off _ n4.2.1 _ hn⟩, ⟨tv, tn, off _ n5.1 _ ht, tz⟩, ⟨o, es, ep, t, off _ (fun q => n6.2 q.symm) _ ho, r⟩⟩
        rw [Array.toList_push, List.map_append]
        exact StrsAre.snoc rfl ps
      obtain ⟨X', t', F'⟩ := O₂.close (s' := { s₂ with heap := h' }) F₂ (R' := WR c C W k { σ with pcs := σ.pcs ++ [y] }) rfl (StpF.one (fr := []) (by simp [WA.fp]) hs' ⟨_, hn'⟩ (Nat.le_refl _)) (fun b hb => nomatch hb) ⟨rfl, hP'⟩ hnd
      exact ⟨X', _, .next, (Stp.of_gr g).trans t', F', .next, rfl, rfl⟩
end
end Mine
namespace Mine
section
variable {c : Cx} {n : Nat} {sc : Scope} {ρ : Sto} {K : Frag} {C : Addr} {W : WA} {k : Nat} {σ σ' : WS} {x : String} {h h' : Heap} {prog : Program} {w : World}

theorem WF.same {m : Str → Option Value} (f : WF W σ m) (h1 : σ'.wished = σ.wished) (h2 : σ'.depth = σ.depth) : WF W σ' m :=
  ⟨f.write, f.data, by rw [h1]; exact f.com, f.strip, f.tags, f.stack, f.pend, f.seen, f.done, by rw [h2]; exact f.depth, f.meths⟩
theorem fp_ne (hnd : W.fp.Nodup) : (W.wa ≠ W.da ∧ W.wa ≠ W.la ∧ W.wa ≠ W.na ∧ W.wa ≠ W.ta ∧ W.wa ≠ W.pa ∧ W.wa ≠ W.ba ∧ W.wa ≠ W.xa) ∧ (W.da ≠ W.la ∧ W.da ≠ W.na ∧ W.da ≠ W.ta ∧ W.da ≠ W.pa ∧ W.da ≠ W.ba ∧ W.da ≠ W.xa) ∧
    (W.la ≠ W.na ∧ W.la ≠ W.ta ∧ W.la ≠ W.pa ∧ W.la ≠ W.ba ∧ W.la ≠ W.xa) ∧ (W.na ≠ W.ta ∧ W.na ≠ W.pa ∧ W.na ≠ W.ba ∧ W.na ≠ W.xa) ∧ (W.ta ≠ W.pa ∧ W.ta ≠ W.ba ∧ W.ta ≠ W.xa) ∧ (W.pa ≠ W.ba ∧ W.pa ≠ W.xa) ∧ W.ba ≠ W.xa := by
  simp only [WA.fp, List.nodup_cons, List.mem_cons, List.not_mem_nil, or_false, not_or, not_false_eq_true, List.nodup_nil, and_true] at hnd
  exact hnd

theorem WP.setDict {m' : Str → Option Value} (p : WP prog w C W k σ h) (hnd : W.fp.Nodup) (hs : Heap.SameBut W.da h h') (hn : NsK h' W.da m' (k + 1)) (wf : WF W σ' m') (h1 : σ'.pcs = σ.pcs) (h2 : σ'.data = σ.data) : WP prog w C W (k + 1) σ' h' := by
  obtain ⟨⟨m, ⟨i1, i2⟩, _⟩, hb, hp, hl, ⟨nv, nn, hna⟩, ⟨tv, tn, ht, tz⟩, ⟨o, es, ep, t, ho, r⟩⟩ := p
  obtain ⟨n1, n2, n3, n4, n5, n6, n7⟩ := fp_ne hnd
  refine ⟨⟨m', ⟨(hs.2 _ n1.1).trans i1, hn⟩, wf⟩, (hs.2 _ n2.2.2.2.2.1.symm).trans hb, ?_, ?_, ⟨nv, nn, (hs.2 _ n2.2.1.symm).trans hna⟩, ⟨tv, tn, (hs.2 _ n2.2.2.1.symm).trans ht, Nat.le_succ_of_le tz⟩, ⟨o, es, ep, t, (hs.2 _ n2.2.2.2.2.2.symm).trans ho, r⟩⟩
  · obtain ⟨vs, nn, e, q⟩ := hp; exact ⟨vs, nn, (hs.2 _ n2.2.2.2.1.symm).trans e, h1 ▸ q⟩
  · obtain ⟨vs, nn, e, q⟩ := hl; exact ⟨vs, nn, (hs.2 _ n2.1.symm).trans e, h2 ▸ q⟩
theorem WP.setLa {vs : Array Value} {nn : Nat} (p : WP prog w C W k σ h) (hnd : W.fp.Nodup) (hs : Heap.SameBut W.la h h') (hn : h'.get? W.la = some (listObj vs nn)) (hv : StrsAre vs.toList (σ'.data.map S)) (h1 : σ'.pcs = σ.pcs) (h2 : σ'.wished = σ.wished) (h3 : σ'.depth = σ.depth) : WP prog w C W k σ' h' := by
  obtain ⟨⟨m, ⟨i1, i2⟩, wf⟩, hb, hp, hl, ⟨nv, nn', hna⟩, ⟨tv, tn, ht, tz⟩, ⟨o, es, ep, t, ho, r⟩⟩ := p
  obtain ⟨n1, n2, n3, n4, n5, n6, n7⟩ := fp_ne hnd
  refine ⟨⟨m, ⟨(hs.2 _ n1.2.1).trans i1, i2.keeps fun o e => (hs.2 _ n2.1).trans e⟩, wf.same h2 h3⟩, (hs.2 _ n3.2.2.2.1.symm).trans hb, ?_, ⟨vs, nn, hn, hv⟩, ⟨nv, nn', (hs.2 _ n3.1.symm).trans hna⟩, ⟨tv, tn, (hs.2 _ n3.2.1.symm).trans ht, tz⟩, ⟨o, es, ep, t, (hs.2 _ n3.2.2.2.2.symm).trans ho, r⟩⟩
  obtain ⟨vs, nn, e, q⟩ := hp; exact ⟨vs, nn, (hs.2 _ n3.2.2.1.symm).trans e, h1 ▸ q⟩
theorem WP.setTa {vs : Array Value} {nn : Nat} (p : WP prog w C W k σ h) (hnd : W.fp.Nodup) (hs : Heap.SameBut W.ta h h') (hn : h'.get? W.ta = some (listObj vs nn)) (hz : vs.size ≤ k + 1) : WP prog w C W (k + 1) σ h' := by
  obtain ⟨⟨m, ⟨i1, ⟨des, dep, i2, i3, i4, i5⟩⟩, wf⟩, hb, hp, hl, ⟨nv, nn', hna⟩, ⟨tv, tn, ht, tz⟩, ⟨o, es, ep, t, ho, r⟩⟩ := p
  obtain ⟨n1, n2, n3, n4, n5, n6, n7⟩ := fp_ne hnd
  refine ⟨⟨m, ⟨(hs.2 _ n1.2.2.2.1).trans i1, ⟨des, dep, (hs.2 _ n2.2.2.1).trans i2, i3, i4, Nat.le_succ_of_le i5⟩⟩, wf⟩, (hs.2 _ n5.2.1.symm).trans hb, ?_, ?_, ⟨nv, nn', (hs.2 _ n4.1).trans hna⟩, ⟨vs, nn, hn, hz⟩, ⟨o, es, ep, t, (hs.2 _ n5.2.2.symm).trans ho, r⟩⟩
  · obtain ⟨vs, nn, e, q⟩ := hp; exact ⟨vs, nn, (hs.2 _ n5.1.symm).trans e, q⟩
  · obtain ⟨vs, nn, e, q⟩ := hl; exact ⟨vs, nn, (hs.2 _ n3.2.1).trans e, q⟩

theorem upd_ne {m : Str → Option Value} {a b : String} {v : Value} (h : b ≠ a) : upd m (Str.ofString a) v (Str.ofString b) = m (Str.ofString b) := if_neg fun q => h (ofString_inj q)
theorem WF.setDepth {m : Str → Option Value} {dp : Nat} {t : Tok} (f : WF W σ m) : WF W { σ with depth := dp } (upd m (Str.ofString "_ignored_depth") (.int dp t)) :=
  ⟨(upd_ne (by decide)).trans f.write, (upd_ne (by decide)).trans f.data, (upd_ne (by decide)).trans f.com, (upd_ne (by decide)).trans f.strip, (upd_ne (by decide)).trans f.tags, (upd_ne (by decide)).trans f.stack, (upd_ne (by decide)).trans f.pend,
   (upd_ne (by decide)).trans f.seen, (upd_ne (by decide)).trans f.done, ⟨t, if_pos rfl⟩, fun y hy => (upd_ne (by rintro rfl; revert hy; decide)).trans (f.meths y hy)⟩

/-- self._ignored_depth += e -/
theorem Sx.wAug {e : Expr} {op : Operator} {d₂ : D} {dp : Nat} {xp ap pos : Pos} (Y : WC c K C) (hx : ρ.lookup x = some (.res (WR c C W k σ))) (he : Ev c n sc true ρ e d₂) (hop : InpR c op (.int σ.depth) d₂ (.int dp)) (hk : k ≤ 100000) (hxd : x ≠ "__debug__" := by decide) :
    Sn c n sc ρ (.AugAssign (.Attribute (.Name (Str.ofString x) xp) (Str.ofString "_ignored_depth") ap) op e pos) (setS ρ x (.res (WR c C W (k + 1) { σ with depth := dp }))) := .mk fun A env V0 h0 Cs X s hA hO F => by
  obtain ⟨fp, fps', O⟩ := F.opR hx
  refine wpAny_AugAssign_AttributeAny (O.load F hxd ?_)
  refine wpAny_mono (WR.get Y (y := "_ignored_depth") (d := .int σ.depth) (by decide) (fun m wf => let ⟨t, h⟩ := wf.depth; ⟨_, h, rfl, fun _ _ => .int _ _⟩) A s fp (F.base.trans F.keep) O.p) (fun old s₁ q₁ => ?_) fun _ _ q => q.elim
  obtain ⟨g₁, r₁⟩ := q₁
  refine wpAny_mono (he.run A env V0 h0 Cs X s₁ hA (F.gr g₁)) (fun v s₂ q₂ => ?_) fun _ _ q => q.elim
  have g₂ := g₁.trans q₂.1
  refine wpAny_mono (hop A _ s₂ old v hA.zero ((F.st true).gr g₂) ((r₁ _).gr q₂.1) q₂.2) (fun new s₃ q₃ => ?_) fun _ _ q => q.elim
  obtain ⟨g₃', r₃⟩ := q₃
  have g₃ := g₂.trans g₃'
  have O₃ := O.gr g₃
  have F₃ := F.gr g₃
  have hnd := O.fpN
  obtain ⟨rfl, hP⟩ := O₃.p
  obtain ⟨m, I, wf⟩ := hP.inst
  cases r₃ with
  | int _ t =>
    refine wpAny_with_toks (Nat.le_refl _) (set_field (Y.X.keeps (F₃.base.trans F₃.keep)) Y.ok I (Y.takes (Y.flds "_ignored_depth" (by decide))) hk fun h' tk hn hs htk => ?_)
    have hP' := hP.setDict (σ' := { σ with depth := dp }) hnd hs hn wf.setDepth rfl rfl
    obtain ⟨es, ep, hda, _⟩ := hn
    obtain ⟨X', t', F'⟩ := O₃.close (s' := { s₃ with heap := h', toks := tk }) F₃ (R' := WR c C W (k + 1) { σ with depth := dp }) rfl (StpF.one (fr := []) (by simp [WA.fp]) hs ⟨_, hda⟩ htk) (fun b hb => nomatch hb) ⟨rfl, hP'⟩ hnd
    exact ⟨X', _, .next, (Stp.of_gr g₃).trans t', F', .next, rfl, rfl⟩

/-- self._data.append(e) -/
theorem Sx.wData {e : Expr} {y : List Nat} {xp fpos ap pos epos : Pos} (Y : WC c K C) (hx : ρ.lookup x = some (.res (WR c C W k σ))) (h : Ev c n sc true ρ e (sd y)) (hz : σ.data.length ≤ 16777216)
    (hp : plainE e = true := by rfl) (hline : (ap.endLine == pos.line) = true := by rfl) (hxd : x ≠ "__debug__" := by decide)
    (hbase : ∀ env : Env, attributeBase (.Attribute (.Name (Str.ofString x) xp) (Str.ofString "_data") fpos) (Str.ofString "append") env (eval (.Attribute (.Name (Str.ofString x) xp) (Str.ofString "_data") fpos) env) = eval (.Attribute (.Name (Str.ofString x) xp) (Str.ofString "_data") fpos) env := by intro _; rfl)
    (hsw : ∀ env : Env, swapsWith (.Call (.Attribute (.Attribute (.Name (Str.ofString x) xp) (Str.ofString "_data") fpos) (Str.ofString "append") ap) [e] [] pos) none epos.line env = pure false := by intro _; rfl) :
    Sn c n sc ρ (.Expr (.Call (.Attribute (.Attribute (.Name (Str.ofString x) xp) (Str.ofString "_data") fpos) (Str.ofString "append") ap) [e] [] pos) epos) (setS ρ x (.res (WR c C W k { σ with data := σ.data ++ [y] }))) := .mk fun A env V0 h0 Cs X s hA hO F => by
  obtain ⟨fp, fps', O⟩ := F.opR hx
  have hi : interactive env = false := by
    unfold interactive
    rw [F.scope, F.kind]; rfl
  refine wpAny_Expr_any ?_ hi (hsw env)
  refine wpAny_Call_method (T := "list") (id := "list.append") (hbase env) ?_ hline PySem.F.plainAttrs_list PySem.F.slot_list_append PySem.F.type_list_append ?_
  · rw [starEach_cons hp]; rfl
  refine Attribute_name (O.load F hxd (wpAny_mono (WR.get Y (y := "_data") (d := .val (.ref W.la)) (by decide) (fun m wf => ⟨_, wf.data, rfl, fun _ _ => .val _⟩) A s fp (F.base.trans F.keep) O.p) (fun lv s₁ q₁ => ?_) fun _ _ q => q.elim))
  obtain ⟨g₁, r₁⟩ := q₁
  cases r₁ Vol0
  obtain ⟨_, hP₁⟩ := (O.gr g₁).p
  obtain ⟨vs, nn, hla, hss⟩ := hP₁.la
  refine ⟨⟨_, hla, rfl⟩, fun b hb => by cases hb; exact ⟨_, hla, rfl⟩, (Callee.builtin (c := c) "list.append").wp (first := [.ref W.la]) (by simp [hp]) ?_⟩
  refine wpAny_mono ((EvL.cons h .nil hp).run A env V0 h0 Cs X s₁ pos hA (F.gr g₁)) (fun vs' s₂ q₂ => ?_) fun _ _ q => q.elim
  obtain ⟨g₂', r₂⟩ := q₂
  have g := g₁.trans g₂'
  have O₂ := O.gr g
  have F₂ := F.gr g
  have hnd := O.fpN
  refine ⟨F₂.base.trans F₂.keep, ?_⟩
  cases r₂ with
  | cons rv rn => cases rn; cases rv with
    | str _ tk =>
      obtain ⟨rfl, hP⟩ := O₂.p
      obtain ⟨lv, ln, hl, hs⟩ := hP.la
      refine append_wp hl rfl ⟨rfl, rfl⟩ rfl (fun h' o' n' ho' hc' hd' hdt' hs' => ?_) (by have := StrsAre.len hs; simp at this; omega)
      have ho'' : h'.get? W.la = some (listObj (lv.push (.str (S y) tk)) n') := by rw [ho']; exact congrArg some (obj_eq hc' hd' hdt')
      have hP' := hP.setLa (σ' := { σ with data := σ.data ++ [y] }) hnd hs' ho'' (by rw [Array.toList_push, List.map_append]; exact StrsAre.snoc rfl hs) rfl rfl rfl
      obtain ⟨X', t', F'⟩ := O₂.close (s' := { s₂ with heap := h' }) F₂ (R' := WR c C W k { σ with data := σ.data ++ [y] }) rfl (StpF.one (fr := []) (by simp [WA.fp]) hs' ⟨_, ho''⟩ (Nat.le_refl _)) (fun b hb => nomatch hb) ⟨rfl, hP'⟩ hnd
      exact ⟨X', _, .next, (Stp.of_gr g).trans t', F', .next, rfl, rfl⟩

/-- self._ns_stack[-1].append(e) -/
theorem Sx.wStack {e : Expr} {d : D} {xp fpos np cp sp ap pos epos : Pos} {kc : Nat} (Y : WC c K C) (hx : ρ.lookup x = some (.res (WR c C W k σ))) (h : Ev c n sc true ρ e d) (hk : k ≤ 100000)
    (hp : plainE e = true := by rfl) (hline : (ap.endLine == pos.line) = true := by rfl) (hxd : x ≠ "__debug__" := by decide)
    (hbase : ∀ env : Env, attributeBase (.Subscript (.Attribute (.Name (Str.ofString x) xp) (Str.ofString "_ns_stack") fpos) (.UnaryOp .USub (.Constant (.int 1) kc cp) np) sp) (Str.ofString "append") env (eval (.Subscript (.Attribute (.Name (Str.ofString x) xp) (Str.ofString "_ns_stack") fpos) (.UnaryOp .USub (.Constant (.int 1) kc cp) np) sp) env) = eval (.Subscript (.Attribute (.Name (Str.ofString x) xp) (Str.ofString "_ns_stack") fpos) (.UnaryOp .USub (.Constant (.int 1) kc cp) np) sp) env := by intro _; rfl)
    (hsub : ∀ o i, subscripted (.UnaryOp .USub (.Constant (.int 1) kc cp) np) false o i = operate [o, i] (getItem o i) := by intro _ _; rfl)
    (hsw : ∀ env : Env, swapsWith (.Call (.Attribute (.Subscript (.Attribute (.Name (Str.ofString x) xp) (Str.ofString "_ns_stack") fpos) (.UnaryOp .USub (.Constant (.int 1) kc cp) np) sp) (Str.ofString "append") ap) [e] [] pos) none epos.line env = pure false := by intro _; rfl) :
    Sn c n sc ρ (.Expr (.Call (.Attribute (.Subscript (.Attribute (.Name (Str.ofString x) xp) (Str.ofString "_ns_stack") fpos) (.UnaryOp .USub (.Constant (.int 1) kc cp) np) sp) (Str.ofString "append") ap) [e] [] pos) epos) (setS ρ x (.res (WR c C W (k + 1) σ))) := .mk fun A env V0 h0 Cs X s hA hO F => by
  obtain ⟨fp, fps', O⟩ := F.opR hx
  have hi : interactive env = false := by
    unfold interactive
    rw [F.scope, F.kind]; rfl
  refine wpAny_Expr_any ?_ hi (hsw env)
  refine wpAny_Call_method (T := "list") (id := "list.append") (hbase env) ?_ hline PySem.F.plainAttrs_list PySem.F.slot_list_append PySem.F.type_list_append ?_
  · rw [starEach_cons hp]; rfl
  refine Subscript_ (Attribute_name (O.load F hxd (wpAny_mono (WR.get Y (y := "_ns_stack") (d := .val (.ref W.na)) (by decide) (fun m wf => ⟨_, wf.stack, rfl, fun _ _ => .val _⟩) A s fp (F.base.trans F.keep) O.p) (fun lv s₁ q₁ => ?_) fun _ _ q => q.elim)))
  obtain ⟨g₁, r₁⟩ := q₁
  cases r₁ Vol0
  refine wpAny_mono ((Ev.neg (k := true) (Ev.int (i := 1) (kk := kc) (pos := cp)) (pos := np)).run A env V0 h0 Cs X s₁ hA (F.gr g₁)) (fun iv s₂ q₂ => ?_) fun _ _ q => q.elim
  obtain ⟨g₂', r₂⟩ := q₂
  have g₂ := g₁.trans g₂'
  cases r₂
  obtain ⟨_, hP₂⟩ := (O.gr g₂).p
  obtain ⟨nv, nn, hna⟩ := hP₂.na
  obtain ⟨tv, tn, hta, _⟩ := hP₂.ta
  refine tail_any ⟨_, hna, rfl⟩ slot_list_getitem.lookup ?_ (hsub _ _)
  refine wpAny_getItem_list_neg ⟨_, hna, rfl, _, rfl⟩ (by decide) (by simp) (by decide) (x := .ref W.ta) (by simp) ?_
  refine ⟨⟨_, hta, rfl⟩, fun b hb => by cases hb; exact ⟨_, hta, rfl⟩, (Callee.builtin (c := c) "list.append").wp (first := [.ref W.ta]) (by simp [hp]) ?_⟩
  refine wpAny_mono ((EvL.cons h .nil hp).run A env V0 h0 Cs X s₂ pos hA (F.gr g₂)) (fun vs' s₃ q₃ => ?_) fun _ _ q => q.elim
  obtain ⟨g₃', r₃⟩ := q₃
  have g := g₂.trans g₃'
  have O₃ := O.gr g
  have F₃ := F.gr g
  have hnd := O.fpN
  refine ⟨F₃.base.trans F₃.keep, ?_⟩
  cases r₃ with
  | cons rv rn =>
    cases rn
    obtain ⟨rfl, hP⟩ := O₃.p
    obtain ⟨tv, tn, ht, tz⟩ := hP.ta
    refine append_wp ht rfl ⟨rfl, rfl⟩ rfl (fun h' o' n' ho' hc' hd' hdt' hs' => ?_) (by omega)
    have ho'' := ho'.trans (congrArg some (obj_eq hc' hd' hdt'))
    have hP' := hP.setTa hnd hs' ho'' (by simpa using tz)
    obtain ⟨X', t', F'⟩ := O₃.close (s' := { s₃ with heap := h' }) F₃ (R' := WR c C W (k + 1) σ) rfl (StpF.one (fr := []) (by simp [WA.fp]) hs' ⟨_, ho''⟩ (Nat.le_refl _)) (fun b hb => nomatch hb) ⟨rfl, hP'⟩ hnd
    exact ⟨X', _, .next, (Stp.of_gr g).trans t', F', .next, rfl, rfl⟩

/-- if self._data -/
theorem Tst.wData {xp pos : Pos} (Y : WC c K C) (hx : ρ.lookup x = some (.res (WR c C W k σ))) (hz : σ.data.length ≤ 16777216) (hxd : x ≠ "__debug__" := by decide)
    (hw : ∀ env : Env, isTrue (.Attribute (.Name (Str.ofString x) xp) (Str.ofString "_data") pos) env (eval (.Attribute (.Name (Str.ofString x) xp) (Str.ofString "_data") pos) env) = (do let v ← eval (.Attribute (.Name (Str.ofString x) xp) (Str.ofString "_data") pos) env; standAt pos; holding [v] (truthy v)) := by intro _; rfl) :
    Tst c n sc ρ (.Attribute (.Name (Str.ofString x) xp) (Str.ofString "_data") pos) (!σ.data.isEmpty) := .mk fun A env V0 h0 Cs X s hA F => by
  obtain ⟨fp, fps', O⟩ := F.opR hx
  rw [hw]
  refine wpAny_bind (Attribute_name (O.load F hxd (wpAny_mono (WR.get Y (y := "_data") (d := .val (.ref W.la)) (by decide) (fun m wf => ⟨_, wf.data, rfl, fun _ _ => .val _⟩) A s fp (F.base.trans F.keep) O.p) (fun lv s₁ q₁ => ?_) fun _ _ q => q.elim)))
  obtain ⟨g₁, r₁⟩ := q₁
  cases r₁ Vol0
  obtain ⟨_, hP₁⟩ := (O.gr g₁).p
  obtain ⟨vs, nn, hla, hss⟩ := hP₁.la
  have hlen := StrsAre.len hss
  simp at hlen
  refine wpAny_bind (wpAny_standAt (wpAny_holding (wp_gr g₁ (wp_end (wpAny_truthy_list ⟨_, hla, rfl, _, rfl⟩ (by omega) ⟨fun _ _ e => e, rfl, rfl, fun _ => ?_⟩)))))
  rw [Bool.eq_iff_iff]
  cases hd : σ.data with
  | nil => simp [hd] at hlen; simp [hlen]
  | cons _ _ =>
    simp [hd] at hlen
    simp
    rintro rfl
    simp at hlen

/-- y in self._exclude_tags -/
theorem Tst.wIn {e : Expr} {y : List Nat} {xp fpos pos : Pos} (Y : WC c K C) (hx : ρ.lookup x = some (.res (WR c C W k σ))) (h : Ev c n sc true ρ e (sd y)) (hxd : x ≠ "__debug__" := by decide)
    (hm : behindInMarks .In (.Attribute (.Name (Str.ofString x) xp) (Str.ofString "_exclude_tags") fpos) = false := by with_unfolding_all rfl) :
    Tst c n sc ρ (.Compare e [.In] [.Attribute (.Name (Str.ofString x) xp) (Str.ofString "_exclude_tags") fpos] pos) (decide (y = cs "x")) := .mk fun A env V0 h0 Cs X s hA F => by
  refine wpAny_isTrue_Compare1 (wpAny_mono (h.run A env V0 h0 Cs X s hA F) (fun u s₁ q₁ => ?_) fun _ _ q => q.elim) hm
  obtain ⟨fp, fps', O⟩ := (F.gr q₁.1).opR hx
  refine Attribute_name (O.load (F.gr q₁.1) hxd (wpAny_mono (WR.get Y (y := "_exclude_tags") (d := .val (.ref W.xa)) (by decide) (fun m wf => ⟨_, wf.tags, rfl, fun _ _ => .val _⟩) A s₁ fp ((F.gr q₁.1).base.trans (F.gr q₁.1).keep) O.p) (fun lv s₂ q₂ => ?_) fun _ _ q => q.elim))
  obtain ⟨g₂, r₂⟩ := q₂
  cases r₂ Vol0
  obtain ⟨_, hP₂⟩ := (O.gr g₂).p
  obtain ⟨g₁, r₁⟩ := q₁
  cases r₁ with
  | str _ tk =>
    refine wpAny_inSet_of (knd := strKind c.prog c.w) (k := S y) (strKind_is _ _ _ _) rfl hP₂.xa (wpAny_truthy_bool ⟨(g₁.trans g₂).trans (Gr.toks (Nat.le_succ _)), ?_⟩)
    rw [ofString_S, Bool.eq_iff_iff]
    simp only [beq_iff_eq, decide_eq_true_eq]
    exact ⟨S_inj, fun q => by rw [q]⟩
end
end Mine
namespace Mine
noncomputable abbrev p11 := PySem.Challenge.pw_dn0276_11
/-- the j-th statement of the i-th statement of the top, a def in a class -/
noncomputable def mthAt (p : Program) (i j : Nat) : Scope × List Stmt := match p.main.body[i]? with
  | some (.ClassDef _ _ _ cb _ _ _ _ _ _ _) => (match cb[j]? with
    | some (.FunctionDef _ _ body _ _ _ sc _ _ _) => (sc, body)
    | _ => (⟨.function, [], false, false, []⟩, []))
  | _ => (⟨.function, [], false, false, []⟩, [])
noncomputable abbrev msc (j : Nat) : Scope := (mthAt p11 6 j).1
noncomputable abbrev mbd (j : Nat) : List Stmt := (mthAt p11 6 j).2

section
variable {c : Cx} {n : Nat} {K : Frag} {C : Addr} {W : WA} {k : Nat} {σ : WS}

theorem InpR.sub {a b : Int} : InpR c .Sub (.int a) (.int b) (.int (a - b)) := fun A V s v₁ v₂ _ _ r₁ r₂ => by
  cases r₁; cases r₂; exact wp_end (P.isub_int ⟨fun _ _ e => e, rfl, rfl, fun _ => .int _ _⟩)
theorem CmpR.isntR {a : Addr} : CmpR c .IsNot (.val (.ref a)) .none true := fun A V s v₁ v₂ _ _ r₁ r₂ => by
  cases r₁; cases r₂
  exact wpAny_isNot_plain rfl ⟨.refl s, rfl⟩
theorem Sx.ret0 {sc : Scope} {ρ : Sto} {pos : Pos} {P : AF → Sto → Prop} (hp : P (.ret .none) ρ) : Sx c n sc ρ (.Return none pos) P := .mk fun A env V0 h0 Cs X s hA hO F =>
  wpAny_Return_none ⟨X, ρ, .ret .none, .refl X s, F, .ret .none, hp⟩

/-- data: kept where nothing is left out -/
theorem data_fn {a : Addr} {y : List Nat} (Y : WC c K C) (hd : IsDef c a (msc 4) ["self", "data"] (mbd 4)) (hz : σ.data.length ≤ 1000) :
    FnP c (n + 1) (.ref a) (WR c C W k σ) [sd y] (WR c C W k (if σ.depth = 0 then { σ with data := σ.data ++ [y] } else σ)) .none := by
  refine FnP.def hd rfl ?_
  refine Tr.cons (P₁ := fun af ρ' => af = .next ∧ SubS [("self", .res (WR c C W k (if σ.depth = 0 then { σ with data := σ.data ++ [y] } else σ)))] ρ') ?_ (fun ρ' q => .nil ⟨.inr ⟨rfl, fun _ h => nomatch h⟩, q.2⟩) (fun af ρ' h q => absurd q.1 h)
  refine .ite (.not (.val (.wDepth Y rfl) TruR.int)) (fun hb => ?_) (fun hb => ?_)
  · have h0 : σ.depth = 0 := by simpa using hb
    rw [if_pos h0]
    refine .step (.wData Y rfl (.name rfl) (by omega)) (.nil ⟨rfl, .cons rfl .nil⟩)
  · have h0 : ¬ σ.depth = 0 := by simpa using hb
    rw [if_neg h0]
    exact .nil ⟨rfl, .cons rfl .nil⟩

/-- end: one level less -/
theorem end_fn {a : Addr} {y : List Nat} (Y : WC c K C) (hd : IsDef c a (msc 9) ["self", "tag"] (mbd 9)) (h0 : 0 < σ.depth) (hk : k ≤ 100000) :
    FnP c (n + 1) (.ref a) (WR c C W k σ) [sd y] (WR c C W (k + 1) { σ with depth := σ.depth - 1 }) .none := by
  refine FnP.def hd rfl ?_
  refine Tr.cons (P₁ := fun af ρ' => af = .ret .none ∧ SubS [("self", .res (WR c C W (k + 1) { σ with depth := σ.depth - 1 }))] ρ') ?_ (fun ρ' q => nomatch q.1) (fun af ρ' h q => ⟨.inl q.1, q.2⟩)
  refine .ite (.val (.wDepth Y rfl) TruR.int) (fun hb => ?_) (fun hb => ?_)
  · refine .step (.wAug (dp := σ.depth - 1) Y rfl .int ?_ hk) (.last (.ret0 ⟨rfl, .cons rfl .nil⟩))
    have := InpR.sub (c := c) (a := σ.depth) (b := 1)
    rwa [show (σ.depth : Int) - 1 = ((σ.depth - 1 : Nat) : Int) by omega] at this
  · exfalso; simp at hb; omega

/-- start of what is left out: one level more -/
theorem start_fn {a : Addr} {y : List Nat} {d : D} (Y : WC c K C) (hd : IsDef c a (msc 7) ["self", "tag", "attrs"] (mbd 7)) (h0 : 0 < σ.depth ∨ y = cs "x") (hk : k ≤ 100000) :
    FnP c (n + 1) (.ref a) (WR c C W k σ) [sd y, d] (WR c C W (k + 1) { σ with depth := σ.depth + 1 }) .none := by
  refine FnP.def hd rfl ?_
  refine Tr.cons (P₁ := fun af ρ' => af = .ret .none ∧ SubS [("self", .res (WR c C W (k + 1) { σ with depth := σ.depth + 1 }))] ρ') ?_ (fun ρ' q => nomatch q.1) (fun af ρ' h q => ⟨.inl q.1, q.2⟩)
  refine .ite (.boolop (.and (.cmp (.wTags Y rfl) .none (b := true) CmpR.isntR) fun _ => .and (.boolop (.or (.val (.wDepth Y rfl) TruR.int) fun _ => .or (.wIn Y rfl (.name rfl)) fun _ => .nilOr)) fun _ => .nilAnd)) (fun hb => ?_) (fun hb => ?_)
  · refine .step (.wAug (dp := σ.depth + 1) Y rfl .int ?_ hk) (.last (.ret0 ⟨rfl, .cons rfl .nil⟩))
    exact InpR.add
  · exfalso
    rcases h0 with h | h
    · have : ((σ.depth : Int) != 0) = true := by simp; omega
      rw [this] at hb; simp at hb
    · rw [h] at hb; simp at hb
end
end Mine
namespace Mine
section
variable {c : Cx} {n : Nat} {K : Frag} {C : Addr} {W : WA} {k : Nat} {σ : WS}

theorem comment_off {a : Addr} {d : D} (Y : WC c K C) (hd : IsDef c a (msc 10) ["self", "text"] (mbd 10)) (h : σ.wished = false ∨ 0 < σ.depth) : FnP c (n + 1) (.ref a) (WR c C W k σ) [d] (WR c C W k σ) .none := by
  refine FnP.def hd rfl ?_
  cases hw : σ.wished with
  | false =>
    refine Tr.cons (P₁ := fun af ρ' => af = .ret .none ∧ SubS [("self", .res (WR c C W k σ))] ρ') ?_ (fun ρ' q => nomatch q.1) (fun af ρ' h q => ⟨.inl q.1, q.2⟩)
    refine .ite (.not (.val (.wCom Y rfl) TruR.bool)) (fun hb => .last (.ret0 ⟨rfl, .cons rfl .nil⟩)) (fun hb => ?_)
    rw [hw] at hb; cases hb
  | true =>
    refine .step (.ite (.not (.val (.wCom Y rfl) TruR.bool)) (fun hb => ?_) (fun hb => .nil ⟨rfl, rfl⟩)) ?_
    · rw [hw] at hb; cases hb
    refine Tr.cons (P₁ := fun af ρ' => af = .ret .none ∧ SubS [("self", .res (WR c C W k σ))] ρ') ?_ (fun ρ' q => nomatch q.1) (fun af ρ' h q => ⟨.inl q.1, q.2⟩)
    refine .ite (.val (.wDepth Y rfl) TruR.int) (fun hb => .last (.ret0 ⟨rfl, .cons rfl .nil⟩)) (fun hb => ?_)
    rcases h with h | h
    · rw [hw] at h; cases h
    · simp at hb; omega

/-- a comment of a text -/
theorem comment_on {a ea : Addr} {y : List Nat} (Y : WC c K C) (hd : IsDef c a (msc 10) ["self", "text"] (mbd 10)) (he : c.mg (Str.ofString "_escape_cdata_c14n") = some (.ref ea)) (hec : Callee c (.ref ea))
    (hesc : FnR c n (.ref ea) [sd y] (sd (y.flatMap (wrT tCc)))) (hy : (y.flatMap (wrT tCc)).length ≤ 100000) (hz : σ.pcs.length ≤ 1000) (hw : σ.wished = true) (h0 : σ.depth = 0) :
    FnP c (n + 1) (.ref a) (WR c C W k σ) [sd y] (WR c C W k { σ with pcs := σ.pcs ++ [cs "<!--" ++ (y.flatMap (wrT tCc) ++ (cs "-->" ++ []))] ++ [cs "\n"] }) .none := by
  refine FnP.def hd rfl ?_
  refine .step (.ite (.not (.val (.wCom Y rfl) TruR.bool)) (fun hb => ?_) (fun hb => .nil ⟨rfl, rfl⟩)) ?_
  · rw [hw] at hb; cases hb
  refine .step (.ite (.val (.wDepth Y rfl) TruR.int) (fun hb => ?_) (fun hb => .nil ⟨rfl, rfl⟩)) ?_
  · rw [h0] at hb; cases hb
  refine .step (.ite (.val (.wDone Y rfl) TruR.bool) (fun hb => nomatch hb) (fun hb => .last (.ite (.boolop (.and (b := false) (.val (.wSeen Y rfl) TruR.bool) fun q => nomatch q)) (fun hb => nomatch hb) (fun hb => .nil ⟨rfl, rfl⟩)))) ?_
  refine .step (.wWrite Y rfl (.joined (.cons .lit (.cons (.fmt (.call (.glob he) hec (.cons (.name rfl) .nil) hesc) (by omega)) (.cons .lit .nil))) ?_) (by omega)) ?_
  · have e1 : (cs "<!--").length = 4 := by decide +kernel
    have e2 : (cs "-->").length = 3 := by decide +kernel
    simp only [List.length_append, e1, e2, List.length_nil]; omega
  refine Tr.cons (P₁ := fun af ρ' => af = .next ∧ SubS [("self", .res (WR c C W k { σ with pcs := σ.pcs ++ [cs "<!--" ++ (y.flatMap (wrT tCc) ++ (cs "-->" ++ []))] ++ [cs "\n"] }))] ρ') ?_ (fun ρ' q => .nil ⟨.inr ⟨rfl, fun _ h => nomatch h⟩, q.2⟩) (fun af ρ' h q => absurd q.1 h)
  refine .ite (.not (.val (.wSeen Y rfl) TruR.bool)) (fun hb => ?_) (fun hb => nomatch hb)
  exact .step (.wWrite Y rfl .lit (by simp; omega)) (.nil ⟨rfl, .cons rfl .nil⟩)

theorem pi_off {a : Addr} {d₁ d₂ : D} (Y : WC c K C) (hd : IsDef c a (msc 11) ["self", "target", "data"] (mbd 11)) (h : 0 < σ.depth) : FnP c (n + 1) (.ref a) (WR c C W k σ) [d₁, d₂] (WR c C W k σ) .none := by
  refine FnP.def hd rfl ?_
  refine Tr.cons (P₁ := fun af ρ' => af = .ret .none ∧ SubS [("self", .res (WR c C W k σ))] ρ') ?_ (fun ρ' q => nomatch q.1) (fun af ρ' h q => ⟨.inl q.1, q.2⟩)
  refine .ite (.val (.wDepth Y rfl) TruR.int) (fun hb => .last (.ret0 ⟨rfl, .cons rfl .nil⟩)) (fun hb => ?_)
  simp at hb; omega
/-- an instruction with a text -/
theorem pi_on {a ea : Addr} {x y : List Nat} (Y : WC c K C) (hd : IsDef c a (msc 11) ["self", "target", "data"] (mbd 11)) (he : c.mg (Str.ofString "_escape_cdata_c14n") = some (.ref ea)) (hec : Callee c (.ref ea))
    (hesc : FnR c n (.ref ea) [sd y] (sd (y.flatMap (wrT tCc)))) (hy : (y.flatMap (wrT tCc)).length ≤ 100000) (hx : x.length ≤ 100) (hne : y ≠ []) (hyl : y.length ≤ 1000000) (hz : σ.pcs.length ≤ 1000) (h0 : σ.depth = 0) :
    FnP c (n + 1) (.ref a) (WR c C W k σ) [sd x, sd y] (WR c C W k { σ with pcs := σ.pcs ++ [cs "<?" ++ (x ++ (cs " " ++ (y.flatMap (wrT tCc) ++ (cs "?>" ++ []))))] ++ [cs "\n"] }) .none := by
  refine FnP.def hd rfl ?_
  refine .step (.ite (.val (.wDepth Y rfl) TruR.int) (fun hb => ?_) (fun hb => .nil ⟨rfl, rfl⟩)) ?_
  · rw [h0] at hb; cases hb
  refine .step (.ite (.val (.wDone Y rfl) TruR.bool) (fun hb => nomatch hb) (fun hb => .last (.ite (.boolop (.and (b := false) (.val (.wSeen Y rfl) TruR.bool) fun q => nomatch q)) (fun hb => nomatch hb) (fun hb => .nil ⟨rfl, rfl⟩)))) ?_
  refine .step (.wWrite Y rfl (.ite (.val (.name rfl) (TruR.text (by omega))) (fun hb => .joined (.cons .lit (.cons (.fmt (.name rfl) (by omega)) (.cons .lit (.cons (.fmt (.call (.glob he) hec (.cons (.name rfl) .nil) hesc) (by omega)) (.cons .lit .nil))))) ?_) (fun hb => ?_)) (by omega)) ?_
  · have e1 : (cs "<?").length = 2 := by decide +kernel
    have e2 : (cs "?>").length = 2 := by decide +kernel
    have e3 : (cs " ").length = 1 := by decide +kernel
    simp only [List.length_append, e1, e2, e3, List.length_nil]; omega
  · simp at hb; exact absurd hb hne
  refine Tr.cons (P₁ := fun af ρ' => af = .next ∧ SubS [("self", .res (WR c C W k { σ with pcs := σ.pcs ++ [cs "<?" ++ (x ++ (cs " " ++ (y.flatMap (wrT tCc) ++ (cs "?>" ++ []))))] ++ [cs "\n"] }))] ρ') ?_ (fun ρ' q => .nil ⟨.inr ⟨rfl, fun _ h => nomatch h⟩, q.2⟩) (fun af ρ' h q => absurd q.1 h)
  refine .ite (.not (.val (.wSeen Y rfl) TruR.bool)) (fun hb => ?_) (fun hb => nomatch hb)
  exact .step (.wWrite Y rfl .lit (by simp; omega)) (.nil ⟨rfl, .cons rfl .nil⟩)
/-- an instruction without one -/
theorem pi_bare {a : Addr} {x : List Nat} {d : D} (Y : WC c K C) (hd : IsDef c a (msc 11) ["self", "target", "data"] (mbd 11)) (hx : x.length ≤ 100) (hf : TruR c d false) (hz : σ.pcs.length ≤ 1000) (h0 : σ.depth = 0) :
    FnP c (n + 1) (.ref a) (WR c C W k σ) [sd x, d] (WR c C W k { σ with pcs := σ.pcs ++ [cs "<?" ++ (x ++ (cs "?>" ++ []))] ++ [cs "\n"] }) .none := by
  refine FnP.def hd rfl ?_
  refine .step (.ite (.val (.wDepth Y rfl) TruR.int) (fun hb => ?_) (fun hb => .nil ⟨rfl, rfl⟩)) ?_
  · rw [h0] at hb; cases hb
  refine .step (.ite (.val (.wDone Y rfl) TruR.bool) (fun hb => nomatch hb) (fun hb => .last (.ite (.boolop (.and (b := false) (.val (.wSeen Y rfl) TruR.bool) fun q => nomatch q)) (fun hb => nomatch hb) (fun hb => .nil ⟨rfl, rfl⟩)))) ?_
  refine .step (.wWrite Y rfl (.ite (.val (.name rfl) hf) (fun hb => nomatch hb) (fun hb => .joined (.cons .lit (.cons (.fmt (.name rfl) (by omega)) (.cons .lit .nil))) ?_)) (by omega)) ?_
  · have e1 : (cs "<?").length = 2 := by decide +kernel
    have e2 : (cs "?>").length = 2 := by decide +kernel
    simp only [List.length_append, e1, e2, List.length_nil]; omega
  refine Tr.cons (P₁ := fun af ρ' => af = .next ∧ SubS [("self", .res (WR c C W k { σ with pcs := σ.pcs ++ [cs "<?" ++ (x ++ (cs "?>" ++ []))] ++ [cs "\n"] }))] ρ') ?_ (fun ρ' q => .nil ⟨.inr ⟨rfl, fun _ h => nomatch h⟩, q.2⟩) (fun af ρ' h q => absurd q.1 h)
  refine .ite (.not (.val (.wSeen Y rfl) TruR.bool)) (fun hb => ?_) (fun hb => nomatch hb)
  exact .step (.wWrite Y rfl .lit (by simp; omega)) (.nil ⟨rfl, .cons rfl .nil⟩)
end
end Mine
namespace Mine

/-- f called with a resource and ds raises T(m) and leaves the resource -/
structure FnXP (c : Cx) (n : Nat) (f : Value) (R : Res) (ds : List D) (T : String) (m : List Nat) : Prop where
  run : ∀ A V s vs B l fp, Room c n A → Hnd A s.heap → Stk c A B l s.heap → (∀ a ∈ l.filterMap (·.frame), V a) → St c V s → (∀ a ∈ fp, ¬ V a) → fp.Nodup → (∀ a ∈ fp, c.base.get? a = none) → R.P fp s.heap → RepL c (fun a => V a ∨ a ∈ fp) s ds vs →
    wpAny c.M A (call f (R.v :: vs)) (fun _ _ => False) (Fly B l T m s) s

section
variable {c : Cx} {n : Nat} {sc : Scope} {ρ : Sto} {A : Around} {env : Env} {V0 : Addr → Prop} {h0 : Heap} {Cs : List (Str × Addr)} {X : List Addr} {s : Shared} {Q : Flow → Shared → Prop} {E : Value → Shared → Prop}

theorem if_skip {t : Expr} {body : List Stmt} {pos : Pos} {rest : List Stmt} (hA : Room c n A) (F : Fm c sc env V0 h0 Cs X ρ s) (ht : Tst c n sc ρ t false) (k : ∀ s', Gr s s' → wpAny c.M A (execs rest env) Q E s') :
    wpAny c.M A (execs (.If t body [] pos :: rest) env) Q E s := by
  refine wpAny_execs_cons (wpAny_If (wpAny_mono (ht.run A env V0 h0 Cs X s hA F) (fun r s' q => ?_) fun _ _ q => q.elim))
  obtain ⟨g, rfl⟩ := q
  exact wpAny_execs_nil (k s' g)
theorem if_skip2 {t t2 : Expr} {body body2 : List Stmt} {pos pos2 : Pos} {rest : List Stmt} (hA : Room c n A) (F : Fm c sc env V0 h0 Cs X ρ s) (ht : Tst c n sc ρ t false) (ht2 : Tst c n sc ρ t2 false) (k : ∀ s', Gr s s' → wpAny c.M A (execs rest env) Q E s') :
    wpAny c.M A (execs (.If t body [.If t2 body2 [] pos2] pos :: rest) env) Q E s := by
  refine wpAny_execs_cons (wpAny_If (wpAny_mono (ht.run A env V0 h0 Cs X s hA F) (fun r s' q => ?_) fun _ _ q => q.elim))
  obtain ⟨g, rfl⟩ := q
  exact if_skip hA (F.gr g) ht2 fun s'' g' => wpAny_execs_nil (k s'' (g.trans g'))

/-- a raise leaves the frame -/
theorem fly_leaves {B : Heap} {l : List Env} {T : String} {m : List Nat} {s₀ s₁ : Shared} {ev : Value} {M : Model} (hst : A.frames = some (env :: l)) (hf : env.frame = some env.locals) (fly : Fly B (env :: l) T m s₁ ev s) (g : Gr s₀ s₁) :
    wpAny M A (leaving env ev) (fun _ s'' => s₀.toks ≤ s''.toks → Fly B l T m s₀ ev s'') (fun e' s'' => s₀.toks ≤ s''.toks → Fly B l T m s₀ e' s'') s := by
  obtain ⟨⟨e, t, tk, rfl, hfl, htup, ht⟩, hu, htk, hg, ho⟩ := fly
  refine wpAny_leaves_onW hst hf hfl fun h' hfl' hu' htk' => ⟨⟨e, t, tk, rfl, hfl', htup.of_slots hu', ht⟩, ?_, htk', hg.trans g.gens, ho.trans g.os⟩
  exact ((Heap.UpToSlots.of_keeps g.keep).trans hu).trans hu'
end

/-- e raises T(m) -/
structure EvX (c : Cx) (n : Nat) (sc : Scope) (ρ : Sto) (e : Expr) (T : String) (m : List Nat) : Prop where
  run : ∀ A env V0 h0 Cs X s B l, Room c n A → Hnd A s.heap → Fm c sc env V0 h0 Cs X ρ s → Stk c A B l s.heap → (∀ a ∈ l.filterMap (·.frame), V0 a ∨ a = env.locals) → wpAny c.M A (eval e env) (fun _ _ => False) (Fly B l T m s) s
/-- one of the parts raises T(m) -/
structure EvJX (c : Cx) (n : Nat) (sc : Scope) (ρ : Sto) (es : List Expr) (T : String) (m : List Nat) : Prop where
  run : ∀ A env V0 h0 Cs X s B l out, Room c n A → Hnd A s.heap → Fm c sc env V0 h0 Cs X ρ s → Stk c A B l s.heap → (∀ a ∈ l.filterMap (·.frame), V0 a ∨ a = env.locals) → out.length + 1000 * es.length ≤ 1000000 → wpAny c.M A (joinParts (S out) (evalEach es env)) (fun _ _ => False) (Fly B l T m s) s

section
variable {c : Cx} {n : Nat} {sc : Scope} {ρ : Sto} {T : String} {m : List Nat}
theorem Fly.gr {B : Heap} {l : List Env} {s s₁ s' : Shared} {ev : Value} (fly : Fly B l T m s₁ ev s') (g : Gr s s₁) : Fly B l T m s ev s' :=
  ⟨fly.ex, (Heap.UpToSlots.of_keeps g.keep).trans fly.up, Nat.le_trans g.tok fly.tok, fly.gens.trans g.gens, fly.os.trans g.os⟩
theorem Fm.volF {env V0 h0 Cs X s} (F : Fm c sc env V0 h0 Cs X ρ s) {a : Addr} (h : V0 a ∨ a = env.locals) : Vol V0 X a := by
  rcases h with h | h
  · exact .inl h
  · obtain ⟨_, _, _, h2, _⟩ := F.sto
    exact .inr (by rw [h2, h]; exact .head _)
theorem EvX.call {f : Expr} {es : List Expr} {pos : Pos} {fv : Value} {ds : List D} (hf : Ev c n sc true ρ f (.val fv)) (hc : Callee c fv) (ha : EvL c n sc true ρ es ds) (h : FnX c n fv ds T m) (hp : es.all plainE = true := by rfl)
    (he : ∀ env : Env, eval (.Call f es [] pos) env = (do callWith pos (← eval f env) [] (backTo pos (starEach es env)) (backToKw pos (keywordEach [] env))) := by intro _; rfl) : EvX c n sc ρ (.Call f es [] pos) T m :=
  .mk fun A env V0 h0 Cs X s B l hA hH F K hV => call_raises hA hH F K (fun a ha => F.volF (hV a ha)) hf hc ha h hp he
theorem EvX.fmt {e : Expr} {pos : Pos} (h : EvX c n sc ρ e T m) : EvX c n sc ρ (.FormattedValue e (-1) none pos) T m := .mk fun A env V0 h0 Cs X s B l hA hH F K hV =>
  FormattedValue_plain (wpAny_mono (h.run A env V0 h0 Cs X s B l hA hH F K hV) (fun _ _ q => q.elim) fun _ _ q => q)
theorem EvJX.here {e : Expr} {es : List Expr} (h : EvX c n sc ρ e T m) : EvJX c n sc ρ (e :: es) T m := .mk fun A env V0 h0 Cs X s B l out hA hH F K hV hz =>
  joinParts_cons (wpAny_mono (h.run A env V0 h0 Cs X s B l hA hH F K hV) (fun _ _ q => q.elim) fun _ _ q => q)
theorem EvJX.cons {e : Expr} {es : List Expr} {y : List Nat} (h : Ev c n sc true ρ e (sd y)) (hy : y.length ≤ 100) (hs : EvJX c n sc ρ es T m) : EvJX c n sc ρ (e :: es) T m := .mk fun A env V0 h0 Cs X s B l out hA hH F K hV hz => by
  simp at hz
  refine joinParts_cons (wpAny_mono (h.run A env V0 h0 Cs X s hA F) (fun v s₁ q => ?_) fun _ _ q => q.elim)
  obtain ⟨g, r⟩ := q
  cases r with
  | str _ t =>
    refine ⟨by rw [S_append, S_length, sizeLine_eq]; simp; omega, ?_⟩
    rw [S_append]
    exact wpAny_mono (hs.run A env V0 h0 Cs X s₁ B l (out ++ y) hA (hH.keeps g.keep) (F.gr g) (K.gr g) hV (by simp; omega)) (fun _ _ q => q) fun _ _ q => q.gr g
theorem EvX.joined {e₁ e₂ : Expr} {es : List Expr} {pos : Pos} (h : EvJX c n sc ρ (e₁ :: e₂ :: es) T m) (hl : es.length ≤ 100 := by decide) : EvX c n sc ρ (.JoinedStr (e₁ :: e₂ :: es) pos) T m := .mk fun A env V0 h0 Cs X s B l hA hH F K hV =>
  JoinedStr_many (h.run A env V0 h0 Cs X s B l [] hA hH F K hV (by simp; omega))
theorem EvX.ite {t a b : Expr} {pos : Pos} (h : Tst c n sc ρ t true) (ha : EvX c n sc ρ a T m) : EvX c n sc ρ (.IfExp t a b pos) T m := .mk fun A env V0 h0 Cs X s B l hA hH F K hV =>
  wpAny_IfExp (wpAny_mono (h.run A env V0 h0 Cs X s hA F) (fun r s' q => by
    obtain ⟨g, rfl⟩ := q
    exact wpAny_mono (ha.run A env V0 h0 Cs X s' B l hA (hH.keeps g.keep) (F.gr g) (K.gr g) hV) (fun _ _ q => q) fun _ _ q => q.gr g) fun _ _ q => q.elim)
end

section
variable {c : Cx} {n : Nat} {sc : Scope} {ρ : Sto}
/-- x.name(es) raises -/
theorem EvX.methP {x T : String} {m : List Nat} {R : Res} {name : Str} {f : Addr} {es : List Expr} {ds : List D} {xp ap pos : Pos} (hx : ρ.lookup x = some (.res R)) (hfc : Callee c (.ref f))
    (hm : ∀ (A : Around) (s : Shared) (fp : List Addr) (pl : Sem Bool) (E : Value → Shared → Prop) (Q : Value × List Value → Shared → Prop), Keeps c.base s.heap → R.P fp s.heap → Q (.ref f, [R.v]) s → wpAny c.M A (getMethod R.v name pl) Q E s)
    (ha : EvL c n sc true ρ es ds) (h : FnXP c n (.ref f) R ds T m)
    (hp : es.all plainE = true := by rfl) (hlen : decide (es.length < 30) = true := by rfl) (hline : (ap.endLine == pos.line) = true := by rfl) (hxd : x ≠ "__debug__" := by decide)
    (hbase : ∀ env : Env, attributeBase (.Name (Str.ofString x) xp) name env (eval (.Name (Str.ofString x) xp) env) = eval (.Name (Str.ofString x) xp) env := by intro _; rfl) :
    EvX c n sc ρ (.Call (.Attribute (.Name (Str.ofString x) xp) name ap) es [] pos) T m := .mk fun A env V0 h0 Cs X s B l hA hH F K hV => by
  obtain ⟨fp, fps', O⟩ := F.opR hx
  refine Call_meth (hbase env) hp hlen hline (O.load F hxd fun pl => hm A s fp pl _ _ (F.base.trans F.keep) O.p ?_)
  refine hfc.wp hp (wpAny_mono (ha.run A env V0 h0 Cs X s pos hA F) (fun vs s₂ q₂ => ⟨(F.gr q₂.1).base.trans (F.gr q₂.1).keep, ?_⟩) fun _ _ q => q.elim)
  obtain ⟨g₂, r₂⟩ := q₂
  have O₂ := O.gr g₂
  have F₂ := F.gr g₂
  have hfx := O.fpX
  have hvk : VK true V0 X = Vol V0 X := by funext a; simp [VK]
  refine wpAny_mono (h.run A (fun a => Vol V0 X a ∧ a ∉ fp) s₂ vs B l fp hA (hH.keeps g₂.keep) (K.gr g₂) (fun a ha => ⟨F.volF (hV a ha), fun q => ?_⟩) ((F₂.st true).weak fun a q => ⟨rfl, q.1⟩) (fun a ha q => q.2 ha) O.fpN (fun a ha => ?_) O₂.p (r₂.weak fun a q => ?_)) (fun v s₃ q => q) fun _ _ q => q.gr g₂
  · rcases hV a ha with q' | q'
    · exact (F.live0 a q').2 (hfx a q)
    · exact (List.nodup_cons.mp O.nd).1 (List.mem_append_right _ (List.mem_append_left _ (q' ▸ q)))
  · cases e : c.base.get? a with
    | none => rfl
    | some o => have := F.base a o e; rw [F.new a (hfx a ha)] at this; cases this
  · rcases q with q | q
    · exact ⟨rfl, q.1⟩
    · exact ⟨rfl, .inr (hfx a q)⟩
end

section
variable {c : Cx} {n : Nat} {K : Frag} {C : Addr} {W : WA} {k : Nat} {σ : WS}

/-- self._write(e) where e raises -/
theorem EvX.wWrite {sc : Scope} {ρ : Sto} {x T : String} {m : List Nat} {e : Expr} {xp ap pos : Pos} (Y : WC c K C) (hx : ρ.lookup x = some (.res (WR c C W k σ))) (h : EvX c n sc ρ e T m)
    (hp : plainE e = true := by rfl) (hxd : x ≠ "__debug__" := by decide) (hline : (ap.endLine == pos.line) = true := by rfl)
    (hbase : ∀ env : Env, attributeBase (.Name (Str.ofString x) xp) (Str.ofString "_write") env (eval (.Name (Str.ofString x) xp) env) = eval (.Name (Str.ofString x) xp) env := by intro _; rfl) :
    EvX c n sc ρ (.Call (.Attribute (.Name (Str.ofString x) xp) (Str.ofString "_write") ap) [e] [] pos) T m := .mk fun A env V0 h0 Cs X s B l hA hH F KK hV => by
  obtain ⟨fp, fps', O⟩ := F.opR hx
  refine Call_meth (hbase env) (by simp [hp]) rfl hline (O.load F hxd fun pl => ?_)
  have hP := O.p
  obtain ⟨rfl, hP⟩ := hP
  obtain ⟨mm, I, wf⟩ := hP.inst
  refine get_methField (Y.X.keeps (F.base.trans F.keep)) Y.ok I (Y.flds "_write" (by decide)) wf.write rfl ?_
  have g₁ : Gr s { s with toks := s.toks + 1 } := Gr.toks (Nat.le_succ _)
  refine callWith_bound (id := "list.append") (pa := W.pa) (noStar_all (by simp [hp])) (evalArgs_of (by simp [hp]) (wpAny_items_cons ?_ (starEach_cons hp)))
  exact wpAny_mono (h.run A env V0 h0 Cs X _ B l hA (hH.keeps g₁.keep) (F.gr g₁) (KK.gr g₁) hV) (fun _ _ q => q.elim) fun _ _ q => q.gr g₁

/-- the last statement of a frame that was only looked around in raises -/
theorem last_raises {sc : Scope} {ρ : Sto} {T : String} {m : List Nat} {e : Expr} {pos : Pos} {rest : List Stmt} {A : Around} {env : Env} {V h0 Cs X B l} {s s₁ : Shared} {Q : Flow → Shared → Prop} (h : EvX c n sc ρ e T m) (hA : Room c n (A.deeper env)) (hH : Hnd A s.heap) (KK : Stk c A B l s.heap) (hV : ∀ a ∈ l.filterMap (·.frame), V a)
    (hf : env.frame = some env.locals) (hnl : s.heap.get? env.locals = none) (g : Gr s s₁) (F : Fm c sc env V h0 Cs X ρ s₁) (hsw : swapsWith e none pos.line env = pure false) :
    wpAny c.M (A.deeper env) (execs (.Expr e pos :: rest) env) Q (fun e s' => wpAny c.M (A.deeper env) (leaving env e) (fun _ s'' => s.toks ≤ s''.toks → Fly B l T m s e s'') (fun e' s'' => s.toks ≤ s''.toks → Fly B l T m s e' s'') s') s₁ := by
  have K₄ := F.stk hf hnl KK g
  have hint : interactive env = false := by
    unfold interactive
    rw [F.scope, F.kind]; rfl
  have hVX : ∀ b ∈ (env :: l).filterMap (·.frame), V b ∨ b = env.locals := fun b hb => by
    rw [List.filterMap_cons, hf] at hb
    rcases List.mem_cons.mp hb with q | q
    · exact .inr q
    · exact .inl (hV b q)
  exact wpAny_execs_cons (wpAny_Expr_any (wpAny_mono (h.run (A.deeper env) env V h0 Cs X s₁ B (env :: l) hA (hH.keeps g.keep) F K₄ hVX) (fun _ _ q => q.elim) fun ev s₅ fly => fly_leaves K₄.stack hf fly g) hint hsw)

theorem comment_raises {a ea : Addr} {d : D} {m : List Nat} (Y : WC c K C) (hd : IsDef c a (msc 10) ["self", "text"] (mbd 10)) (he : c.mg (Str.ofString "_escape_cdata_c14n") = some (.ref ea)) (hec : Callee c (.ref ea))
    (hesc : FnX c n (.ref ea) [d] "TypeError" m) (hw : σ.wished = true) (h0 : σ.depth = 0) : FnXP c (n + 1) (.ref a) (WR c C W k σ) [d] "TypeError" m := .mk fun A V s vs B l fp hA hH KK hV hS hfV hfn hfb hP r => by
  refine fn_enterP hd.toIsDefL rfl hA hS hfV hfn hfb hP r fun env X s₁ hf hnl g F hO hXc hfX => ?_
  have hA₁ := hA.deeper env
  refine if_skip hA₁ F (.to (.not (.val (.wCom Y rfl) TruR.bool)) (by rw [hw]; rfl)) fun s₂ g₂ => ?_
  refine if_skip hA₁ (F.gr g₂) (.to (.val (.wDepth Y rfl) TruR.int) (by rw [h0]; rfl)) fun s₃ g₃ => ?_
  refine if_skip2 hA₁ (F.gr (g₂.trans g₃)) (.val (.wDone Y rfl) TruR.bool) (.to (.boolop (.and (b := false) (.val (.wSeen Y rfl) TruR.bool) fun q => nomatch q)) rfl) fun s₄ g₄ => ?_
  have gg := (g₂.trans g₃).trans g₄
  exact last_raises (n := n) (.wWrite Y rfl (.joined (.cons .lit (by decide +kernel) (.here (.fmt (.call (.glob he) hec (.cons (.name rfl) .nil) hesc)))))) hA₁ hH KK hV hf hnl (g.trans gg) (F.gr gg) rfl

theorem pi_raises {a ea : Addr} {x : List Nat} {d : D} {m : List Nat} (Y : WC c K C) (hd : IsDef c a (msc 11) ["self", "target", "data"] (mbd 11)) (he : c.mg (Str.ofString "_escape_cdata_c14n") = some (.ref ea)) (hec : Callee c (.ref ea))
    (hesc : FnX c n (.ref ea) [d] "TypeError" m) (hx : x.length ≤ 100) (ht : TruR c d true) (h0 : σ.depth = 0) : FnXP c (n + 1) (.ref a) (WR c C W k σ) [sd x, d] "TypeError" m := .mk fun A V s vs B l fp hA hH KK hV hS hfV hfn hfb hP r => by
  refine fn_enterP hd.toIsDefL rfl hA hS hfV hfn hfb hP r fun env X s₁ hf hnl g F hO hXc hfX => ?_
  have hA₁ := hA.deeper env
  refine if_skip hA₁ F (.to (.val (.wDepth Y rfl) TruR.int) (by rw [h0]; rfl)) fun s₃ g₃ => ?_
  refine if_skip2 hA₁ (F.gr g₃) (.val (.wDone Y rfl) TruR.bool) (.to (.boolop (.and (b := false) (.val (.wSeen Y rfl) TruR.bool) fun q => nomatch q)) rfl) fun s₄ g₄ => ?_
  have gg := g₃.trans g₄
  exact last_raises (n := n) (.wWrite Y rfl (.ite (.val (.name rfl) ht) (.joined (.cons .lit (by decide +kernel) (.cons (.fmt (.name rfl) (by omega)) hx (.cons .lit (by decide +kernel) (.here (.fmt (.call (.glob he) hec (.cons (.name rfl) .nil) hesc))))))))) hA₁ hH KK hV hf hnl (g.trans gg) (F.gr gg) rfl
end
end Mine
namespace Mine

/-- f called with a resource and ds is refused within and answers with the text m -/
structure FnQ (c : Cx) (n : Nat) (f : Value) (R : Res) (ds : List D) (m : List Nat) : Prop where
  run : ∀ A V s vs B l fp, Room c n A → Hnd A s.heap → Stk c A B l s.heap → (∀ a ∈ l.filterMap (·.frame), V a) → St c V s → (∀ a ∈ fp, ¬ V a) → fp.Nodup → (∀ a ∈ fp, c.base.get? a = none) → R.P fp s.heap → RepL c (fun a => V a ∨ a ∈ fp) s ds vs →
    wpAny c.M A (call f (R.v :: vs)) (fun v s' => ∃ fp', StpF (l.filterMap (·.frame)) fp s fp' s' ∧ R.P fp' s'.heap ∧ fp'.Nodup ∧ Rep c V s' (sd m) v) (fun _ _ => False) s

theorem FlyingW.keeps {B : Heap} {l : List Env} {e : Addr} {cls a0 : Value} {h h' : Heap} (x : Heap.FlyingW B l e cls a0 h) (k : Keeps h h') : Heap.FlyingW B l e cls a0 h' := by
  obtain ⟨f1, f2, f3, oe, vs, T, oT, ts, a1, a2, a3, a4, a5, a6, a7, a8, a9⟩ := x
  exact ⟨fun b o q => k _ _ (f1 b o q), f2, f3.of_keeps fun b o q _ => ⟨o, k _ _ q, rfl⟩, oe, vs, T, oT, ts, k _ _ a1, a2, a3, a4, a5, a6, k _ _ a7, a8, a9⟩

section
variable {c : Cx} {n : Nat} {sc : Scope} {ρ : Sto} {R : Res} {ds : List D} {m : List Nat}

/-- try: if t: e1 else: e2; except TypeError as error: return str(error) -/
theorem refused_fn {a : Addr} {x₀ : String} {ps : List String} {t e1 e2 : Expr} {b : Bool} {p0 p1 p2 p3 p4 p5 p6 p7 p8 p9 : Pos} {rest : List Stmt} (hn : c.hn)
    (hd : IsDefL c a sc (x₀ :: ps) (.Try [.If t [.Expr e1 p0] [.Expr e2 p1] p2] [.ExceptHandler (some (.Name (Str.ofString "TypeError") p3)) (some (Str.ofString "error")) [.Return (some (.Call (.Name (Str.ofString "str") p4) [.Name (Str.ofString "error") p5] [] p6)) p7] p8] [] [] p9 :: rest)) (hl : ps.length = ds.length)
    (ht : Tst c n sc ((x₀, .res R) :: stoOf ps ds) t b) (he : EvX c n sc ((x₀, .res R) :: stoOf ps ds) (if b then e1 else e2) "TypeError" m)
    (hT : c.mg (Str.ofString "TypeError") = Option.none ∧ c.mb (Str.ofString "TypeError") = some (.type "TypeError")) (hS : c.mg (Str.ofString "str") = Option.none ∧ c.mb (Str.ofString "str") = some (.type "str"))
    (hG : sc.names.lookup (Str.ofString "TypeError") = some .globalImplicit) (hG2 : sc.names.lookup (Str.ofString "str") = some .globalImplicit) (hloc : sc.names.lookup (Str.ofString "error") = some .local)
    (hsw1 : ∀ env, swapsWith e1 none p0.line env = pure false) (hsw2 : ∀ env, swapsWith e2 none p1.line env = pure false) (hx0 : x₀ ≠ "error") :
    FnQ c (n + 1) (.ref a) R ds m := .mk fun A V s vs B l fp hA hH K hV hSt hfV hfn hfb hP r => by
  refine fn_enterP hd hl hA hSt hfV hfn hfb hP r fun env X s₁ hf hnl g F hO hXc hfX => ?_
  have hA₁ := hA.deeper env
  have K₁ := F.stk hf hnl K g
  have hint : interactive env = false := by
    unfold interactive
    rw [F.scope, F.kind]; rfl
  refine wpAny_execs_cons (wpAny_Try_except (wpAny_execs_cons (wpAny_If (wpAny_mono (ht.run _ env V _ _ X s₁ hA₁ F) (fun r' s₂ q => ?_) fun _ _ q => q.elim))))
  obtain ⟨g₂, rfl⟩ := q
  have F₂ := F.gr g₂
  have K₂ := K₁.gr g₂
  have hfrV : ∀ b ∈ (env :: l).filterMap (·.frame), V b ∨ b = env.locals := fun b hb => by
    rw [List.filterMap_cons, hf] at hb
    rcases List.mem_cons.mp hb with q | q
    · exact .inr q
    · exact .inl (hV b q)
  -- the base: all but the frames
  have hst₂ := hidden_stays K₂.stays K₂.frames
  have K₃ : Stk c (A.deeper env) (hideAll s₂.heap ((env :: l).filterMap (·.frame))) (env :: l) s₂.heap := ⟨K₂.stack, fun b o e => hst₂ b o (K₂.base b o e), fun b o e => of_hideAll _ e, frames_hidden K₂.frames⟩
  have hrun := he.run (A.deeper env) env V _ _ X s₂ _ (env :: l) hA₁ ((hH.keeps (g.trans g₂).keep) : Hnd (A.deeper env) s₂.heap) F₂ K₃ hfrV
  have hdf : ∀ b o, b ∈ (env :: l).filterMap (·.frame) → s₂.heap.get? b = some o → ∀ vs, o.data ≠ .fields vs := fun b o hb e => by
    obtain ⟨_, o', ho', hd'⟩ := K₂.frames.mem hb
    rw [e] at ho'; cases ho'; exact hd'
  -- what the clause does
  have main : ∀ ev s₃, Fly (hideAll s₂.heap ((env :: l).filterMap (·.frame))) (env :: l) "TypeError" m s₂ ev s₃ →
      wpAny c.M (A.deeper env) (noteFrame ev env) (fun _ s₄ => wpAny c.M (A.deeper env) (setFlight ev none) (fun _ s₅ => wpAny c.M (A.deeper env) (handleBy ev env [.ExceptHandler (some (.Name (Str.ofString "TypeError") p3)) (some (Str.ofString "error")) [.Return (some (.Call (.Name (Str.ofString "str") p4) [.Name (Str.ofString "error") p5] [] p6)) p7] p8])
        (fun f s' => ∃ (tk : Tok) (fp' : List Addr), f = .ret (.str (S m) tk) ∧ StpF (l.filterMap (·.frame)) fp s fp' s' ∧ R.P fp' s'.heap ∧ fp'.Nodup) (fun _ _ => False) s₅) (fun _ _ => False) s₄) (fun _ _ => False) s₃ := fun ev s₃ fly => by
    obtain ⟨⟨e, t', tk, rfl, hfl, htup, htn⟩, hu, htk, hg3, ho3⟩ := fly
    refine wpAny_looks_onW K₃.stack hf hfl fun h₄ hh4 hu4 => wpAny_landsW hh4 fun h₅ hfl5 hu5 => ?_
    have sl₅ : Slt ((env :: l).filterMap (·.frame)) s₂ { s₃ with heap := h₅ } := Slt.of_hide hfl5.1 ((hu.trans hu4).trans hu5) hdf htk hg3 ho3
    have hbX : ∀ a ∈ X, c.base.get? a = Option.none := fun b hb => by
      rcases hXc b hb with q | q
      · cases e' : c.base.get? b with
        | none => rfl
        | some o => have := hSt.keep b o e'; rw [q] at this; cases this
      · exact hfb b q
    have hkb : ∀ h' : Heap, (hideAll s₂.heap ((env :: l).filterMap (·.frame))).StaysIn h' → Keeps c.base h' := fun h' q b o e' => q b o (K₃.base b o e')
    have F₅ := F₂.noted sl₅ hfrV (fun _ _ q => q) (hkb _ hfl5.1) hbX rfl
    have hA₅ : Room c.h n ((A.deeper env).mark (some (.ref e))) := hA₁.h _
    refine wpAny_handleBy_builtin_as (X := "TypeError") (T := "TypeError") (b := true) PySem.F.isExc_TypeError PySem.F.notTuple_TypeError (by rw [isSubtype_type]; kernel_rfl) ?_
    refine wpAny_mono ((Ev.blt (c := c.h) (n := n) (k := true) (ρ := (x₀, .res R) :: stoOf ps ds) hT.1 hT.2 hG).run _ env V _ _ X _ hA₅ F₅.h) (fun cv s₆ q₆ => ?_) fun _ _ q => q.elim
    obtain ⟨g₆, r₆⟩ := q₆
    cases r₆
    have hfl6 := FlyingW.keeps hfl5 g₆.keep
    refine ⟨rfl, ?_, ?_⟩
    · obtain ⟨ob, h1, h2⟩ := hfl6.there
      exact ⟨ob, h1, h2⟩
    rw [if_pos rfl]
    refine lands_againW hfl6 fun h₇ hfl7 hu7 => ?_
    have hu27 := (((hu.trans hu4).trans hu5).trans (Heap.UpToSlots.of_keeps g₆.keep)).trans hu7
    have sl₇ : Slt ((env :: l).filterMap (·.frame)) s₂ { s₆ with heap := h₇ } := Slt.of_hide hfl7.1 hu27 hdf (Nat.le_trans htk g₆.tok) (g₆.gens.trans hg3) (g₆.os.trans ho3)
    have F₇ := F₂.noted sl₇ hfrV (fun _ _ q => q) (hkb _ hfl7.1) hbX rfl
    refine wpAny_mono (Fm.store (x := "error") (sl := .val (.val (.ref e))) (v := .ref e) (fp := []) F₇ (.refl _) (fun q => by rw [hloc] at q; cases q) (.inl hloc) (.val (.val _)) .nil fun _ q => nomatch q) (fun _ s₈ q₈ => ?_) fun _ _ q => q.elim
    obtain ⟨X', t₈, F₈⟩ := q₈
    -- the exception is where it was
    have hoff : ∀ b o, h₇.get? b = some o → (∀ es ep, o.data ≠ .dict es ep) → (hideAll s₂.heap ((env :: l).filterMap (·.frame))).get? b = Option.none → b ∉ X := fun b o hb hnd hn' hbx => by
      obtain ⟨mm, fps, ⟨oL, es, ep, hL, hLd, _⟩, h2, h3, h4, _⟩ := F₂.sto
      obtain ⟨o2, e2⟩ := h4 b hbx
      by_cases q : b ∈ (env :: l).filterMap (·.frame)
      · rcases hfrV b q with q | q
        · exact (F₂.live0 b q).2 hbx
        · obtain ⟨sl, e3⟩ := sl₇.up b oL (by assumption) (q ▸ hL)
          have e4 : h₇.get? b = some { oL with slots := sl } := e3
          rw [hb] at e4; cases e4
          exact hnd es ep hLd
      · rw [hideAll_get _ e2 q] at hn'; cases hn'
    obtain ⟨f1, f2, f3, oe, ws, TT, oT, ts, a1, a2, a3, a4, a5, a6, a7, a8, a9⟩ := hfl7
    have htup7 : h₇.TupAt t' [.str (S m) tk] := ((((htup.of_slots hu4).of_slots hu5).of_slots (Heap.UpToSlots.of_keeps g₆.keep)).of_slots hu7)
    obtain ⟨ot, nt, b1, b2, b3⟩ := htup7
    have heX : e ∉ X := hoff e oe a1 (fun es ep q => by rw [a3] at q; cases q) f2
    have htX : t' ∉ X := hoff t' ot b1 (fun es ep q => by rw [b3] at q; cases q) htn
    have hex8 : s₈.heap.ExcAt e "TypeError" (.ref t') := ⟨oe, ws, t₈.keep e oe heX a1, a2.1, a3, a2.2⟩
    have htu8 : s₈.heap.TupAt t' [.str (S m) tk] := ⟨ot, nt, t₈.keep t' ot htX b1, b2, b3⟩
    have hcall : eval (.Call (.Name (Str.ofString "str") p4) [.Name (Str.ofString "error") p5] [] p6) env = (do callWith p6 (← eval (.Name (Str.ofString "str") p4) env) [] (backTo p6 (starEach [.Name (Str.ofString "error") p5] env)) (backToKw p6 (keywordEach [] env))) := rfl
    refine wpAny_execs_cons (wpAny_Return_some ?_)
    rw [hcall]
    refine wpAny_bind (wpAny_mono ((Ev.blt (c := c.h) (n := n) (k := true) (ρ := setS ((x₀, .res R) :: stoOf ps ds) "error" (.val (.val (.ref e)))) hS.1 hS.2 hG2).run _ env V _ _ X' s₈ hA₅ F₈.h) (fun fv s₉ q₉ => ?_) fun _ _ q => q.elim)
    obtain ⟨g₉, r₉⟩ := q₉
    cases r₉
    refine (Callee.type (c := c) "str").wp rfl (wpAny_mono ((EvL.cons (c := c.h) (n := n) (k := true) (ρ := setS ((x₀, .res R) :: stoOf ps ds) "error" (.val (.val (.ref e)))) (.name rfl) .nil).run _ env V _ _ X' s₉ p6 hA₅ (F₈.gr g₉).h) (fun vs s₁₀ q₁₀ => ?_) fun _ _ q => q.elim)
    obtain ⟨g₁₀, r₁₀⟩ := q₁₀
    cases r₁₀ with
    | cons r₁ r₂ =>
    cases r₁; cases r₂
    have gg := g₉.trans g₁₀
    have F₁₀ := F₈.gr gg
    refine ⟨F₁₀.base.trans F₁₀.keep, ?_⟩
    obtain ⟨oe8, ws8, c1, c2⟩ := hex8
    obtain ⟨ot8, nt8, d1, d2⟩ := htu8
    refine PySem.P.str_of_exc_one PySem.F.excStr_TypeError (by have := hA₅.units; omega) ⟨oe8, ws8, gg.keep _ _ c1, c2⟩ ⟨ot8, nt8, gg.keep _ _ d1, d2⟩ ?_
    have hx0' : (setS ((x₀, .res R) :: stoOf ps ds) "error" (.val (.val (.ref e)))).lookup x₀ = some (.res R) := by
      unfold setS delS
      rw [if_neg hx0, List.lookup_cons, show (x₀ == "error") = false from by simpa using hx0]
      dsimp only
      rw [List.lookup_cons, beq_self_eq_true]
    obtain ⟨fp', fps', O⟩ := F₁₀.opR hx0'
    obtain ⟨mm, hns, _⟩ := O.ns
    have hke : env.scope.kind = .function := by rw [F.scope]; exact F.kind
    refine wpAny_nameGoes (by show env.scope.names.lookup _ = _; rw [F.scope]; exact hloc) hns (by rw [hke]; rfl) fun h₁₁ m₁₁ hn₁₁ hs₁₁ => ?_
    have hLfp : env.locals ∉ fp' := fun q => (List.nodup_cons.mp O.nd).1 (List.mem_append_right _ (List.mem_append_left _ q))
    have hLX : env.locals ∈ X := by
      obtain ⟨_, _, _, h2, _⟩ := F₂.sto
      rw [h2]; exact .head _
    have g02 := g.trans g₂
    have hLn : ∀ b o, s.heap.get? b = some o → b ≠ env.locals := fun b o e' q => by rw [q, hnl] at e'; cases e'
    have hlate : ∀ b o, b ∉ X → h₇.get? b = some o → h₁₁.get? b = some o := fun b o hb e' => (hs₁₁.2 b fun q => hb (q ▸ hLX)).trans (gg.keep _ _ (t₈.keep b o hb e'))
    have halive : ∀ b o, s.heap.get? b = some o → ∃ o', h₇.get? b = some o' := fun b o e' => by
      have e2 := g02.keep _ _ e'
      by_cases q : b ∈ (env :: l).filterMap (·.frame)
      · obtain ⟨sl, e3⟩ := sl₇.up b o q e2; exact ⟨_, e3⟩
      · exact ⟨o, sl₇.keep b o q e2⟩
    have hXs : ∀ b o, s.heap.get? b = some o → b ∉ fp → b ∉ X := fun b o e' hb hx => by
      rcases hXc b hx with q | q
      · rw [q] at e'; cases e'
      · exact hb q
    have hmem : ∀ b o, s.heap.get? b = some o → (b ∈ (env :: l).filterMap (·.frame) ↔ b ∈ l.filterMap (·.frame)) := fun b o e' => by
      rw [List.filterMap_cons, hf]
      exact ⟨fun q => (List.mem_cons.mp q).resolve_left (hLn b o e'), fun q => .tail _ q⟩
    refine ⟨tk, fp', rfl, ⟨fun b o hb1 hb2 e' => ?_, fun b o hb1 hb2 e' => ?_, ?_, ?_, ?_, fun b hb => ?_, fun b hb o e' => ?_⟩, ?_, O.fpN⟩
    · exact hlate b o (hXs b o e' hb1) (sl₇.keep b o (fun q => hb2 ((hmem b o e').mp q)) (g02.keep _ _ e'))
    · obtain ⟨sl, e3⟩ := sl₇.up b o ((hmem b o e').mpr hb1) (g02.keep _ _ e')
      exact ⟨sl, hlate b _ (hXs b o e' hb2) e3⟩
    · exact Nat.le_trans g02.tok (Nat.le_trans sl₇.tok (Nat.le_trans t₈.tok (Nat.le_trans gg.tok (Nat.le_succ _))))
    · exact (gg.gens.trans t₈.gens).trans (sl₇.gens.trans g02.gens)
    · exact (gg.os.trans t₈.os).trans (sl₇.os.trans g02.os)
    · rcases t₈.new b (O.fpX b hb) with q | q
      · exact (hXc b q).symm
      · refine .inr ?_
        cases e' : s.heap.get? b with
        | none => rfl
        | some o => obtain ⟨o', e3⟩ := halive b o e'; rw [show h₇.get? b = Option.none from q] at e3; cases e3
    · obtain ⟨o', e3⟩ := halive b o e'
      obtain ⟨o8, e8⟩ := t₈.live b (hfX b hb) o' e3
      exact ⟨o8, (hs₁₁.2 b (hLn b o e')).trans (gg.keep _ _ e8)⟩
    · exact R.keep _ _ _ O.p fun b hb o e' => (hs₁₁.2 b fun q => hLfp (q ▸ hb)).trans e'
  cases r' with
  | true =>
    refine wpAny_execs_cons (wpAny_Expr_any (wpAny_mono hrun (fun _ _ q => q.elim) fun ev s₃ fly => ?_) hint (hsw1 env))
    refine wpAny_mono (main ev s₃ fly) (fun _ s₄ q => wpAny_mono q (fun _ s₅ q => wpAny_mono q (fun f s' q => ?_) fun _ _ q => q.elim) fun _ _ q => q.elim) fun _ _ q => q.elim
    obtain ⟨tk, fp', rfl, q1, q2, q3⟩ := q
    exact fun _ => ⟨fp', q1, q2, q3, .str _ _⟩
  | false =>
    refine wpAny_execs_cons (wpAny_Expr_any (wpAny_mono hrun (fun _ _ q => q.elim) fun ev s₃ fly => ?_) hint (hsw2 env))
    refine wpAny_mono (main ev s₃ fly) (fun _ s₄ q => wpAny_mono q (fun _ s₅ q => wpAny_mono q (fun f s' q => ?_) fun _ _ q => q.elim) fun _ _ q => q.elim) fun _ _ q => q.elim
    obtain ⟨tk, fp', rfl, q1, q2, q3⟩ := q
    exact fun _ => ⟨fp', q1, q2, q3, .str _ _⟩
end
end Mine
namespace Mine
section
variable {c : Cx} {n : Nat} {K : Frag} {C : Addr} {W : WA} {k : Nat} {σ : WS}

/-- a method of the writer -/
theorem WR.meth (Y : WC c K C) {y : String} {f : Addr} (hy : y ∈ wMethods) (hf : findIn K (.ref C) (Str.ofString y) = some (some (.ref f))) (ht : typeIn K (.ref f) = some (.type "function")) (A : Around) (s : Shared) (fp : List Addr) (pl : Sem Bool) (E : Value → Shared → Prop) (Q : Value × List Value → Shared → Prop)
    (hb : Keeps c.base s.heap) (hP : (WR c C W k σ).P fp s.heap) (h : Q (.ref f, [(WR c C W k σ).v]) s) : wpAny c.M A (getMethod (WR c C W k σ).v (Str.ofString y) pl) Q E s := by
  obtain ⟨rfl, hP⟩ := hP
  obtain ⟨m, I, wf⟩ := hP.inst
  exact get_meth (Y.X.keeps hb) Y.ok I hf ht (wf.meths y hy) h

/-- what is known of a method -/
structure Mth (c : Cx) (K : Frag) (C : Addr) (y : String) (f : Addr) : Prop where
  mem : y ∈ wMethods
  find : findIn K (.ref C) (Str.ofString y) = some (some (.ref f))
  type : typeIn K (.ref f) = some (.type "function")
  cal : Callee c (.ref f)

structure B11 (c : Cx) : Prop where
  ty : c.mg (Str.ofString "TypeError") = none ∧ c.mb (Str.ofString "TypeError") = some (.type "TypeError")
  str : c.mg (Str.ofString "str") = none ∧ c.mb (Str.ofString "str") = some (.type "str")

noncomputable abbrev sc11 (i : Nat) : Scope := scAt p11 i
noncomputable abbrev bd11 (i : Nat) : List Stmt := bodyAt p11 i

theorem refused_pi {a f : Addr} {d : D} {σ' : WS} (Y : WC c K C) (M : Mth c K C "pi" f) (hd : IsDef c a (sc11 12) ["writer", "kind", "what"] (bd11 12)) (h : FnP c n (.ref f) (WR c C W k σ) [sd (cs "t"), d] (WR c C W k σ') .none) :
    FnP c (n + 1) (.ref a) (WR c C W k σ) [sd (cs "pi"), d] (WR c C W k σ') (sd []) := by
  refine FnP.def hd rfl ?_
  refine .step (.try (.last (.ite (.cmp (.name rfl) .lit .eqS) (fun hb => .last (.methP (R' := WR c C W k σ') rfl rfl M.cal (WR.meth Y M.mem M.find M.type) (.cons .lit (.cons (.name rfl) .nil)) h rfl)) (fun hb => nomatch hb)))) ?_
  exact .last (.ret .lit ⟨.inl rfl, .cons rfl .nil⟩)

theorem refused_com {a f : Addr} {d : D} {σ' : WS} (Y : WC c K C) (M : Mth c K C "comment" f) (hd : IsDef c a (sc11 12) ["writer", "kind", "what"] (bd11 12)) (h : FnP c n (.ref f) (WR c C W k σ) [d] (WR c C W k σ') .none) :
    FnP c (n + 1) (.ref a) (WR c C W k σ) [sd (cs "comment"), d] (WR c C W k σ') (sd []) := by
  refine FnP.def hd rfl ?_
  refine .step (.try (.last (.ite (.cmp (.name rfl) .lit .eqS) (fun hb => absurd hb (by decide)) (fun hb => .last (.methP (R' := WR c C W k σ') rfl rfl M.cal (WR.meth Y M.mem M.find M.type) (.cons (.name rfl) .nil) h rfl))))) ?_
  exact .last (.ret .lit ⟨.inl rfl, .cons rfl .nil⟩)

theorem refused_pi_x {a f : Addr} {d : D} {m : List Nat} (hn : c.hn) (Y : WC c K C) (B : B11 c) (M : Mth c K C "pi" f) (hd : IsDef c a (sc11 12) ["writer", "kind", "what"] (bd11 12)) (h : FnXP c n (.ref f) (WR c C W k σ) [sd (cs "t"), d] "TypeError" m) :
    FnQ c (n + 1) (.ref a) (WR c C W k σ) [sd (cs "pi"), d] m :=
  refused_fn (b := true) hn hd.toIsDefL rfl (.to (.cmp (.name rfl) .lit .eqS) rfl) (.methP rfl M.cal (WR.meth Y M.mem M.find M.type) (.cons .lit (.cons (.name rfl) .nil)) h) B.ty B.str rfl rfl rfl (fun _ => rfl) (fun _ => rfl) (by decide)

theorem refused_com_x {a f : Addr} {d : D} {m : List Nat} (hn : c.hn) (Y : WC c K C) (B : B11 c) (M : Mth c K C "comment" f) (hd : IsDef c a (sc11 12) ["writer", "kind", "what"] (bd11 12)) (h : FnXP c n (.ref f) (WR c C W k σ) [d] "TypeError" m) :
    FnQ c (n + 1) (.ref a) (WR c C W k σ) [sd (cs "comment"), d] m :=
  refused_fn (b := false) hn hd.toIsDefL rfl (.to (.cmp (.name rfl) .lit .eqS) (by decide)) (.methP rfl M.cal (WR.meth Y M.mem M.find M.type) (.cons (.name rfl) .nil) h) B.ty B.str rfl rfl rfl (fun _ => rfl) (fun _ => rfl) (by decide)
end
end Mine
namespace Mine
theorem sig_join : ∃ sig, Manifest.signature? "str.join" = some sig ∧ ∀ a b : Value, Bind.checkArgs "str.join" { sig with full := toString (Bind.lastOf "str") ++ toString "." ++ toString (Bind.lastOf "str.join") } ⟨[a, b], []⟩ = pure () := by
  rw [signature?_of (id := "str.join") (n := ['n', 'i', 'o', 'j']) (o := ['r', 't', 's']) (by kernel_rfl) PySem.F.owner_str]
  exact ⟨_, rfl, fun a b => by kernel_rfl⟩
theorem kind_join : builtinKind "str.join" = some .method := by decide +kernel

section
variable {prog : Program} {w : World} {A : Around} {E : Value → Shared → Prop} {s : Shared}
noncomputable abbrev boundVal (id : String) (v : Value) : Obj := { cls := .type "builtin_function_or_method", data := .fields #[.builtin id, v] }

theorem check_join {y : PySem.Str} {t : Tok} {x : Value} {Q : Unit → Shared → Prop} (h : Q () s) :
    wpAny (model prog w) A (checkBoundCall "str.join" ⟨[.str y t, x], []⟩) Q E s := by
  have hT : s.TypeIs (.str y t) "str" := typeIs_str _ _ _
  obtain ⟨sig, hs, hc⟩ := sig_join
  unfold checkBoundCall
  rw [hs, kind_join]
  dsimp only
  rw [if_neg (by decide)]
  refine wpAny_bind (wpAny_isInstance (b := false) hT (by rw [isSubtype_type]; kernel_rfl) ?_)
  rw [if_neg (by decide +kernel)]
  refine wpAny_bind ?_
  unfold isType
  refine wpAny_pure ?_
  rw [if_neg (by decide)]
  refine wpAny_bind (wpAny_typeOf hT ?_)
  dsimp only
  rw [hc]
  exact wpAny_pure h

/-- ''.join, bound, is called with a list of texts -/
theorem bound_join {ja la : Addr} {vs : Array Value} {nn : Nat} {ls : List (List Nat)} {t : Tok} {Q : Value → Shared → Prop} (hb : s.heap.get? ja = some (boundVal "str.join" (.str (S []) t))) (ho : s.heap.get? la = some { cls := .type "list", data := .seq vs nn })
    (hs : StrsAre vs.toList (ls.map S)) (hz : ls.flatten.length ≤ 16777216) (hQ : ∀ t' k, Q (.str (S ls.flatten) t') { s with toks := k }) :
    wpAny (model prog w) A (call (.ref ja) [.ref la]) Q E s := by
  refine wpAny_call (codeAny_of_tree ?_)
  show wpAny _ _ (callAny (.ref ja) _) _ _ _
  unfold callAny
  refine wpAny_bind (wpAny_load hb ?_)
  dsimp only
  rw [if_pos (by decide)]
  show wpAny _ _ (if (Value.type "builtin_function_or_method" != Value.type "method") = true then (do checkBoundCall "str.join" ⟨[.str (S []) t, .ref la], []⟩; again (.builtin "str.join" ⟨[.str (S []) t, .ref la], []⟩)) else again (.call (.builtin "str.join") ⟨[.str (S []) t, .ref la], []⟩)) _ _ _
  rw [if_pos (by decide)]
  obtain ⟨l, h1, h2⟩ : ∃ l : List (PySem.Str × Tok), vs.toList = strValues l ∧ l.map (·.1) = ls.map S := by
    clear hb ho hz hQ
    generalize vs.toList = us at hs
    generalize ls.map S = xs at hs
    induction hs with
    | nil => exact ⟨[], rfl, rfl⟩
    | cons x u r ih => obtain ⟨l, e1, e2⟩ := ih; exact ⟨(x, u) :: l, by rw [e1]; rfl, by rw [← e2]; rfl⟩
  have hok : JoinOk (S []) (ls.map S) := by
    unfold JoinOk
    rw [Bool.not_eq_true', StrLaws.joinTotal]
    unfold Builtin.Str.tooLong
    rw [sizeLine_eq]
    have e : ((ls.map S).map (·.length)).sum = ls.flatten.length := by
      rw [List.map_map, List.length_flatten]
      congr 1
    rw [e, S_length]
    simp only [List.length_nil, Nat.mul_zero, Nat.add_zero]
    exact decide_eq_false (by omega)
  refine wpAny_bind (check_join (wpAny_pure ⟨Code.quiet_builtin _ (by decide +kernel), codeAny_builtin PySem.F.entry_str_join ?_⟩))
  have hq : ∀ t' k, wants Q E (.ok (.ret (.str (Txt.join (S []) (l.map (·.1))) t'))) { s with toks := k } := fun t' k => by
    have : Txt.join (S []) (l.map (·.1)) = S ls.flatten := by rw [h2]; exact (StrLaws.glued_eq_join _ _).trans (join_S ls)
    rw [this]; exact hQ t' k
  rw [← h2] at hok
  unfold JoinOk at hok
  rw [Bool.not_eq_true'] at hok
  exact meets_str_join_list (S []) t la l hok prog w _ (wants Q E) s ⟨⟨_, ho, rfl, nn, by rw [← h1]⟩, post_join l ⟨joinFit_length hok, hq⟩⟩
theorem gone_all (f : Nat → Bool) (l : List Value) (k : Nat) (h : ∀ j, k ≤ j → j < k + l.length → f j = true) : ((l.zipIdx k).filterMap fun x => if f x.2 = true then none else some x.1) = [] := by
  induction l generalizing k with
  | nil => rfl
  | cons x l ih =>
    rw [List.zipIdx_cons, List.filterMap_cons]
    dsimp only
    rw [if_pos (h k (Nat.le_refl _) (by simp))]
    exact ih (k + 1) fun j h1 h2 => h j (by omega) (by simp; omega)
theorem upd_empty {l : Addr} {items : Array Value} {nn : Nat} {f : Array Value → Array Value} {Q : Unit → Shared → Prop} (ho : s.heap.get? l = some (listObj items nn)) (hf : f items = #[])
    (hQ : ∀ h' n', h'.get? l = some (listObj #[] n') → Heap.SameBut l s.heap h' → Q () { s with heap := h' }) (hsz : items.size ≤ 16777216) : wpAny (model prog w) A (updateSeq l f) Q E s := by
  obtain ⟨n', hd'⟩ := Obj.data_mapSeq (o := listObj items nn) rfl f
  rw [hf] at hd'
  refine wpAny_updateSeq ho rfl (hQ _ n' ?_ (Heap.SameBut.update ..)) (by rw [sizeLine_eq]; exact hsz) (by rw [hf]; simp)
  rw [Heap.get?_update_self _ ho (Obj.isFreed_of_seq hd')]
  exact congrArg some (obj_eq (Obj.cls_mapSeq ..) ⟨by unfold Obj.mapSeq; rfl, by unfold Obj.mapSeq; rfl⟩ hd')

theorem delAll_wp {l sl : Addr} {items : Array Value} {nn : Nat} {Q : Unit → Shared → Prop} (ho : s.heap.get? l = some (listObj items nn)) (hs : s.heap.IsSliceOf sl .none .none .none)
    (hQ : ∀ h' n', h'.get? l = some (listObj #[] n') → Heap.SameBut l s.heap h' → Q () { s with heap := h' }) (hsz : items.size ≤ 16777216) :
    wpAny (model prog w) A (delItem (.ref l) (.ref sl)) Q E s := by
  have hT : s.TypeIs (.ref l) "list" := ⟨_, ho, rfl⟩
  obtain ⟨os, hos, hcs, hds⟩ := id hs
  have hTs : s.TypeIs (.ref sl) "slice" := ⟨os, hos, hcs⟩
  obtain ⟨n', hd'⟩ := Obj.data_mapSeq (o := listObj items nn) rfl (fun _ => #[])
  refine wpAny_delItem_slot hT (by decide) PySem.F.slot_list_delitem (wpAny_call_entry PySem.F.slot_list_delitem hT PySem.F.entry_list_delitem ?_ (PySem.F.args_list_delitem_2 _ _))
  show wpAny _ _ (Builtin.List.listSubscript? (.ref sl) >>= _) _ _ s
  refine wpAny_bind ?_
  unfold Builtin.List.listSubscript?
  refine wpAny_bind (wpAny_specialOf hTs slice_no_index ?_)
  simp only [Option.isNone_none, if_true]
  refine wpAny_pure ?_
  show wpAny _ _ (typeOf (.ref sl) >>= _) _ _ s
  refine wpAny_bind (wpAny_typeOf hTs ?_)
  rw [if_neg (by decide)]
  rw [listSliceParts_eq]
  refine wpAny_bind (wpAny_bind (wpAny_field hos hds (x := .none) rfl (wpAny_bind (wpAny_listPart .none ?_))))
  rw [if_neg (by decide)]
  refine wpAny_bind (wpAny_field hos hds (x := .none) rfl (wpAny_bind (wpAny_listPart .none ?_)))
  refine wpAny_bind (wpAny_field hos hds (x := .none) rfl (wpAny_bind (wpAny_listPart .none (wpAny_pure ?_))))
  refine wpAny_bind (m := Builtin.List.listItems (.ref l)) ?_
  unfold Builtin.List.listItems
  refine wpAny_bind (wpAny_seqItems ho rfl (wpAny_pure ?_))
  refine wpAny_bind (wpAny_of_eq (sliceIndices_raw none none none items.size (by simp)) ?_)
  have hb : sliceBounds none none none items.size = (((0 : Nat) : Int), (items.size : Int), 1) := by simp [sliceBounds]
  rw [hb]
  refine wpAny_bind (m := Builtin.List.listUpdate (.ref l) _) ?_
  refine upd_empty ho ?_ (fun h' n' hn hs' => wpAny_bind (wpAny_letGo (wpAny_pure ⟨_, rfl, hQ h' n' hn hs'⟩))) hsz
  refine congrArg List.toArray (gone_all _ _ 0 fun j _ hj => ?_)
  show (if (1 : Int) > 0 then (decide (((0 : Nat) : Int) ≤ (j : Int)) && decide ((j : Int) < (items.size : Int)) && (((j : Int) - ((0 : Nat) : Int)) % 1 == 0)) else _) = true
  simp at hj
  rw [if_pos (by decide)]
  simp; omega

/-- a bound built-in in front of the brackets -/
theorem callWith_boundV {pos : Pos} {id : String} {ba : Addr} {bv : Value} {args : List (Bool × Sem Value)} {Q : Value → Shared → Prop} (hplain : args.any (·.1) = false)
    (h : wpAny (model prog w) A (evalArgs (.ref ba) true args []) (fun a s₁ => s₁.heap.get? ba = some (boundVal id bv) ∧ wpAny (model prog w) A (call (.ref ba) a.pos a.kw) Q E s₁) E s) :
    wpAny (model prog w) A (callWith pos (.ref ba) [] args []) Q E s := by
  unfold callWith
  refine wpAny_bind (wpAny_holding (wpAny_mono h (fun a s₁ h₁ => wpAny_bind (wpAny_standAt ?_)) fun _ _ x => x))
  obtain ⟨hb, h₁⟩ := h₁
  simp only [hplain, List.any_nil, Bool.or_false]
  unfold keeperOf
  refine wpAny_bind (wpAny_bind (wpAny_load hb ?_))
  dsimp only
  rw [if_pos (by decide)]
  refine wpAny_pure ?_
  show wpAny _ _ (do let r ← call (.ref ba) ([] ++ a.pos) a.kw; holding [r] point; pure r) _ _ _
  exact wpAny_bind (wpAny_mono h₁ (fun r s₂ hr => wpAny_bind (wpAny_holding (wpAny_point (wpAny_pure hr)))) fun _ _ x => x)
end

section
variable {c : Cx} {n : Nat} {sc : Scope} {ρ : Sto} {K : Frag} {C : Addr} {W : WA} {k : Nat} {σ σ' : WS} {x : String}

/-- join(self._data) -/
theorem Ev.wJoin {kk : Bool} {f : Expr} {ja : Addr} {t : Tok} {xp fp' pos : Pos} (Y : WC c K C) (hx : ρ.lookup x = some (.res (WR c C W k σ))) (hf : Ev c n sc true ρ f (.val (.ref ja))) (hb : c.base.get? ja = some (boundVal "str.join" (.str (S []) t)))
    (hz : σ.data.flatten.length ≤ 16777216) (hxd : x ≠ "__debug__" := by decide)
    (he : ∀ env : Env, eval (.Call f [.Attribute (.Name (Str.ofString x) xp) (Str.ofString "_data") fp'] [] pos) env = (do callWith pos (← eval f env) [] (backTo pos (starEach [.Attribute (.Name (Str.ofString x) xp) (Str.ofString "_data") fp'] env)) (backToKw pos (keywordEach [] env))) := by intro _; rfl) :
    Ev c n sc kk ρ (.Call f [.Attribute (.Name (Str.ofString x) xp) (Str.ofString "_data") fp'] [] pos) (sd σ.data.flatten) := .mk fun A env V0 h0 Cs X s hA F => by
  obtain ⟨fp, fps', O⟩ := F.opR hx
  rw [he]
  refine wpAny_bind (wpAny_mono (hf.run A env V0 h0 Cs X s hA F) (fun fv s₁ q₁ => ?_) fun _ _ q => q.elim)
  obtain ⟨g₁, r₁⟩ := q₁
  cases r₁
  refine callWith_boundV (id := "str.join") (bv := .str (S []) t) (noStar_all rfl) (evalArgs_of rfl (wpAny_mono ((EvL.cons (k := true) (.resFld hx (WR.get Y (y := "_data") (d := .val (.ref W.la)) (by decide) fun m wf => ⟨_, wf.data, rfl, fun _ _ => .val _⟩) hxd) .nil rfl).run A env V0 h0 Cs X s₁ pos hA (F.gr g₁)) (fun vs s₂ q₂ => ?_) fun _ _ q => q.elim))
  obtain ⟨g₂, r₂⟩ := q₂
  cases r₂ with
  | cons rv rn =>
    cases rn; cases rv
    have g := g₁.trans g₂
    have F₂ := F.gr g
    obtain ⟨_, hP⟩ := (O.gr g).p
    obtain ⟨lv, ln, hl, hs⟩ := hP.la
    have hbj := F₂.keep _ _ (F₂.base _ _ hb)
    exact ⟨hbj, wp_gr g (wp_end (bound_join hbj hl hs hz fun t' u => ⟨fun _ _ e => e, rfl, rfl, fun _ => .str _ _⟩))⟩

/-- del self._data[:] -/
theorem Sx.wClear {xp fpos p sp pos : Pos} (Y : WC c K C) (hx : ρ.lookup x = some (.res (WR c C W k σ))) (hz : σ.data.length ≤ 16777216) (hxd : x ≠ "__debug__" := by decide) :
    Sn c n sc ρ (.Delete [.Subscript (.Attribute (.Name (Str.ofString x) xp) (Str.ofString "_data") fpos) (.Slice none none none p) sp] pos) (setS ρ x (.res (WR c C W k { σ with data := [] }))) := .mk fun A env V0 h0 Cs X s hA hO F => by
  obtain ⟨fp, fps', O⟩ := F.opR hx
  refine wpAny_Delete (wpAny_deleteEach_cons (delete_Subscript (Attribute_name (O.load F hxd (wpAny_mono (WR.get Y (y := "_data") (d := .val (.ref W.la)) (by decide) (fun m wf => ⟨_, wf.data, rfl, fun _ _ => .val _⟩) A s fp (F.base.trans F.keep) O.p) (fun lv s₁ q₁ => ?_) fun _ _ q => q.elim)))))
  obtain ⟨g₁, r₁⟩ := q₁
  cases r₁ Vol0
  refine wpAny_Slice (wpAny_evalPart_none (wpAny_evalPart_none (wpAny_evalPart_none ?_)))
  have g : Gr s { s₁ with heap := s₁.heap.push { cls := .type "slice", data := .fields #[.none, .none, .none] } } := g₁.trans (.push _)
  have O₂ := O.gr g
  have F₂ := F.gr g
  have hnd := O.fpN
  obtain ⟨rfl, hP⟩ := O₂.p
  obtain ⟨lv, ln, hl, hs⟩ := hP.la
  refine delAll_wp hl (Heap.IsSliceOf.new ..) (fun h' n' hn hs' => wpAny_deleteEach_nil ?_) (by have := StrsAre.len hs; simp at this; omega)
  have hP' := hP.setLa (σ' := { σ with data := [] }) hnd hs' hn .nil rfl rfl rfl
  obtain ⟨X', t', F'⟩ := O₂.close (s' := { s₁ with heap := h' }) F₂ (R' := WR c C W k { σ with data := [] }) rfl (StpF.one (fr := []) (s := { s₁ with heap := s₁.heap.push { cls := .type "slice", data := .fields #[.none, .none, .none] } }) (by simp [WA.fp]) hs' ⟨_, hn⟩ (Nat.le_refl _)) (fun b hb => nomatch hb) ⟨rfl, hP'⟩ hnd
  exact ⟨X', _, .next, (Stp.of_gr g).trans t', F', .next, rfl, rfl⟩
end
end Mine
namespace Mine

/-- a def's facts from the written heap, with what its call binds -/
theorem IsDefB.of {c : Cx} {K : Frag} {a : Addr} {sc : Scope} {ps : List String} {body : List Stmt} {args : Args} {vs : List Value} {oc : Value} {od : Option Addr} {fd : FuncData} {osl : Array (Option Value)} (X : K.In c.base) (ho : K.lookup a = some ⟨oc, od, .func fd, osl⟩)
    (hb : fd.body = .stmts body) (hs : fd.scope = sc) (hc : fd.closure = []) (hg : fd.globals = mainGlobals) (hbl : fd.builtins = builtinsNs) (hcd : codeIn K fd.code fd.qualname = true)
    (hbind : ∀ S, peek K S (bindArgs fd args) = some (bindsOf ps vs)) (kinds : ∀ p ∈ ps, CanStore sc p) (nodup : ps.Nodup) (cnd : ((cellsFrom 0 sc.names []).map (·.1)).Nodup) (co : sc.isCoroutine = false) (gen : sc.isGenerator = false) (kind : sc.kind = .function)
    (nofree : sc.names.all (fun p => p.2 != .free) = true) : IsDefB c a sc ps body args vs :=
  ⟨⟨_, fd, X _ _ ho, rfl, hb, hs, hc, hg, hbl, codeRec_of X hcd, fun s hk => kp_binds (X.keeps hk) hbind⟩, kinds, nodup, cnd, co, gen, kind, fun x hx => by
    have := List.all_eq_true.mp nofree _ (mem_lookup hx)
    simp at this⟩

section
variable {c : Cx} {n : Nat} {K : Frag} {C : Addr} {W : WA} {k : Nat} {σ : WS}

/-- _flush: the texts are forgotten -/
theorem flush_fn {a ja : Addr} {t : Tok} (Y : WC c K C) (hd : ∀ v, IsDefB c a (msc 5) ["self", "_join_text"] (mbd 5) ⟨[v], []⟩ [v, .ref ja]) (hnl : ¬ c.lsc (msc 5)) (hb : c.base.get? ja = some (boundVal "str.join" (.str (S []) t))) (hz : σ.data.flatten.length ≤ 16777216) (hz2 : σ.data.length ≤ 16777216) :
    FnP c (n + 1) (.ref a) (WR c C W k σ) [] (WR c C W k { σ with data := [] }) .none := .mk fun A V s vs fp hA hS hfV hfn hfb hP r => by
  cases r
  refine FnP.runB (args := ⟨[.ref W.wa], []⟩) (vs := [.ref ja]) (ds := [.val (.ref ja)]) (hd _) hnl rfl ?_ hA hS hfV hfn hfb hP (.cons (.val _) .nil)
  refine .step (.assign (.wJoin Y rfl (.name rfl) hb hz) (.inl rfl)) ?_
  refine .step (.wClear Y rfl hz2) ?_
  refine .step (.ite (.boolop (.and (b := false) (.val (.wStrip Y rfl) TruR.bool) fun q => nomatch q)) (fun hb => nomatch hb) (fun _ => .nil ⟨rfl, rfl⟩)) ?_
  refine .step (.ite (.cmp (.wPend Y rfl) .none (.isntN (b := false) (.inl ⟨rfl, rfl⟩))) (fun hb => nomatch hb) (fun _ => .nil ⟨rfl, rfl⟩)) ?_
  refine Tr.cons (P₁ := fun af ρ' => af = .next ∧ SubS [("self", .res (WR c C W k { σ with data := [] }))] ρ') ?_ (fun ρ' q => .nil ⟨.inr ⟨rfl, fun _ h => nomatch h⟩, q.2⟩) (fun af ρ' h q => absurd q.1 h)
  refine .ite (.boolop (.and (.val (.name rfl) (TruR.text hz)) fun _ => .and (b := false) (.val (.wSeen Y rfl) TruR.bool) fun q => nomatch q)) (fun hb => by simp at hb) (fun _ => .nil ⟨rfl, .cons rfl .nil⟩)

/-- start_ns -/
theorem startns_off {a : Addr} {d₁ d₂ : D} (Y : WC c K C) (hd : IsDef c a (msc 6) ["self", "prefix", "uri"] (mbd 6)) (h : 0 < σ.depth) : FnP c (n + 1) (.ref a) (WR c C W k σ) [d₁, d₂] (WR c C W k σ) .none := by
  refine FnP.def hd rfl ?_
  refine Tr.cons (P₁ := fun af ρ' => af = .ret .none ∧ SubS [("self", .res (WR c C W k σ))] ρ') ?_ (fun ρ' q => nomatch q.1) (fun af ρ' h q => ⟨.inl q.1, q.2⟩)
  refine .ite (.val (.wDepth Y rfl) TruR.int) (fun hb => .last (.ret0 ⟨rfl, .cons rfl .nil⟩)) (fun hb => ?_)
  simp at hb; omega
theorem startns_on {a f : Addr} {d₁ d₂ : D} (Y : WC c K C) (M : Mth c K C "_flush" f) (hd : IsDef c a (msc 6) ["self", "prefix", "uri"] (mbd 6)) (h0 : σ.depth = 0) (hz : σ.data.length ≤ 16777216) (hk : k ≤ 100000)
    (hf : FnP c n (.ref f) (WR c C W k σ) [] (WR c C W k { σ with data := [] }) .none) : FnP c (n + 1) (.ref a) (WR c C W k σ) [d₁, d₂] (WR c C W (k + 1) { σ with data := [] }) .none := by
  refine FnP.def hd rfl ?_
  refine .step (.ite (.val (.wDepth Y rfl) TruR.int) (fun hb => ?_) (fun hb => .nil ⟨rfl, rfl⟩)) ?_
  · rw [h0] at hb; cases hb
  refine Tr.cons (P₁ := fun af ρ' => af = .next ∧ SubS [("self", .res (WR c C W k { σ with data := [] })), ("prefix", .val d₁), ("uri", .val d₂)] ρ') ?_ (fun ρ' q => ?_) (fun af ρ' h q => absurd q.1 h)
  · refine .ite (.wData Y rfl hz) (fun hb => ?_) (fun hb => ?_)
    · exact .step (.methP (R' := WR c C W k { σ with data := [] }) rfl rfl M.cal (WR.meth Y M.mem M.find M.type) .nil hf rfl) (.nil ⟨rfl, .cons rfl (.cons rfl (.cons rfl .nil))⟩)
    · have : σ.data = [] := by simpa using hb
      have e : σ = { σ with data := [] } := by cases σ; simp at this; rw [this]
      rw [← e]
      exact .nil ⟨rfl, .cons rfl (.cons rfl (.cons rfl .nil))⟩
  · refine .ent (.sub q.2) (Tr.cons (P₁ := fun af ρ' => af = .next ∧ SubS [("self", .res (WR c C W (k + 1) { σ with data := [] }))] ρ') ?_ (fun ρ' q => .nil ⟨.inr ⟨rfl, fun _ h => nomatch h⟩, q.2⟩) (fun af ρ' h q => absurd q.1 h))
    exact Sx.mono (.wStack Y rfl (.tuple (.cons (.name rfl) (.cons (.name rfl) .nil)) (by rw [sizeLine_eq]; simp)) hk) fun af ρ' q => ⟨q.1, q.2 ▸ .cons rfl .nil⟩
end
end Mine
set_option maxRecDepth 100000
namespace Mine
theorem slot_md_get : PySem.Slot "method_descriptor" "__get__" "method_descriptor.__get__" :=
  .of (owner := "method_descriptor") (n := "__get__") (by rw [typeLookup_type, builtinLookup_eq_fast]; kernel_rfl) (by decide +kernel) (by decide +kernel) (by decide +kernel)
    (by first | exact .inl (by decide +kernel) | exact .inr (by decide +kernel)) (by rw [isSubtype_type]; kernel_rfl)
theorem entry_md_get : entryFor table "method_descriptor.__get__" = some Builtin.«method_descriptor.__get__» := entryFor_of_tree (by kernel_rfl)
theorem args_md_get (a b c : Value) : argsOk "method_descriptor.__get__" ⟨[a, b, c], []⟩ := by unfold argsOk; kernel_rfl
theorem md_set_none : typeLookup (.type "method_descriptor") "__set__" = pure none := by rw [typeLookup_type, builtinLookup_eq_fast]; kernel_rfl
theorem md_del_none : typeLookup (.type "method_descriptor") "__delete__" = pure none := by rw [typeLookup_type, builtinLookup_eq_fast]; kernel_rfl
theorem cut_append : "list.append".cutAt '.' = ["list", "append"] := by decide +kernel
theorem sub_append : isSubtype (.type "list") (.type (".".intercalate ("list.append".cutAt '.').dropLast)) = pure true := by
  rw [cut_append, isSubtype_type]; kernel_rfl
section
variable {prog : Program} {w : World} {A : Around} {E : Value → Shared → Prop} {h : Heap} {g : Array GenState} {d : Drawn} {t : Nat} {os : OsState} {a : Addr} {o : Obj}
theorem append_get {R : Result → Shared → Prop} (hx : h.get? a = some o) (hc : o.cls = .type "list") (hq : R (.ok (.ret (.ref h.objs.size))) ⟨h.push (boundObj "list.append" a), g, d, t, os⟩) :
    codeAny (model prog w) A (.call (.builtin "method_descriptor.__get__") ⟨[.builtin "list.append", .ref a, .type "list"], []⟩) R ⟨h, g, d, t, os⟩ := by
  have hT : (⟨h, g, d, t, os⟩ : Shared).TypeIs (.ref a) "list" := ⟨_, hx, hc⟩
  have hT5 : (⟨h, g, d, t, os⟩ : Shared).TypeIs (.builtin "list.append") "method_descriptor" := PySem.F.type_list_append
  refine codeAny_call_builtin slot_md_get.plain entry_md_get (slot_md_get.check _ _ _ _ _ _ _ _ hT5 (args_md_get _ _ _) ?_)
  have f8 := sub_append
  repeat (any_goals (first | assumption | wp_step))

theorem append_entry {tk : Tok} {xs : Array Value} {k : Nat} {Q : Fin → Shared → Prop} (hx : h.get? a = some { cls := .type "list", dict := none, data := .seq xs k, slots := #[] }) (hq : Q (.done (.ret (.ref h.objs.size))) ⟨h.push (boundObj "list.append" a), g, d, t, os⟩) :
    wpAny (model prog w) A (Builtin.«object.__getattribute__» ⟨[.ref a, .str "append" tk], []⟩) Q E ⟨h, g, d, t, os⟩ := by
  have hT : (⟨h, g, d, t, os⟩ : Shared).TypeIs (.ref a) "list" := ⟨_, hx, rfl⟩
  have hT5 : (⟨h, g, d, t, os⟩ : Shared).TypeIs (.builtin "list.append") "method_descriptor" := PySem.F.type_list_append
  have f5 := PySem.F.type_list_append
  have f4 := PySem.F.slot_list_append.lookup
  have f6 := slot_md_get.lookup
  have f7 := md_set_none
  have f8 := md_del_none
  repeat (any_goals (first | assumption | wp_step))
  refine append_get hx rfl ?_
  repeat (any_goals (first | assumption | wp_step))

theorem getAttr_append {expr : Bool} {xs : Array Value} {k : Nat} {Q : Value → Shared → Prop} (hx : h.get? a = some { cls := .type "list", dict := none, data := .seq xs k, slots := #[] })
    (hq : Q (.ref h.objs.size) ⟨h.push (boundObj "list.append" a), g, d, t + 1, os⟩) : wpAny (model prog w) A (getAttr (.ref a) "append" expr) Q E ⟨h, g, d, t, os⟩ := by
  have hT : ∀ tk', (⟨h, g, d, tk', os⟩ : Shared).TypeIs (.ref a) "list" := fun _ => ⟨_, hx, rfl⟩
  have f3 := PySem.F.slot_list_getattribute.lookup
  have f4 := PySem.F.slot_list_getattribute.bind (.ref a)
  have f5 := am_list_getattr_none
  cases expr <;> unfold getAttr getAttrBy <;>
  repeat (any_goals (first | assumption | exact hT _ | ((with_reducible show wpAny _ _ (call (Value.builtin "list.__getattribute__") _ _) _ _ _); refine wpAny_call_entry PySem.F.slot_list_getattribute (hT _) am_entry_list_getattribute (append_entry hx ⟨_, rfl, wpAny_pure hq⟩) (PySem.F.args_list_getattribute_2 _ _)) | wp_step))
end
end Mine
set_option maxRecDepth 100000
namespace Mine
section
variable {prog : Program} {w : World} {A : Around} {E : Value → Shared → Prop} {s : Shared}

/-- the set of one text, filled by the loop -/
theorem setLoop_one {R : Result → Shared → Prop} {S I l : Addr} {x : PySem.Str} {t : Tok} {n : Nat} (hh : A.handled = none) (hl : s.heap.get? l = some (listObj #[.str x t] n)) (hI : s.heap.IsListIter I l 0) (hSI : S ≠ I) (hSl : S ≠ l) (hIl : l ≠ I)
    (hS : s.heap.SetOf (strKind prog w) S (fun _ => false) 0)
    (hR : ∀ h' tk, h'.SetOf (strKind prog w) S (fun y => y == x) 1 → (∀ b o, b ≠ S → b ≠ I → s.heap.get? b = some o → h'.get? b = some o) → R (.ok (.ret .none)) { s with heap := h', toks := tk }) :
    codeAny (model prog w) A (.builtin "set.update.loop" ⟨[.ref S, .ref I], []⟩) R s := by
  refine codeAny_builtin PyProof.Rows.F.entry_set_update_loop ?_
  rw [Around.under_plainId PyProof.Rows.F.plain_set_update_loop _]
  show wpAny _ A.in1 (pyNext (.ref I) >>= _) _ _ s
  refine wpAny_bind (wpAny_pyNext_list_item hI ⟨_, hl, rfl, n, rfl⟩ (x := .str x t) rfl fun h₁ hI₁ hs₁ => ?_)
  show wpAny _ A.in1 (holding [Value.str x t] (setAdd S (.str x t)) >>= _) _ _ _
  refine wpAny_bind (wpAny_holding ?_)
  unfold setAdd
  refine wpAny_holding ?_
  refine wpAny_bind ((strKind prog w).pyHash (k := x) (strKind_is _ _ _ _) ?_)
  have hS₁ : h₁.SetOf (strKind prog w) S (fun _ => false) 0 := by
    obtain ⟨o, es, ep, tb, ho, r⟩ := hS
    exact ⟨o, es, ep, tb, (hs₁.2 S hSI).trans ho, r⟩
  refine wpAny_setAddHashed_of (knd := strKind prog w) (s := { s with heap := h₁, toks := s.toks + 1 }) (strKind_is _ _ _ _) rfl hS₁ (by decide) fun h₂ hs₂ hS₂ => ?_
  refine wpAny_pure ⟨plainId_quiet PyProof.Rows.F.plain_set_update_loop _, codeAny_builtin PyProof.Rows.F.entry_set_update_loop ?_⟩
  rw [Around.under_plainId PyProof.Rows.F.plain_set_update_loop _]
  show wpAny _ A.in1 (pyNext (.ref I) >>= _) _ _ _
  have hI₂ : h₂.IsListIter I l 1 := by
    obtain ⟨o, e, r⟩ := hI₁
    exact ⟨o, (hs₂.2 I hSI.symm).trans e, r⟩
  have hl₂ : h₂.get? l = some (listObj #[.str x t] n) := (hs₂.2 l hSl.symm).trans ((hs₁.2 l hIl).trans hl)
  refine wpAny_bind (wpAny_pyNext_list_end (s := { s with heap := h₂, toks := s.toks + 1 }) hh hI₂ ⟨_, hl₂, rfl, n, rfl⟩ rfl fun h₃ hs₃ => ?_)
  show wpAny _ A.in1 (ret Value.none) _ _ _
  refine wpAny_pure (hR h₃ _ ?_ fun b o h1 h2 e => ?_)
  · obtain ⟨o, es, ep, tb, ho, r1, r2, r3, r4, r5⟩ := hS₂
    refine ⟨o, es, ep, tb, hs₃ S o hSI ho, r1, r2, r3, fun k => ?_, ?_⟩
    · rw [← r4 k]; simp
    · simpa using r5
  · exact (hs₃ b o h2 ((hs₂.2 b h1).trans ((hs₁.2 b h2).trans e)))

set_option maxHeartbeats 3200000 in
/-- set([x]) -/
theorem set_one {l : Addr} {x : PySem.Str} {t : Tok} {n : Nat} {Q : Value → Shared → Prop} (hh : A.handled = none) (hl : s.heap.get? l = some (listObj #[.str x t] n))
    (h : ∀ h' tk, h'.SetOf (strKind prog w) s.heap.objs.size (fun y => y == x) 1 → Keeps s.heap h' → Q (.ref s.heap.objs.size) { s with heap := h', toks := tk }) :
    wpAny (model prog w) A (call (.type "set") [.ref l]) Q E s := by
  obtain ⟨c, tl, hmro⟩ := PySem.F.called_set.mro
  have hmade := PySem.F.called_set.made
  have hsub := PySem.F.called_set.sub
  refine wpAny_call (codeAny_of_tree ?_)
  show wpAny _ _ (callAny (.type "set") _) _ _ _
  refine wpAny_pure ⟨Code.quiet_builtin _ (by decide +kernel), codeAny_builtin PySem.F.entry_type_call ?_⟩
  rw [Around.under_plain (weight_type_call_type "set" [.ref l] []) rfl]
  have h1 := PySem.F.called_set.notType
  have h2 := PySem.F.called_set.canCreate
  have hct := PySem.F.typeCall_set_1 (.ref l)
  repeat (any_goals (first | assumption | wp_step))
  refine codeAny_mono (code_set_new_1 (.ref l) (E := E) (Q₁ := fun obj s₁ => ∃ led : Bool, obj = .ref s.heap.objs.size ∧ s₁ = { s with heap := s.heap.push { cls := .type "set", dict := none, data := .set #[] 0 (.fresh 0 0 led) } }) fun led => ⟨led, rfl, rfl⟩) fun r s₁ hr => ?_
  rcases r with e | (obj | _ | _ | _) <;> first | exact hr | exact hr.elim | skip
  obtain ⟨led, rfl, rfl⟩ := hr
  have hS : (s.heap.push { cls := .type "set", dict := none, data := .set #[] 0 (.fresh 0 0 led) }).get? s.heap.objs.size = some { cls := .type "set", dict := none, data := .set #[] 0 (.fresh 0 0 led) } := Heap.get?_push_size _ rfl
  have hT : Shared.TypeIs { s with heap := s.heap.push { cls := .type "set", dict := none, data := .set #[] 0 (.fresh 0 0 led) } } (.ref s.heap.objs.size) "set" := ⟨_, hS, rfl⟩
  have hli := PySem.F.called_set.init.lookup
  have hbi := PySem.F.called_set.init.bind (.ref s.heap.objs.size)
  repeat (any_goals (first | assumption | wp_step))
  refine codeAny_mono (codeAny_call_builtin (R := wants (fun r s₂ => r = .none ∧ ∃ h' tk, s₂ = { s with heap := h', toks := tk } ∧ h'.SetOf (strKind prog w) s.heap.objs.size (fun y => y == x) 1 ∧ Keeps s.heap h') E) PySem.F.called_set.init.plain PySem.F.entry_set_init (check_set_init_1 hT ?_)) fun r₂ s₂ hr₂ => ?_
  · have hlS : l < s.heap.objs.size := Heap.lt_size hl
    have hl' : (s.heap.push { cls := .type "set", dict := none, data := .set #[] 0 (.fresh 0 0 led) }).get? l = some (listObj #[.str x t] n) := Heap.get?_push_of_some _ hl
    have hsls := PySem.F.sub_list_set
    have hslf := PySem.F.sub_list_frozenset
    have hne : (Value.type "list" == Value.type "dict") = false := by decide
    have hl1 : (s.heap.push { cls := .type "set", dict := none, data := .set #[] 0 (.fresh 0 0 led) }).IsList l #[.str x t] := ⟨_, hl', rfl, n, rfl⟩
    unfold Builtin.«set.__init__» noKeywords Builtin.Frozenset.updateFrom
    generalize hPI : pyIter = PI
    wp_walk
    subst hPI
    refine wpAny_pyIter_list hl1 ?_
    refine wpAny_bind (wpAny_runValue ?_)
    refine setLoop_one (n := n) (t := t) (x := x) hh (Heap.get?_push_of_some _ hl') ⟨_, Heap.get?_push_size _ rfl, rfl, rfl⟩ ?_ (Nat.ne_of_gt hlS) ?_ ?_ fun h' tk hS' hk => ?_
    · show s.heap.objs.size ≠ (s.heap.push { cls := .type "set", dict := none, data := .set #[] 0 (.fresh 0 0 led) }).objs.size
      rw [Heap.size_push]; exact Nat.ne_of_lt (Nat.lt_succ_self _)
    · show l ≠ (s.heap.push { cls := .type "set", dict := none, data := .set #[] 0 (.fresh 0 0 led) }).objs.size
      rw [Heap.size_push]; exact Nat.ne_of_lt (Nat.lt_succ_of_lt hlS)
    · exact SetOf_congr ((setObjOf_fresh (knd := strKind prog w) led).setOf (Heap.get?_push_of_some _ hS) (by unfold scanBound; omega)) (fun _ => rfl) rfl
    · show wpAny _ _ _ _ _ _
      refine wpAny_pure ?_
      show wpAny _ _ (ret Value.none) _ _ _
      refine wpAny_pure ⟨rfl, h', tk, rfl, hS', fun b o e => hk b o (Nat.ne_of_lt (Heap.lt_size e)) ?_ (Heap.get?_push_of_some _ (Heap.get?_push_of_some _ e))⟩
      show b ≠ (s.heap.push { cls := .type "set", dict := none, data := .set #[] 0 (.fresh 0 0 led) }).objs.size
      rw [Heap.size_push]; exact Nat.ne_of_lt (Nat.lt_succ_of_lt (Heap.lt_size e))
  · rcases r₂ with e | (v | _ | _ | _) <;> first | exact hr₂ | exact hr₂.elim | skip
    obtain ⟨rfl, h', tk, rfl, hS', hk'⟩ := hr₂
    repeat (any_goals (first | assumption | wp_step))
    exact h _ _ hS' hk'
end
end Mine
namespace Mine

/-- an instance that is being filled: its fields, and some objects that only it holds -/
noncomputable def IR (C x dx : Addr) (k : Nat) (fl : List (String × Value)) (objs : List (Addr × Obj)) : Res where
  v := .ref x
  P fp h := fp = x :: dx :: objs.map (·.1) ∧ (∃ m, Inst h x C dx m k ∧ ∀ y : String, m (Str.ofString y) = fl.lookup y) ∧ ∀ p ∈ objs, h.get? p.1 = some p.2 ∧ ∀ v, p.2.data ≠ .cell v
  live fp h q a ha := by
    obtain ⟨rfl, ⟨m, ⟨i1, ⟨es, ep, i2, _⟩⟩, _⟩, ho⟩ := q
    simp only [List.mem_cons, List.mem_map] at ha
    rcases ha with rfl | rfl | ⟨p, hp, rfl⟩
    · exact ⟨_, i1⟩
    · exact ⟨_, i2⟩
    · exact ⟨_, (ho p hp).1⟩
  nocell fp h q a ha o v e := by
    obtain ⟨rfl, ⟨m, ⟨i1, ⟨es, ep, i2, _⟩⟩, _⟩, ho⟩ := q
    simp only [List.mem_cons, List.mem_map] at ha
    rcases ha with rfl | rfl | ⟨p, hp, rfl⟩
    · rw [i1] at e; cases e; exact fun q => nomatch q
    · rw [i2] at e; cases e; exact fun q => nomatch q
    · rw [(ho p hp).1] at e; cases e; exact (ho p hp).2 v
  keep fp h h' q hk := by
    obtain ⟨rfl, ⟨m, ⟨i1, i2⟩, hm⟩, ho⟩ := q
    exact ⟨rfl, ⟨m, ⟨hk x (by simp) _ i1, i2.keeps (hk dx (by simp))⟩, hm⟩, fun p hp => ⟨hk p.1 (by simp; exact .inr (.inr ⟨p.2, hp⟩)) _ (ho p hp).1, (ho p hp).2⟩⟩

/-- d is written in the value itself -/
noncomputable def D.hard : D → Bool
  | .none | .bool _ | .int _ | .str _ | .bytes _ | .val _ => true
  | _ => false
inductive Fixed (c : Cx) : D → Value → Prop
  | none : Fixed c .none .none
  | bool (b) : Fixed c (.bool b) (.bool b)
  | int (i t) : Fixed c (.int i) (.int i t)
  | str (x t) : Fixed c (.str x) (.str x t)
  | bytes (b t) : Fixed c (.bytes b) (.bytes (b.map UInt8.ofNat).toArray t)
  | val (v) : Fixed c (.val v) v
theorem Rep.fixed {c : Cx} {V : Addr → Prop} {s : Shared} {d : D} {v : Value} (r : Rep c V s d v) (h : d.hard = true) : Fixed c d v := by
  cases r <;> first | (cases h; done) | constructor

section
variable {c : Cx} {n : Nat} {sc : Scope} {ρ : Sto}
/-- e has a value, which one does not matter -/
structure EvE (c : Cx) (n : Nat) (sc : Scope) (ρ : Sto) (e : Expr) : Prop where
  run : ∀ A env V0 h0 Cs X s, Room c n A → Fm c sc env V0 h0 Cs X ρ s → wpAny c.M A (eval e env) (fun v s' => Gr s s') (fun _ _ => False) s
theorem EvE.of {k : Bool} {e : Expr} {d : D} (h : Ev c n sc k ρ e d) : EvE c n sc ρ e := .mk fun A env V0 h0 Cs X s hA F => wpAny_mono (h.run A env V0 h0 Cs X s hA F) (fun _ _ q => q.1) fun _ _ q => q
/-- e gives a new object -/
structure EvN (c : Cx) (n : Nat) (sc : Scope) (ρ : Sto) (e : Expr) (Po : Obj → Prop) : Prop where
  run : ∀ A env V0 h0 Cs X s, Room c n A → Fm c sc env V0 h0 Cs X ρ s →
    wpAny c.M A (eval e env) (fun v s' => Gr s s' ∧ ∃ a o, v = .ref a ∧ s.heap.get? a = none ∧ s'.heap.get? a = some o ∧ (∀ v, o.data ≠ .cell v) ∧ Po o) (fun _ _ => False) s
theorem EvN.nil {pos : Pos} : EvN c n sc ρ (.List [] pos) (fun o => o = listObj #[] 0) := .mk fun A env V0 h0 Cs X s hA F => by
  refine wpAny_List (wpAny_mono ((EvL.nil (c := c) (n := n) (sc := sc) (k := true) (ρ := ρ)).run A env V0 h0 Cs X s pos hA F) (fun vs s₁ q => ?_) fun _ _ q => q)
  obtain ⟨g, r⟩ := q
  cases r
  refine ⟨Nat.zero_le _, g.trans (.push _), s₁.heap.objs.size, _, rfl, ?_, Heap.get?_push_size _ rfl, (fun v q => (nomatch q)), rfl⟩
  cases e : s.heap.get? s₁.heap.objs.size with
  | none => rfl
  | some o => have := g.keep _ _ e; rw [get_size] at this; cases this
theorem EvN.iteT {t a b : Expr} {pos : Pos} {Po : Obj → Prop} (h : Tst c n sc ρ t true) (ha : EvN c n sc ρ a Po) : EvN c n sc ρ (.IfExp t a b pos) Po := .mk fun A env V0 h0 Cs X s hA F =>
  wpAny_IfExp (wpAny_mono (h.run A env V0 h0 Cs X s hA F) (fun r s' q => by
    obtain ⟨g, rfl⟩ := q
    refine wpAny_mono (ha.run A env V0 h0 Cs X s' hA (F.gr g)) (fun v s₂ q₂ => ?_) fun _ _ q => q
    obtain ⟨g₂, a, o, e1, e2, e3⟩ := q₂
    refine ⟨g.trans g₂, a, o, e1, ?_, e3⟩
    cases e : s.heap.get? a with
    | none => rfl
    | some o => rw [g.keep _ _ e] at e2; cases e2) fun _ _ q => q.elim)

section
variable {K : Frag} {C xa dx : Addr} {k : Nat} {fl : List (String × Value)} {objs : List (Addr × Obj)} {x y : String} {env : Env} {V0 : Addr → Prop} {h0 : Heap} {Cs : List (Str × Addr)} {X : List Addr} {s : Shared}

theorem fl_upd {m : Str → Option Value} {v : Value} (hm : ∀ z : String, m (Str.ofString z) = fl.lookup z) (z : String) : upd m (Str.ofString y) v (Str.ofString z) = ((y, v) :: fl).lookup z := by
  unfold upd
  by_cases q : z = y
  · subst q; rw [if_pos rfl]; simp
  · rw [if_neg fun e => q (ofString_inj e), hm, List.lookup_cons, show (z == y) = false from by simpa using q]

/-- self.y = e -/
theorem Sx.iSet {e : Expr} {d : D} {xp ap pos : Pos} (XK : K.In c.base) (OK : ClsOk K C) (hx : ρ.lookup x = some (.res (IR C xa dx k fl objs))) (he : Ev c n sc true ρ e d) (hty : takerIn K C (Str.ofString y) = some none) (hk : k ≤ 100000) (hxd : x ≠ "__debug__" := by decide)
    (hsw : ∀ env : Env, swapsWith e (some (.Attribute (.Name (Str.ofString x) xp) (Str.ofString y) ap)) pos.line env = pure false := by intro _; rfl) :
    Sx c n sc ρ (.Assign [.Attribute (.Name (Str.ofString x) xp) (Str.ofString y) ap] e pos) fun af ρ' => af = .next ∧ ∃ v, (d.hard = true → Fixed c d v) ∧ ρ' = setS ρ x (.res (IR C xa dx (k + 1) ((y, v) :: fl) objs)) := .mk fun A env V0 h0 Cs X s hA hO F => by
  refine plainObj_wpAny_Assign_Attribute (wpAny_mono (he.run A env V0 h0 Cs X s hA F) (fun v s₁ q₁ => ?_) fun _ _ q => q.elim) (hsw env)
  obtain ⟨g₁, r₁⟩ := q₁
  have F₁ := F.gr g₁
  obtain ⟨fp, fps', O⟩ := F₁.opR hx
  refine O.load F₁ hxd ?_
  have hnd := O.fpN
  obtain ⟨rfl, ⟨m, I, hm⟩, ho⟩ := O.p
  refine wpAny_with_toks (Nat.le_refl _) (set_field (XK.keeps (F₁.base.trans F₁.keep)) OK I hty hk fun h' tk hn hs htk => ?_)
  have hnd' := List.nodup_cons.mp hnd
  have hxdx : xa ≠ dx := fun q => hnd'.1 (q ▸ .head _)
  have hP' : (IR C xa dx (k + 1) ((y, v) :: fl) objs).P (xa :: dx :: objs.map (·.1)) h' :=
    ⟨rfl, ⟨_, ⟨(hs.2 _ hxdx).trans I.at', hn⟩, fl_upd hm⟩, fun p hp => ⟨(hs.2 _ fun q => (List.nodup_cons.mp hnd'.2).1 (q ▸ List.mem_map_of_mem hp)).trans (ho p hp).1, (ho p hp).2⟩⟩
  obtain ⟨es, ep, hda, _⟩ := hn
  obtain ⟨X', t', F'⟩ := O.close (s' := { s₁ with heap := h', toks := tk }) F₁ (R' := IR C xa dx (k + 1) ((y, v) :: fl) objs) rfl (StpF.one (fr := []) (by simp) hs ⟨_, hda⟩ htk) (fun b hb => nomatch hb) hP' hnd
  exact ⟨X', _, .next, (Stp.of_gr g₁).trans t', F', .next, rfl, v, fun hh => r₁.fixed hh, rfl⟩

/-- self.y = e, where e gives a new object that only self holds -/
theorem Sx.iNew {e : Expr} {Po : Obj → Prop} {xp ap pos : Pos} (XK : K.In c.base) (OK : ClsOk K C) (hx : ρ.lookup x = some (.res (IR C xa dx k fl objs))) (he : EvN c n sc ρ e Po) (hty : takerIn K C (Str.ofString y) = some none) (hk : k ≤ 100000) (hxd : x ≠ "__debug__" := by decide)
    (hsw : ∀ env : Env, swapsWith e (some (.Attribute (.Name (Str.ofString x) xp) (Str.ofString y) ap)) pos.line env = pure false := by intro _; rfl) :
    Sx c n sc ρ (.Assign [.Attribute (.Name (Str.ofString x) xp) (Str.ofString y) ap] e pos) fun af ρ' => af = .next ∧ ∃ a o, Po o ∧ ρ' = setS ρ x (.res (IR C xa dx (k + 1) ((y, .ref a) :: fl) ((a, o) :: objs))) := .mk fun A env V0 h0 Cs X s hA hO F => by
  obtain ⟨fp, fps', O⟩ := F.opR hx
  refine plainObj_wpAny_Assign_Attribute (wpAny_mono (he.run A env V0 h0 Cs X s hA F) (fun v s₁ q₁ => ?_) fun _ _ q => q.elim) (hsw env)
  obtain ⟨g₁, a, o, rfl, han, hao, hac, hPo⟩ := q₁
  have F₁ := F.gr g₁
  have O₁ := O.gr g₁
  refine O₁.load F₁ hxd ?_
  have hnd := O.fpN
  obtain ⟨rfl, ⟨m, I, hm⟩, ho⟩ := O₁.p
  refine wpAny_with_toks (Nat.le_refl _) (set_field (XK.keeps (F₁.base.trans F₁.keep)) OK I hty hk fun h' tk hn hs htk => ?_)
  have hnd' := List.nodup_cons.mp hnd
  have hxdx : xa ≠ dx := fun q => hnd'.1 (q ▸ .head _)
  have hfl := (IR C xa dx k fl objs).live _ _ O.p
  have haf : a ∉ xa :: dx :: objs.map (·.1) := fun q => by obtain ⟨o', e⟩ := hfl a q; rw [han] at e; cases e
  have hadx : a ≠ dx := fun q => haf (q ▸ .tail _ (.head _))
  have hax : a ≠ xa := fun q => haf (q ▸ .head _)
  have hP' : (IR C xa dx (k + 1) ((y, .ref a) :: fl) ((a, o) :: objs)).P (xa :: dx :: a :: objs.map (·.1)) h' := by
    refine ⟨rfl, ⟨_, ⟨(hs.2 _ hxdx).trans I.at', hn⟩, fl_upd hm⟩, fun p hp => ?_⟩
    rcases List.mem_cons.mp hp with rfl | hp
    · exact ⟨(hs.2 _ hadx).trans hao, hac⟩
    · exact ⟨(hs.2 _ fun q => (List.nodup_cons.mp hnd'.2).1 (q ▸ List.mem_map_of_mem hp)).trans (ho p hp).1, (ho p hp).2⟩
  have hn' : (xa :: dx :: a :: objs.map (·.1)).Nodup := by
    simp only [List.nodup_cons, List.mem_cons, not_or] at hnd haf ⊢
    exact ⟨⟨hnd.1.1, fun q => haf.1 q.symm, hnd.1.2⟩, ⟨fun q => haf.2.1 q.symm, hnd.2.1⟩, haf.2.2, hnd.2.2⟩
  obtain ⟨es, ep, hda, _⟩ := hn
  have t : StpF [] (xa :: dx :: objs.map (·.1)) s (xa :: dx :: a :: objs.map (·.1)) { s₁ with heap := h', toks := tk } := by
    refine ⟨fun b ob hb _ e => (hs.2 b fun q => hb (q ▸ .tail _ (.head _))).trans (g₁.keep _ _ e), (fun b o hb => (nomatch hb)), Nat.le_trans g₁.tok htk, g₁.gens, g₁.os, fun b hb => ?_, fun b hb ob e => ?_⟩
    · simp only [List.mem_cons] at hb ⊢
      rcases hb with q | q | q | q
      · exact .inl (.inl q)
      · exact .inl (.inr (.inl q))
      · exact .inr (q ▸ han)
      · exact .inl (.inr (.inr q))
    · by_cases q : b = dx
      · exact ⟨_, q ▸ hda⟩
      · exact ⟨ob, (hs.2 b q).trans (g₁.keep _ _ e)⟩
  obtain ⟨X', t', F'⟩ := O.close (s' := { s₁ with heap := h', toks := tk }) F (R' := IR C xa dx (k + 1) ((y, .ref a) :: fl) ((a, o) :: objs)) rfl t (fun b hb => nomatch hb) hP' hn'
  exact ⟨X', _, .next, t', F', .next, rfl, a, o, hPo, rfl⟩

/-- a field -/
theorem IR.get {v : Value} (XK : K.In c.base) (OK : ClsOk K C) (hf : findIn K (.ref C) (Str.ofString y) = some none) (hv : fl.lookup y = some v) (hh : handedIn v = true) (A : Around) (s : Shared) (fp : List Addr) (hb : Keeps c.base s.heap) (hP : (IR C xa dx k fl objs).P fp s.heap) :
    wpAny c.M A (getAttr (IR C xa dx k fl objs).v (Str.ofString y) true) (fun v' s' => Gr s s' ∧ v' = v) (fun _ _ => False) s := by
  obtain ⟨rfl, ⟨m, I, hm⟩, ho⟩ := hP
  exact get_field (XK.keeps hb) OK I hf ((hm y).trans hv) hh ⟨Gr.toks (Nat.le_succ _), rfl⟩

/-- self.y.append(e): the list is the newest object -/
theorem Sx.iApp {e : Expr} {a : Addr} {vs : Array Value} {nn : Nat} {xp fpos ap pos epos : Pos} (XK : K.In c.base) (OK : ClsOk K C) (hx : ρ.lookup x = some (.res (IR C xa dx k fl ((a, listObj vs nn) :: objs)))) (he : EvE c n sc ρ e) (hf : findIn K (.ref C) (Str.ofString y) = some none) (hv : fl.lookup y = some (.ref a)) (hz : vs.size ≤ 100) 
    (hp : plainE e = true := by rfl) (hline : (ap.endLine == pos.line) = true := by rfl) (hxd : x ≠ "__debug__" := by decide)
    (hbase : ∀ env : Env, attributeBase (.Attribute (.Name (Str.ofString x) xp) (Str.ofString y) fpos) (Str.ofString "append") env (eval (.Attribute (.Name (Str.ofString x) xp) (Str.ofString y) fpos) env) = eval (.Attribute (.Name (Str.ofString x) xp) (Str.ofString y) fpos) env := by intro _; rfl)
    (hsw : ∀ env : Env, swapsWith (.Call (.Attribute (.Attribute (.Name (Str.ofString x) xp) (Str.ofString y) fpos) (Str.ofString "append") ap) [e] [] pos) none epos.line env = pure false := by intro _; rfl) :
    Sx c n sc ρ (.Expr (.Call (.Attribute (.Attribute (.Name (Str.ofString x) xp) (Str.ofString y) fpos) (Str.ofString "append") ap) [e] [] pos) epos) fun af ρ' => af = .next ∧ ∃ v n', ρ' = setS ρ x (.res (IR C xa dx k fl ((a, listObj (vs.push v) n') :: objs))) := .mk fun A env V0 h0 Cs X s hA hO F => by
  obtain ⟨fp, fps', O⟩ := F.opR hx
  have hi : interactive env = false := by
    unfold interactive
    rw [F.scope, F.kind]; rfl
  refine wpAny_Expr_any ?_ hi (hsw env)
  refine wpAny_Call_method (T := "list") (id := "list.append") (hbase env) ?_ hline PySem.F.plainAttrs_list PySem.F.slot_list_append PySem.F.type_list_append ?_
  · rw [starEach_cons hp]; rfl
  refine Attribute_name (O.load F hxd (wpAny_mono (IR.get XK OK hf hv rfl A s fp (F.base.trans F.keep) O.p) (fun lv s₁ q₁ => ?_) fun _ _ q => q.elim))
  obtain ⟨g₁, rfl⟩ := q₁
  have ha₁ := ((O.gr g₁).p.2.2 _ (.head _)).1
  refine ⟨⟨_, ha₁, rfl⟩, fun b hb => by cases hb; exact ⟨_, ha₁, rfl⟩, (Callee.builtin (c := c) "list.append").wp (first := [.ref a]) (by simp [hp]) ?_⟩
  refine wpAny_items_cons (wpAny_mono (he.run A env V0 h0 Cs X s₁ hA (F.gr g₁)) (fun v s₂ g₂' => wpAny_items_nil ?_) fun _ _ q => q.elim) (starEach_cons hp)
  have g := g₁.trans g₂'
  have O₂ := O.gr g
  have F₂ := F.gr g
  have hnd := O.fpN
  refine ⟨F₂.base.trans F₂.keep, ?_⟩
  obtain ⟨rfl, hI, ho⟩ := O₂.p
  refine append_wp (ho _ (.head _)).1 rfl ⟨rfl, rfl⟩ rfl (fun h' o' n' ho' hc' hd' hdt' hs' => ?_) (by omega)
  have ho'' : h'.get? a = some (listObj (vs.push v) n') := by rw [ho']; exact congrArg some (obj_eq hc' hd' hdt')
  have hnd' := hnd
  simp only [List.map_cons, List.nodup_cons, List.mem_cons, not_or] at hnd'
  have hP' : (IR C xa dx k fl ((a, listObj (vs.push v) n') :: objs)).P (xa :: dx :: a :: objs.map (·.1)) h' := by
    obtain ⟨m, ⟨i1, i2⟩, hm⟩ := hI
    refine ⟨rfl, ⟨m, ⟨(hs'.2 _ hnd'.1.2.1).trans i1, i2.keeps fun o e => (hs'.2 _ hnd'.2.1.1).trans e⟩, hm⟩, fun p hp => ?_⟩
    rcases List.mem_cons.mp hp with rfl | hp
    · exact ⟨ho'', fun v q => nomatch q⟩
    · exact ⟨(hs'.2 _ fun q => hnd'.2.2.1 (q ▸ List.mem_map_of_mem hp)).trans (ho p (.tail _ hp)).1, (ho p (.tail _ hp)).2⟩
  obtain ⟨X', t', F'⟩ := O₂.close (s' := { s₂ with heap := h' }) F₂ (R' := IR C xa dx k fl ((a, listObj (vs.push v) n') :: objs)) rfl (StpF.one (fr := []) (a := a) (by simp) hs' ⟨_, ho''⟩ (Nat.le_refl _)) (fun b hb => nomatch hb) hP' hnd
  exact ⟨X', _, .next, (Stp.of_gr g).trans t', F', .next, rfl, v, n', rfl⟩
end
end
end Mine
namespace Mine
section
variable {c : Cx} {n : Nat} {sc : Scope} {ρ : Sto} {P : AF → Sto → Prop}

theorem TruR.list {ds : List D} (hz : ds.length ≤ 16777216) : TruR c (.list ds) (!ds.isEmpty) := fun A V s v _ _ r => by
  cases r with
  | @list a o vs nn _ na ho hcl hd hdt r =>
    have hlen := r.length
    refine wp_end (wpAny_truthy_list ⟨o, ho, hcl, nn, hdt⟩ (by simp at hlen; omega) ⟨fun _ _ e => e, rfl, rfl, fun _ => ?_⟩)
    rw [Bool.eq_iff_iff]
    cases ds with
    | nil =>
      have : vs = #[] := by simpa using hlen.symm
      simp [this]
    | cons _ _ =>
      simp at hlen
      simp
      rintro rfl
      simp at hlen

theorem EvE.emptyDict {pos : Pos} : EvE c n sc ρ (.Dict [] [] pos) := .mk fun A env V0 h0 Cs X s hA F => by
  rw [eval_Dict_empty]
  refine wpAny_bind (wpAny_standAt ?_)
  unfold newDict
  exact wpAny_bind (wpAny_alloc (wpAny_pure (.push _)))

/-- list(table.items()) -/
theorem EvE.listItems {na : Addr} {x : String} {p1 p2 p3 p4 p5 : Pos} {kvs : List (Str × Value)} {ep : Nat} (hg : c.mg (Str.ofString x) = some (.ref na)) (hk : sc.names.lookup (Str.ofString x) = some .globalImplicit) (hD : c.base.DictAt (strKind c.prog c.w) na kvs ep) (hl : kvs.length ≤ 100) (hsys : (na == sysModules) = false)
    (hb : c.mg (Str.ofString "list") = none ∧ c.mb (Str.ofString "list") = some (.type "list")) (hkl : sc.names.lookup (Str.ofString "list") = some .globalImplicit) (hn : c.hn) (hline : (p3.endLine == p4.line) = true) (hx : x ≠ "__debug__" := by decide) : 
    EvE c n sc ρ (.Call (.Name (Str.ofString "list") p1) [.Call (.Attribute (.Name (Str.ofString x) p2) (Str.ofString "items") p3) [] [] p4] [] p5) := .mk fun A env V0 h0 Cs X s hA F => by
  have he : eval (.Call (.Name (Str.ofString "list") p1) [.Call (.Attribute (.Name (Str.ofString x) p2) (Str.ofString "items") p3) [] [] p4] [] p5) env = (do callWith p5 (← eval (.Name (Str.ofString "list") p1) env) [] (backTo p5 (starEach [.Call (.Attribute (.Name (Str.ofString x) p2) (Str.ofString "items") p3) [] [] p4] env)) (backToKw p5 (keywordEach [] env))) := rfl
  rw [he]
  refine wpAny_bind (wpAny_mono ((Ev.blt (n := n) (k := true) (ρ := ρ) hb.1 hb.2 hkl).run A env V0 h0 Cs X s hA F) (fun fv s₁ q₁ => ?_) fun _ _ q => q.elim)
  obtain ⟨g₁, r₁⟩ := q₁
  cases r₁
  refine (Callee.type (c := c) "list").wp rfl (wpAny_items_cons ?_ (starEach_cons rfl))
  refine wpAny_Call_method (T := "dict") (id := "dict.items") rfl rfl hline PySem.F.plainAttrs_dict PySem.F.slot_dict_items PySem.F.type_dict_items ?_
  refine wpAny_mono ((Ev.glob (n := n) (k := true) (ρ := ρ) hg hk hx).run A env V0 h0 Cs X s₁ hA (F.gr g₁)) (fun mv s₂ q₂ => ?_) fun _ _ q => q.elim
  obtain ⟨g₂', r₂⟩ := q₂
  cases r₂
  have g₂ := g₁.trans g₂'
  have F₂ := F.gr g₂
  obtain ⟨o, es, ho, hx', hd, hks, hps, hnd⟩ := hD
  have ho₂ := F₂.keep _ _ (F₂.base _ _ ho)
  have hDO : s₂.heap.DictOf (strKind c.prog c.w) na kvs := ⟨o, es, ep, ho₂, hx', hd, hks, hps, hnd⟩
  refine ⟨hDO.typeIs, fun b hb => by cases hb; exact ⟨o, ho₂, hx'.2.1⟩, (Callee.builtin (c := c) "dict.items").wp (first := [.ref na]) rfl ?_⟩
  refine wpAny_items_nil ⟨F₂.base.trans F₂.keep, ?_⟩
  refine call_meetsIn PySem.F.slot_dict_items hDO.typeIs PySem.F.entry_dict_items (PySem.F.args_dict_items_1 _) (meets_dict_items (strKind c.prog c.w) na hsys) ⟨⟨kvs, hDO⟩, ?_⟩
  refine wpAny_items_nil ⟨?_, ?_⟩
  · exact fun b ob e => Heap.get?_push_of_some _ (F₂.keep _ _ (F₂.base _ _ e))
  · have hDA : s₂.heap.DictAt (strKind c.prog c.w) na kvs ep := ⟨o, es, ho₂, hx', hd, hks, hps, hnd⟩
    have g₃ : Gr s₂ { s₂ with heap := s₂.heap.push { cls := .type "dict_items", data := .fields #[.ref na] } } := .push _
    refine wpAny_mono (wp_gr (s := { s₂ with heap := s₂.heap.push { cls := .type "dict_items", data := .fields #[.ref na] } }) (P := fun _ _ => True) (g₂.trans g₃) (wp_end (kdx_call (s := { s₂ with heap := s₂.heap.push { cls := .type "dict_items", data := .fields #[.ref na] } }) (knd := strKind c.prog c.w) (kvs := kvs) (ep := ep) (hA.handled hn) ⟨_, Heap.get?_push_size _ rfl, rfl, rfl⟩ (hDA.push _) (by rw [sizeLine_eq]; omega) fun h' tk acc cc as hk hS hl hG hacc => ?_))) (fun _ _ q => q.1) fun _ _ q => q
    exact ⟨hk, rfl, rfl, fun _ => trivial⟩

/-- set([x]) of a name -/
theorem EvN.setOne {y : String} {p1 p2 p5 : Pos} {x : List Nat} (hb : c.mg (Str.ofString "set") = none ∧ c.mb (Str.ofString "set") = some (.type "set")) (hkl : sc.names.lookup (Str.ofString "set") = some .globalImplicit) (hn : c.hn) (hy : ρ.lookup y = some (.val (.list [sd x]))) (hyd : y ≠ "__debug__" := by decide) :
    EvN c n sc ρ (.Call (.Name (Str.ofString "set") p1) [.Name (Str.ofString y) p2] [] p5) (fun o => ∀ (h : Heap) (a : Addr), h.get? a = some o → h.SetOf (strKind c.prog c.w) a (fun z => z == S x) 1) := .mk fun A env V0 h0 Cs X s hA F => by
  have he : eval (.Call (.Name (Str.ofString "set") p1) [.Name (Str.ofString y) p2] [] p5) env = (do callWith p5 (← eval (.Name (Str.ofString "set") p1) env) [] (backTo p5 (starEach [.Name (Str.ofString y) p2] env)) (backToKw p5 (keywordEach [] env))) := rfl
  rw [he]
  refine wpAny_bind (wpAny_mono ((Ev.blt (n := n) (k := true) (ρ := ρ) hb.1 hb.2 hkl).run A env V0 h0 Cs X s hA F) (fun fv s₁ q₁ => ?_) fun _ _ q => q.elim)
  obtain ⟨g₁, r₁⟩ := q₁
  cases r₁
  refine (Callee.type (c := c) "set").wp rfl (wpAny_mono ((EvL.cons (k := true) (.name hy hyd) .nil).run A env V0 h0 Cs X s₁ p5 hA (F.gr g₁)) (fun vs s₂ q₂ => ?_) fun _ _ q => q.elim)
  obtain ⟨g₂', r₂⟩ := q₂
  have g₂ := g₁.trans g₂'
  have F₂ := F.gr g₂
  refine ⟨F₂.base.trans F₂.keep, ?_⟩
  cases r₂ with
  | cons r rs => cases rs; cases r with
    | @list a o vs nn _ na ho hcl hd hdt r =>
      obtain ⟨vs⟩ := vs
      cases r with
      | cons r rs => cases rs; cases r with
        | str _ t =>
          have ho' : s₂.heap.get? a = some (listObj #[.str (S x) t] nn) := by rw [ho]; exact congrArg some (obj_eq hcl hd hdt)
          refine wpAny_with_toks (Nat.le_refl _) (set_one (hA.handled hn) ho' fun h' tk hS hk ht => ⟨g₂.trans ⟨hk, ht, rfl, rfl⟩, s₂.heap.objs.size, ?_⟩)
          obtain ⟨o, es, ep, tb, e1, e2⟩ := hS
          refine ⟨o, rfl, ?_, e1, fun v q => ?_, fun h b e => ⟨o, es, ep, tb, e, e2⟩⟩
          · cases e : s.heap.get? s₂.heap.objs.size with
            | none => rfl
            | some o => have := g₂.keep _ _ e; rw [get_size] at this; cases this
          · rw [e2.2.1] at q; cases q

section
variable {K : Frag} {C xa dx : Addr} {k : Nat} {fl : List (String × Value)} {objs : List (Addr × Obj)} {x y : String}
/-- self.y = e, any value -/
theorem Sx.iSetE {e : Expr} {xp ap pos : Pos} (XK : K.In c.base) (OK : ClsOk K C) (hx : ρ.lookup x = some (.res (IR C xa dx k fl objs))) (he : EvE c n sc ρ e) (hty : takerIn K C (Str.ofString y) = some none) (hk : k ≤ 100000) (hxd : x ≠ "__debug__" := by decide)
    (hsw : ∀ env : Env, swapsWith e (some (.Attribute (.Name (Str.ofString x) xp) (Str.ofString y) ap)) pos.line env = pure false := by intro _; rfl) :
    Sx c n sc ρ (.Assign [.Attribute (.Name (Str.ofString x) xp) (Str.ofString y) ap] e pos) fun af ρ' => af = .next ∧ ∃ v, ρ' = setS ρ x (.res (IR C xa dx (k + 1) ((y, v) :: fl) objs)) := .mk fun A env V0 h0 Cs X s hA hO F => by
  refine plainObj_wpAny_Assign_Attribute (wpAny_mono (he.run A env V0 h0 Cs X s hA F) (fun v s₁ g₁ => ?_) fun _ _ q => q.elim) (hsw env)
  have F₁ := F.gr g₁
  obtain ⟨fp, fps', O⟩ := F₁.opR hx
  refine O.load F₁ hxd ?_
  have hnd := O.fpN
  obtain ⟨rfl, ⟨m, I, hm⟩, ho⟩ := O.p
  refine wpAny_with_toks (Nat.le_refl _) (set_field (XK.keeps (F₁.base.trans F₁.keep)) OK I hty hk fun h' tk hn hs htk => ?_)
  have hnd' := List.nodup_cons.mp hnd
  have hxdx : xa ≠ dx := fun q => hnd'.1 (q ▸ .head _)
  have hP' : (IR C xa dx (k + 1) ((y, v) :: fl) objs).P (xa :: dx :: objs.map (·.1)) h' :=
    ⟨rfl, ⟨_, ⟨(hs.2 _ hxdx).trans I.at', hn⟩, fl_upd hm⟩, fun p hp => ⟨(hs.2 _ fun q => (List.nodup_cons.mp hnd'.2).1 (q ▸ List.mem_map_of_mem hp)).trans (ho p hp).1, (ho p hp).2⟩⟩
  obtain ⟨es, ep, hda, _⟩ := hn
  obtain ⟨X', t', F'⟩ := O.close (s' := { s₁ with heap := h', toks := tk }) F₁ (R' := IR C xa dx (k + 1) ((y, v) :: fl) objs) rfl (StpF.one (fr := []) (by simp) hs ⟨_, hda⟩ htk) (fun b hb => nomatch hb) hP' hnd
  exact ⟨X', _, .next, (Stp.of_gr g₁).trans t', F', .next, rfl, v, rfl⟩

/-- self.y.append(e), e a new object that only self holds; the list is the newest object -/
theorem Sx.iAppN {e : Expr} {Po : Obj → Prop} {a : Addr} {vs : Array Value} {nn : Nat} {xp fpos ap pos epos : Pos} (XK : K.In c.base) (OK : ClsOk K C) (hx : ρ.lookup x = some (.res (IR C xa dx k fl ((a, listObj vs nn) :: objs)))) (he : EvN c n sc ρ e Po) (hf : findIn K (.ref C) (Str.ofString y) = some none) (hv : fl.lookup y = some (.ref a)) (hz : vs.size ≤ 100) 
    (hp : plainE e = true := by rfl) (hline : (ap.endLine == pos.line) = true := by rfl) (hxd : x ≠ "__debug__" := by decide)
    (hbase : ∀ env : Env, attributeBase (.Attribute (.Name (Str.ofString x) xp) (Str.ofString y) fpos) (Str.ofString "append") env (eval (.Attribute (.Name (Str.ofString x) xp) (Str.ofString y) fpos) env) = eval (.Attribute (.Name (Str.ofString x) xp) (Str.ofString y) fpos) env := by intro _; rfl)
    (hsw : ∀ env : Env, swapsWith (.Call (.Attribute (.Attribute (.Name (Str.ofString x) xp) (Str.ofString y) fpos) (Str.ofString "append") ap) [e] [] pos) none epos.line env = pure false := by intro _; rfl) :
    Sx c n sc ρ (.Expr (.Call (.Attribute (.Attribute (.Name (Str.ofString x) xp) (Str.ofString y) fpos) (Str.ofString "append") ap) [e] [] pos) epos) fun af ρ' => af = .next ∧ ∃ b o n', Po o ∧ ρ' = setS ρ x (.res (IR C xa dx k fl ((b, o) :: (a, listObj (vs.push (.ref b)) n') :: objs))) := .mk fun A env V0 h0 Cs X s hA hO F => by
  obtain ⟨fp, fps', O⟩ := F.opR hx
  have hi : interactive env = false := by
    unfold interactive
    rw [F.scope, F.kind]; rfl
  refine wpAny_Expr_any ?_ hi (hsw env)
  refine wpAny_Call_method (T := "list") (id := "list.append") (hbase env) ?_ hline PySem.F.plainAttrs_list PySem.F.slot_list_append PySem.F.type_list_append ?_
  · rw [starEach_cons hp]; rfl
  refine Attribute_name (O.load F hxd (wpAny_mono (IR.get XK OK hf hv rfl A s fp (F.base.trans F.keep) O.p) (fun lv s₁ q₁ => ?_) fun _ _ q => q.elim))
  obtain ⟨g₁, rfl⟩ := q₁
  have ha₁ := ((O.gr g₁).p.2.2 _ (.head _)).1
  refine ⟨⟨_, ha₁, rfl⟩, fun b hb => by cases hb; exact ⟨_, ha₁, rfl⟩, (Callee.builtin (c := c) "list.append").wp (first := [.ref a]) (by simp [hp]) ?_⟩
  refine wpAny_items_cons (wpAny_mono (he.run A env V0 h0 Cs X s₁ hA (F.gr g₁)) (fun v s₂ q₂ => wpAny_items_nil ?_) fun _ _ q => q.elim) (starEach_cons hp)
  obtain ⟨g₂', b, o, rfl, hbn₁, hbo, hbc, hPo⟩ := q₂
  have g := g₁.trans g₂'
  have O₂ := O.gr g
  have F₂ := F.gr g
  have hnd := O.fpN
  have hbn : s.heap.get? b = none := by
    cases e : s.heap.get? b with
    | none => rfl
    | some o => rw [g₁.keep _ _ e] at hbn₁; cases hbn₁
  have hfl := (IR C xa dx k fl ((a, listObj vs nn) :: objs)).live _ _ O.p
  refine ⟨F₂.base.trans F₂.keep, ?_⟩
  obtain ⟨rfl, hI, ho⟩ := O₂.p
  have hbf : b ∉ xa :: dx :: a :: objs.map (·.1) := fun q => by obtain ⟨o', e⟩ := hfl b q; rw [hbn] at e; cases e
  refine append_wp (ho _ (.head _)).1 rfl ⟨rfl, rfl⟩ rfl (fun h' o' n' ho' hc' hd' hdt' hs' => ?_) (by omega)
  have ho'' : h'.get? a = some (listObj (vs.push (.ref b)) n') := by rw [ho']; exact congrArg some (obj_eq hc' hd' hdt')
  have hnd' := hnd
  simp only [List.map_cons, List.nodup_cons, List.mem_cons, not_or] at hnd'
  have hba : b ≠ a := fun q => hbf (q ▸ .tail _ (.tail _ (.head _)))
  have hP' : (IR C xa dx k fl ((b, o) :: (a, listObj (vs.push (.ref b)) n') :: objs)).P (xa :: dx :: b :: a :: objs.map (·.1)) h' := by
    obtain ⟨m, ⟨i1, i2⟩, hm⟩ := hI
    refine ⟨rfl, ⟨m, ⟨(hs'.2 _ hnd'.1.2.1).trans i1, i2.keeps fun o e => (hs'.2 _ hnd'.2.1.1).trans e⟩, hm⟩, fun p hp => ?_⟩
    rcases List.mem_cons.mp hp with rfl | hp
    · exact ⟨(hs'.2 _ hba).trans hbo, hbc⟩
    · rcases List.mem_cons.mp hp with rfl | hp
      · exact ⟨ho'', fun v q => nomatch q⟩
      · exact ⟨(hs'.2 _ fun q => hnd'.2.2.1 (q ▸ List.mem_map_of_mem hp)).trans (ho p (.tail _ hp)).1, (ho p (.tail _ hp)).2⟩
  have hn' : (xa :: dx :: b :: a :: objs.map (·.1)).Nodup := by
    simp only [List.nodup_cons, List.mem_cons, not_or, List.map_cons] at hnd hbf ⊢
    exact ⟨⟨hnd.1.1, fun q => hbf.1 q.symm, hnd.1.2⟩, ⟨fun q => hbf.2.1 q.symm, hnd.2.1⟩, hbf.2.2, hnd.2.2⟩
  have t : StpF [] (xa :: dx :: a :: objs.map (·.1)) s (xa :: dx :: b :: a :: objs.map (·.1)) { s₂ with heap := h' } := by
    refine ⟨fun b' ob hb _ e => (hs'.2 b' fun q => hb (q ▸ .tail _ (.tail _ (.head _)))).trans (g.keep _ _ e), (fun b o hb => (nomatch hb)), g.tok, g.gens, g.os, fun b' hb => ?_, fun b' hb ob e => ?_⟩
    · simp only [List.mem_cons] at hb ⊢
      rcases hb with q | q | q | q
      · exact .inl (.inl q)
      · exact .inl (.inr (.inl q))
      · exact .inr (q ▸ hbn)
      · exact .inl (.inr (.inr q))
    · by_cases q : b' = a
      · exact ⟨_, q ▸ ho''⟩
      · exact ⟨ob, (hs'.2 b' q).trans (g.keep _ _ e)⟩
  obtain ⟨X', t', F'⟩ := O.close (s' := { s₂ with heap := h' }) F (R' := IR C xa dx k fl ((b, o) :: (a, listObj (vs.push (.ref b)) n') :: objs)) rfl t (fun b hb => nomatch hb) hP' hn'
  exact ⟨X', _, .next, t', F', .next, rfl, b, o, n', hPo, rfl⟩
end
end
end Mine
namespace Mine
section
variable {c : Cx} {n : Nat} {sc : Scope} {ρ : Sto} {P : AF → Sto → Prop}
theorem Tr.stepX {st : Stmt} {rest : List Stmt} {Q : Sto → Prop} (h : Sx c n sc ρ st fun af ρ' => af = .next ∧ Q ρ') (k : ∀ ρ', Q ρ' → Tr c n sc ρ' rest P) : Tr c n sc ρ (st :: rest) P :=
  .cons h (fun ρ' q => k ρ' q.2) fun af ρ' ho q => absurd q.1 ho

end

noncomputable def initNames : List String := ["_write", "_data", "_with_comments", "_strip_text", "_exclude_attrs", "_exclude_tags", "_rewrite_prefixes", "_qname_aware_tags", "_find_qname_aware_attrs", "_declared_ns_stack", "_ns_stack", "_prefix_map", "_preserve_space", "_pending_start", "_root_seen", "_root_done", "_ignored_depth"]
noncomputable def initPars : List String := ["write", "with_comments", "strip_text", "rewrite_prefixes", "qname_aware_tags", "qname_aware_attrs", "exclude_attrs", "exclude_tags"]

/-- what __init__ leaves -/
structure Inited (c : Cx) (C xa dx ba : Addr) (wished : Bool) (R' : Res) : Prop where
  ex : ∃ (fl : List (String × Value)) (la na ta sa : Addr) (v : Value) (n1 : Nat) (so : Obj) (t : Tok), R' = IR C xa dx 17 fl [(ta, listObj #[] 0), (na, listObj #[v, .ref ta] n1), (sa, so), (la, listObj #[] 0)] ∧
    (∀ (h : Heap) (a : Addr), h.get? a = some so → h.SetOf (strKind c.prog c.w) a (fun z => z == S (cs "x")) 1) ∧
    fl.lookup "_write" = some (.ref ba) ∧ fl.lookup "_data" = some (.ref la) ∧ fl.lookup "_with_comments" = some (.bool wished) ∧ fl.lookup "_strip_text" = some (.bool false) ∧ fl.lookup "_exclude_tags" = some (.ref sa) ∧ fl.lookup "_ns_stack" = some (.ref na) ∧
    fl.lookup "_pending_start" = some .none ∧ fl.lookup "_root_seen" = some (.bool false) ∧ fl.lookup "_root_done" = some (.bool false) ∧ fl.lookup "_ignored_depth" = some (.int 0 t) ∧ ∀ x ∈ wMethods, fl.lookup x = none

section
variable {c : Cx} {n : Nat} {K : Frag} {C : Addr}
theorem init_tr {xa dx ba na : Addr} {wished : Bool} {kvs : List (Str × Value)} {ep : Nat} (hn : c.hn) (XK : K.In c.base) (OK : ClsOk K C) (hfl : ∀ y ∈ initNames, findIn K (.ref C) (Str.ofString y) = some none)
    (hg : c.mg (Str.ofString "_namespace_map") = some (.ref na)) (hD : c.base.DictAt (strKind c.prog c.w) na kvs ep) (hl : kvs.length ≤ 100) (hsys : (na == sysModules) = false)
    (hb : c.mg (Str.ofString "list") = none ∧ c.mb (Str.ofString "list") = some (.type "list")) (hb2 : c.mg (Str.ofString "set") = none ∧ c.mb (Str.ofString "set") = some (.type "set")) :
    Tr c n (msc 0) (("self", .res (IR C xa dx 0 [] [])) :: stoOf initPars [.val (.ref ba), .bool wished, .bool false, .bool false, .none, .none, .none, .list [sd (cs "x")]]) (mbd 0)
      fun af ρ' => (∀ d', af ≠ .ret d') ∧ ∃ R', Inited c C xa dx ba wished R' ∧ SubS [("self", .res R')] ρ' := by
  have ht : ∀ y ∈ initNames, takerIn K C (Str.ofString y) = some none := fun y hy => by unfold takerIn; rw [hfl y hy]; rfl
  refine .stepX (.iSet XK OK rfl (.name rfl) (ht "_write" (by decide)) (by decide)) ?_
  rintro _ ⟨v1, h1, rfl⟩
  cases h1 rfl
  refine .stepX (.iNew XK OK rfl .nil (ht "_data" (by decide)) (by decide)) ?_
  rintro _ ⟨la, _, rfl, rfl⟩
  refine .stepX (.iSet XK OK rfl (.name rfl) (ht "_with_comments" (by decide)) (by decide)) ?_
  rintro _ ⟨v2, h2, rfl⟩
  cases h2 rfl
  refine .stepX (.iSet XK OK rfl (.name rfl) (ht "_strip_text" (by decide)) (by decide)) ?_
  rintro _ ⟨v3, h3, rfl⟩
  cases h3 rfl
  refine .stepX (.iSetE XK OK rfl (.of (k := true) (d := .none) (.ite (.val (.name rfl) TruR.none) (fun q => nomatch q) fun _ => .none)) (ht "_exclude_attrs" (by decide)) (by decide)) ?_
  rintro _ ⟨v4, rfl⟩
  refine .stepX (.iNew XK OK rfl (.iteT (.to (.val (.name rfl) (TruR.list (by decide))) rfl) (.setOne hb2 rfl hn rfl)) (ht "_exclude_tags" (by decide)) (by decide)) ?_
  rintro _ ⟨sa, so, hso, rfl⟩
  refine .stepX (.iSet XK OK rfl (.name rfl) (ht "_rewrite_prefixes" (by decide)) (by decide)) ?_
  rintro _ ⟨v5, h5, rfl⟩
  refine .stepX (.ite (.val (.name rfl) TruR.none) (fun q => nomatch q) fun _ => .last (.iSet XK OK rfl .none (ht "_qname_aware_tags" (by decide)) (by decide))) ?_
  rintro _ ⟨v6, h6, rfl⟩
  refine .stepX (.ite (.val (.name rfl) TruR.none) (fun q => nomatch q) fun _ => .last (.iSet XK OK rfl .none (ht "_find_qname_aware_attrs" (by decide)) (by decide))) ?_
  rintro _ ⟨v7, h7, rfl⟩
  refine .stepX (.iSetE XK OK rfl (.of (k := true) (.list (.cons (.list (.cons (.tuple (.cons .lit (.cons .lit .nil)) (by rw [sizeLine_eq]; simp)) .nil) (by rw [sizeLine_eq]; simp)) .nil) (by rw [sizeLine_eq]; simp))) (ht "_declared_ns_stack" (by decide)) (by decide)) ?_
  rintro _ ⟨v8, rfl⟩
  refine .stepX (.iNew XK OK rfl .nil (ht "_ns_stack" (by decide)) (by decide)) ?_
  rintro _ ⟨na', _, rfl, rfl⟩
  refine .stepX (.ite (.not (.val (.name rfl) TruR.bool)) (fun _ => .last (.iApp XK OK rfl (.listItems hg rfl hD hl hsys hb rfl hn rfl) (hfl "_ns_stack" (by decide)) rfl (by decide))) fun q => nomatch q) ?_
  rintro _ ⟨v9, n9, rfl⟩
  refine .stepX (.iAppN XK OK rfl .nil (hfl "_ns_stack" (by decide)) rfl (by simp)) ?_
  rintro _ ⟨ta, _, n10, rfl, rfl⟩
  refine .stepX (.iSetE XK OK rfl .emptyDict (ht "_prefix_map" (by decide)) (by decide)) ?_
  rintro _ ⟨v11, rfl⟩
  refine .stepX (.iSetE XK OK rfl (.of (k := true) (.list (.cons .bool .nil) (by rw [sizeLine_eq]; simp))) (ht "_preserve_space" (by decide)) (by decide)) ?_
  rintro _ ⟨v12, rfl⟩
  refine .stepX (.iSet XK OK rfl .none (ht "_pending_start" (by decide)) (by decide)) ?_
  rintro _ ⟨v13, h13, rfl⟩
  cases h13 rfl
  refine .stepX (.iSet XK OK rfl .bool (ht "_root_seen" (by decide)) (by decide)) ?_
  rintro _ ⟨v14, h14, rfl⟩
  cases h14 rfl
  refine .stepX (.iSet XK OK rfl .bool (ht "_root_done" (by decide)) (by decide)) ?_
  rintro _ ⟨v15, h15, rfl⟩
  cases h15 rfl
  refine .stepX (.iSet XK OK rfl .int (ht "_ignored_depth" (by decide)) (by decide)) ?_
  rintro _ ⟨v16, h16, rfl⟩
  cases h16 rfl with
  | int _ t =>
  refine .nil ⟨(fun _ q => (nomatch q)), _, ⟨_, la, na', ta, sa, v9, n10, so, t, rfl, hso, rfl, rfl, rfl, rfl, rfl, rfl, rfl, rfl, rfl, rfl, ?_⟩, .cons rfl .nil⟩
  intro x hx
  simp only [wMethods, List.mem_cons, List.not_mem_nil, or_false] at hx
  rcases hx with rfl | rfl | rfl | rfl | rfl | rfl | rfl <;> rfl
end
end Mine
namespace Mine

/-- a list of texts at a known place -/
noncomputable def PR (pa : Addr) (items : List (List Nat)) : Res where
  v := .ref pa
  P fp h := fp = [pa] ∧ ∃ vs n, h.get? pa = some (listObj vs n) ∧ StrsAre vs.toList (items.map S)
  live fp h x a ha := by obtain ⟨rfl, vs, n, e, _⟩ := x; exact ⟨_, List.mem_singleton.mp ha ▸ e⟩
  nocell fp h x a ha o v e := by obtain ⟨rfl, vs, n, e', _⟩ := x; rw [List.mem_singleton.mp ha, e'] at e; cases e; exact fun q => nomatch q
  keep fp h h' x hk := by obtain ⟨rfl, vs, n, e, r⟩ := x; exact ⟨rfl, vs, n, hk pa (.head _) _ e, r⟩

/-- the writer but for the list that it writes to -/
noncomputable abbrev WA.fq (W : WA) : List Addr := [W.wa, W.da, W.la, W.na, W.ta, W.ba, W.xa]
structure WPq (prog : Program) (w : World) (C : Addr) (W : WA) (k : Nat) (σ : WS) (h : Heap) : Prop where
  inst : ∃ m, Inst h W.wa C W.da m k ∧ WF W σ m
  ba : h.get? W.ba = some (boundObj "list.append" W.pa)
  la : ∃ vs n, h.get? W.la = some (listObj vs n) ∧ StrsAre vs.toList (σ.data.map S)
  na : ∃ v n, h.get? W.na = some (listObj #[v, .ref W.ta] n)
  ta : ∃ vs n, h.get? W.ta = some (listObj vs n) ∧ vs.size ≤ k
  xa : h.SetOf (strKind prog w) W.xa (fun y => y == Str.ofString "x") 1
theorem WPq.keep {prog : Program} {w : World} {C : Addr} {W : WA} {k : Nat} {σ : WS} {h h' : Heap} (x : WPq prog w C W k σ h) (hk : ∀ a ∈ W.fq, ∀ o, h.get? a = some o → h'.get? a = some o) : WPq prog w C W k σ h' := by
  obtain ⟨⟨m, ⟨i1, i2⟩, wf⟩, hb, ⟨lv, ln, hl, ls⟩, ⟨nv, nn, hn⟩, ⟨tv, tn, ht, tz⟩, ⟨o, es, ep, t, ho, r⟩⟩ := x
  exact ⟨⟨m, ⟨hk W.wa (by simp [WA.fq]) _ i1, i2.keeps (hk W.da (by simp [WA.fq]))⟩, wf⟩, hk W.ba (by simp [WA.fq]) _ hb, ⟨lv, ln, hk W.la (by simp [WA.fq]) _ hl, ls⟩, ⟨nv, nn, hk W.na (by simp [WA.fq]) _ hn⟩, ⟨tv, tn, hk W.ta (by simp [WA.fq]) _ ht, tz⟩, ⟨o, es, ep, t, hk W.xa (by simp [WA.fq]) _ ho, r⟩⟩
theorem WPq.live {prog : Program} {w : World} {C : Addr} {W : WA} {k : Nat} {σ : WS} {h : Heap} (x : WPq prog w C W k σ h) : ∀ a ∈ W.fq, ∃ o, h.get? a = some o ∧ ∀ v, o.data ≠ .cell v := by
  obtain ⟨⟨m, ⟨i1, ⟨es, ep, i2, _⟩⟩, wf⟩, hb, ⟨lv, ln, hl, ls⟩, ⟨nv, nn, hn⟩, ⟨tv, tn, ht, tz⟩, ⟨o, es', ep', t, ho, hx, hd, r⟩⟩ := x
  intro a ha
  simp only [WA.fq, List.mem_cons, List.not_mem_nil, or_false] at ha
  rcases ha with rfl | rfl | rfl | rfl | rfl | rfl | rfl
  · exact ⟨_, i1, fun v q => nomatch q⟩
  · exact ⟨_, i2, fun v q => nomatch q⟩
  · exact ⟨_, hl, fun v q => nomatch q⟩
  · exact ⟨_, hn, fun v q => nomatch q⟩
  · exact ⟨_, ht, fun v q => nomatch q⟩
  · exact ⟨_, hb, fun v q => nomatch q⟩
  · exact ⟨_, ho, fun v q => by rw [hd] at q; cases q⟩
noncomputable def WQ (c : Cx) (C : Addr) (W : WA) (k : Nat) (σ : WS) : Res where
  v := .ref W.wa
  P fp h := fp = W.fq ∧ WPq c.prog c.w C W k σ h
  live fp h x a ha := by obtain ⟨rfl, x⟩ := x; obtain ⟨o, e, _⟩ := x.live a ha; exact ⟨o, e⟩
  nocell fp h x a ha o v e := by obtain ⟨rfl, x⟩ := x; obtain ⟨o', e', hn⟩ := x.live a ha; rw [e] at e'; cases e'; exact hn v
  keep fp h h' x hk := by obtain ⟨rfl, x⟩ := x; exact ⟨rfl, x.keep hk⟩

section
variable {c : Cx} {n : Nat} {sc : Scope} {ρ : Sto} {P : AF → Sto → Prop}

/-- an own list becomes a list of texts at a known place -/
theorem Tr.ofOwn {x : String} {ss : List Stmt} (hx : ρ.lookup x = some (.own [])) (h : ∀ pa, Tr c n sc (setS ρ x (.res (PR pa []))) ss P) : Tr c n sc ρ ss P := .mk fun A env V0 h0 Cs X s hA hO F => by
  obtain ⟨a, fpi, fps', O⟩ := F.opn hx
  obtain ⟨m, h1, h2, h3⟩ := O.ns
  obtain ⟨vs, nn, h4, h5⟩ := O.lst
  cases hv : vs.toList with
  | cons _ _ => rw [hv] at h5; cases h5
  | nil =>
    rw [hv] at h5
    cases h5
    have hPR : (PR a []).P [a] s.heap := ⟨rfl, vs, nn, h4, hv ▸ .nil⟩
    have F' : Fm c sc env V0 h0 Cs _ (setS ρ x (.res (PR a []))) s := F.mk' h1 (fps := [a] ++ fps') rfl O.nd O.sub (.cons h2 (.res hPR) (StoR.weak (fun b q => q.imp id (O.sub b)) h3))
    exact wpAny_mono ((h a).run A env V0 h0 Cs _ s hA hO F') (fun f s' q => let ⟨X₂, ρ₂, af, a, b, d, p⟩ := q; ⟨X₂, ρ₂, af, a.sub O.sub, b, d, p⟩) fun _ _ q => q

/-- the writer and its list are put together -/
theorem Ent.merge {C : Addr} {W : WA} {k : Nat} {σ : WS} (h1 : ρ.lookup "writer" = some (.res (WQ c C W k σ))) (h2 : ρ.lookup "pieces" = some (.res (PR W.pa σ.pcs))) :
    Ent c sc ρ (("pieces", .val (.val (.ref W.pa))) :: ("writer", .res (WR c C W k σ)) :: delS "pieces" (delS "writer" ρ)) := fun env V0 h0 Cs X s F => by
  obtain ⟨m, fps, e1, e2, e3, e4, e6, e5⟩ := F.sto
  obtain ⟨v, fp, fps', rest, l, rx, r, hp⟩ := e5.take h1
  obtain ⟨v2, fp2, fps2, rest2, l2, rx2, r2, hp2⟩ := r.take (x := "pieces") ((delS_lookup (by decide) ρ).trans h2)
  cases rx with
  | res hP =>
  cases rx2 with
  | res hP2 =>
  obtain ⟨rfl, hP⟩ := hP
  obtain ⟨rfl, hP2⟩ := hP2
  have hx1 : (env.locals :: (Cs.map (·.2) ++ fps)).Nodup := e2 ▸ e3
  have hperm : ((rest ++ rest2) ++ (W.fp ++ fps2)).Perm fps := by
    refine .trans ?_ hp
    rw [List.append_assoc]
    refine List.Perm.append_left _ ?_
    have p1 : (rest2 ++ (W.fp ++ fps2)).Perm (W.fq ++ (rest2 ++ ([W.pa] ++ fps2))) := by
      have p2 : (W.fp ++ fps2).Perm (W.fq ++ ([W.pa] ++ fps2)) := by
        have : W.fp.Perm (W.fq ++ [W.pa]) := by
          show ([W.wa, W.da, W.la, W.na, W.ta] ++ W.pa :: [W.ba, W.xa]).Perm (([W.wa, W.da, W.la, W.na, W.ta] ++ [W.ba, W.xa]) ++ [W.pa])
          refine List.perm_middle.trans ?_
          exact (List.perm_append_singleton W.pa ([W.wa, W.da, W.la, W.na, W.ta] ++ [W.ba, W.xa])).symm
        rw [← List.append_assoc]
        exact this.append_right _
      exact (p2.append_left rest2).trans (List.perm_append_comm_assoc rest2 W.fq ([W.pa] ++ fps2))
    exact p1.trans (hp2.append_left _)
  have hpm : ((rest ++ rest2) ++ (env.locals :: (Cs.map (·.2) ++ (W.fp ++ fps2)))).Perm (env.locals :: (Cs.map (·.2) ++ fps)) := by
    refine List.perm_middle.trans (List.Perm.cons _ ?_)
    exact (List.perm_append_comm_assoc _ _ _).trans (hperm.append_left _)
  have hnd := (List.nodup_append.mp (hpm.nodup_iff.mpr hx1)).2.1
  have hsub : ∀ a ∈ env.locals :: (Cs.map (·.2) ++ (W.fp ++ fps2)), a ∈ X := fun a ha => e2 ▸ hpm.subset (List.mem_append_right _ ha)
  obtain ⟨vs, nn, q1, q2⟩ := hP2
  have hW : (WR c C W k σ).P W.fp s.heap := ⟨rfl, hP.inst, hP.ba, ⟨vs, nn, q1, q2⟩, hP.la, hP.na, hP.ta, hP.xa⟩
  exact ⟨_, hsub, F.mk' e1 (fps := [] ++ (W.fp ++ fps2)) (by rw [List.nil_append]) (by simpa using hnd) (by simpa using hsub) (.cons l2 (.val (.val _)) (.cons l (.res hW) (StoR.weak (fun a q => q.imp id fun q => by simpa using hsub a (by simpa using q)) r2)))⟩
end
end Mine
namespace Mine
section
variable {c : Cx} {n : Nat} {sc : Scope} {ρ : Sto} {K : Frag} {C : Addr}

/-- a def on a resource that leaves one of several -/
theorem runE {Ok : Res → Prop} {a : Addr} {x₀ : String} {ps : List String} {body : List Stmt} {ds : List D} {R : Res} {args : Args} {vs : List Value} (hd : IsDefB c a sc (x₀ :: ps) body args (R.v :: vs)) (hnl : ¬ c.lsc sc) (hl : ps.length = ds.length)
    (h : Tr c n sc ((x₀, .res R) :: stoOf ps ds) body fun af ρ' => (∀ d', af ≠ .ret d') ∧ ∃ R', Ok R' ∧ SubS [(x₀, .res R')] ρ') {A : Around} {V : Addr → Prop} {s : Shared} {fp : List Addr} (hA : Room c (n + 1) A) (hS : St c V s) (hfV : ∀ a ∈ fp, ¬ V a) (hfn : fp.Nodup) (hfb : ∀ a ∈ fp, c.base.get? a = none) (hP : R.P fp s.heap) (r : RepL c (fun a => V a ∨ a ∈ fp) s ds vs) :
    codeAny c.M A (.call (.ref a) args) (fun r s' => match r with | .ok (.ret v) => s.toks ≤ s'.toks → v = .none ∧ ∃ R' fp', Ok R' ∧ StpF [] fp s fp' s' ∧ R'.P fp' s'.heap ∧ fp'.Nodup | .ok _ => False | .error e => s.toks ≤ s'.toks → False) s := by
  refine fn_enterC (Q := fun v s' => v = .none ∧ ∃ R' fp', Ok R' ∧ StpF [] fp s fp' s' ∧ R'.P fp' s'.heap ∧ fp'.Nodup) (E := fun _ _ => False) hd hl hA hS hfV hfn hfb hP r fun env X s₁ hf hnl' g F hO hXc hfX => ?_
  refine wpAny_mono (h.run (A.deeper env) env V _ env.cells X s₁ (hA.deeper env) ⟨hO, fun q => absurd q hnl⟩ F) (fun f s' q _ => ?_) fun _ _ q => q.elim
  obtain ⟨X', ρ', af, t, F', hfl, hp, R', hok, hs⟩ := q
  obtain ⟨fp', ht, hP', hn'⟩ := Fm.left g hXc hfX (R.live _ _ hP) (fun b o hb e => F'.keep b o (hideAll_get _ e hb)) t F' hs
  refine ⟨?_, R', fp', hok, ht, hP', hn'⟩
  cases hfl with
  | ret r' => exact absurd rfl (hp _)
  | _ => rfl

noncomputable abbrev kwOf (b : Bool) (xl : Addr) : List (Str × Value) := [(Str.ofString "with_comments", .bool b), (Str.ofString "exclude_tags", .ref xl)]
/-- what is known of the class and its __init__ -/
structure KC (c : Cx) (K : Frag) (C f na : Addr) (kvs : List (Str × Value)) (ep : Nat) : Prop where
  hn : c.hn
  XK : K.In c.base
  OK : ClsOk K C
  flds : ∀ y ∈ initNames, findIn K (.ref C) (Str.ofString y) = some none
  makes : makesIn K C = true
  keeps : keepIn K (.ref C) = true
  init : findIn K (.ref C) "__init__" = some (some (.ref f))
  fn : typeIn K (.ref f) = some (.type "function")
  nl : ¬ c.lsc (msc 0)
  hd : ∀ xa ba xl b, IsDefB c f (msc 0) ("self" :: initPars) (mbd 0) ⟨[.ref xa, .ref ba], kwOf b xl⟩ [.ref xa, .ref ba, .bool b, .bool false, .bool false, .none, .none, .none, .ref xl]
  g : c.mg (Str.ofString "_namespace_map") = some (.ref na)
  D : c.base.DictAt (strKind c.prog c.w) na kvs ep
  l : kvs.length ≤ 100
  sys : (na == sysModules) = false
  blist : c.mg (Str.ofString "list") = none ∧ c.mb (Str.ofString "list") = some (.type "list")
  bset : c.mg (Str.ofString "set") = none ∧ c.mb (Str.ofString "set") = some (.type "set")

/-- the class is called -/
theorem make_run {f na ba pa : Addr} {kvs : List (Str × Value)} {ep : Nat} {b : Bool} {xl : Addr} (Y : KC c K C f na kvs ep) {A : Around} {V : Addr → Prop} {s : Shared} (hA : Room c (n + 2) A) (hS : St c V s) (hba : s.heap.get? ba = some (boundObj "list.append" pa)) (r : Rep c V s (.list [sd (cs "x")]) (.ref xl)) :
    wpAny c.M A (call (.ref C) [.ref ba] (kwOf b xl)) (fun v s' => Gr s s' ∧ ∃ W : WA, W.ba = ba ∧ W.pa = pa ∧ v = .ref W.wa ∧ WPq c.prog c.w C W 17 ⟨b, 0, [], []⟩ s'.heap ∧ [W.wa, W.da, W.la, W.na, W.ta, W.xa].Nodup ∧ ∀ a ∈ [W.wa, W.da, W.la, W.na, W.ta, W.xa], s.heap.get? a = none) (fun _ _ => False) s := by
  obtain ⟨h, g, d, t, os⟩ := s
  refine wpAny_with_toks (Nat.le_refl _) (wpAny_call ?_)
  have hX := Y.XK.keeps hS.keep
  have hA' : Room c (n + 1) (A.under (.builtin "type.__call__" ⟨.ref C :: [.ref ba], kwOf b xl⟩)) := by
    refine ⟨fun q => hA.handled q, ?_, ?_⟩
    · have := hA.depth
      show A.depth + 1 + (n + 1) < 900
      omega
    · have := hA.units
      show A.units + 1 + 10 * (n + 1) + 100 < cLine
      omega
  refine make_core (makes_of hX Y.makes) (looks_findIn hX Y.init) (fun self => bind_fn hX self Y.fn) (.inl rfl) ?_
  have hk : Keeps h ((h.push emptyDict).push (instObj C h.objs.size)) := fun b o e => Heap.get?_push_of_some _ (Heap.get?_push_of_some _ e)
  have hdx : ((h.push emptyDict).push (instObj C h.objs.size)).get? h.objs.size = some emptyDict := Heap.get?_push_of_some _ (Heap.get?_push_size _ rfl)
  have hx : ((h.push emptyDict).push (instObj C h.objs.size)).get? (h.objs.size + 1) = some (instObj C h.objs.size) := by
    have := Heap.get?_push_size (h := h.push emptyDict) (o := instObj C h.objs.size) rfl
    rwa [Heap.size_push] at this
  have hnx : h.get? (h.objs.size + 1) = none := by
    cases e : h.get? (h.objs.size + 1) with
    | none => rfl
    | some o => exact absurd (Heap.lt_size e) (Nat.not_lt.mpr (Nat.le_succ _))
  have g₁ : Gr ⟨h, g, d, t, os⟩ ⟨(h.push emptyDict).push (instObj C h.objs.size), g, d, t, os⟩ := ⟨hk, Nat.le_refl _, rfl, rfl⟩
  have hfresh : ∀ a ∈ [h.objs.size + 1, h.objs.size], h.get? a = none := fun a ha => by
    simp only [List.mem_cons, List.not_mem_nil, or_false] at ha
    rcases ha with rfl | rfl
    · exact hnx
    · exact get_size h
  refine codeAny_with_toks (n := t) (Nat.le_refl _) (codeAny_mono (runE (Ok := Inited c C (h.objs.size + 1) h.objs.size ba b) (R := IR C (h.objs.size + 1) h.objs.size 0 [] []) (V := V) (fp := [h.objs.size + 1, h.objs.size]) (Y.hd _ ba xl b) Y.nl rfl
    (init_tr Y.hn Y.XK Y.OK Y.flds Y.g Y.D Y.l Y.sys Y.blist Y.bset) hA' (hS.gr g₁) (fun a ha q => ?_) (by simp) (fun a ha => ?_) ?_ ?_) fun r' s' q ht => ?_)
  · obtain ⟨o, e⟩ := hS.live a q
    have := hfresh a ha
    rw [show h.get? a = some o from e] at this; cases this
  · cases e : c.base.get? a with
    | none => rfl
    | some o =>
      have e' := hS.keep _ _ e
      rw [show h.get? a = none from hfresh a ha] at e'; cases e'
  · exact ⟨rfl, ⟨fun _ => none, ⟨hx, ⟨#[], 0, hdx, fun e he => by simp at he, fun _ => rfl, Nat.le_refl _⟩⟩, fun _ => rfl⟩, fun p hp => nomatch hp⟩
  · refine .cons (.val _) (.cons (.bool _) (.cons (.bool _) (.cons (.bool _) (.cons .none (.cons .none (.cons .none (.cons ?_ .nil)))))))
    exact ((r.ext (W := fun a => a ∈ [h.objs.size + 1, h.objs.size]) hfresh).gr g₁)
  · cases r' with
    | error e => exact fun _ => q ht
    | ok fl =>
    cases fl with
    | ret v =>
      obtain ⟨rfl, R', fp', ⟨fl, la, na', ta, sa, v9, n1, so, tk, rfl, hso, l1, l2, l3, l4, l5, l6, l7, l8, l9, l10, l11⟩, hst, hP, hnd⟩ := q ht
      refine ⟨rfl, fun _ => ⟨⟨fun a o e => hst.keep a o (fun q => ?_) (fun q => nomatch q) (hk _ _ e), ht, hst.gens, hst.os⟩, ⟨h.objs.size + 1, h.objs.size, la, na', ta, pa, ba, sa⟩, rfl, rfl, rfl, ?_, ?_, ?_⟩⟩
      · have := hfresh a q
        rw [show h.get? a = some o from e] at this; cases this
      · obtain ⟨_, ⟨m, I, hm⟩, ho⟩ := hP
        refine ⟨⟨m, I, ⟨(hm _).trans l1, (hm _).trans l2, (hm _).trans l3, (hm _).trans l4, (hm _).trans l5, (hm _).trans l6, (hm _).trans l7, (hm _).trans l8, (hm _).trans l9, ⟨tk, (hm _).trans l10⟩, fun x hx => (hm _).trans (l11 x hx)⟩⟩, ?_, ⟨#[], 0, (ho (la, listObj #[] 0) (by simp)).1, .nil⟩, ⟨v9, n1, (ho (na', listObj #[v9, .ref ta] n1) (by simp)).1⟩, ⟨#[], 0, (ho (ta, listObj #[] 0) (by simp)).1, Nat.zero_le _⟩, ?_⟩
        · refine hst.keep ba _ (fun q => ?_) (fun q => nomatch q) (hk _ _ hba)
          have := hfresh ba q
          rw [show h.get? ba = some _ from hba] at this; cases this
        · have := hso _ sa (ho (sa, so) (by simp)).1
          rw [show (fun y => y == Str.ofString "x") = fun z => z == S (cs "x") from by rw [ofString_S]]
          exact this
      · obtain ⟨rfl, _⟩ := hP
        simp only [List.map_cons, List.map_nil, List.nodup_cons, List.mem_cons, List.not_mem_nil, or_false, not_or, not_false_eq_true, List.nodup_nil, and_true] at hnd ⊢
        obtain ⟨⟨a1, a2, a3, a4, a5⟩, ⟨b1, b2, b3, b4⟩, ⟨c1, c2, c3⟩, ⟨d1, d2⟩, e1⟩ := hnd
        exact ⟨⟨a1, a5, a3, a2, a4⟩, ⟨b4, b2, b1, b3⟩, ⟨fun q => d2 q.symm, fun q => c3 q.symm, fun q => e1 q.symm⟩, ⟨fun q => c1 q.symm, d1⟩, c2⟩
      · obtain ⟨rfl, _⟩ := hP
        intro a ha
        have hsz : ∀ a : Addr, a ∈ (h.objs.size + 1) :: h.objs.size :: ([(ta, listObj #[] 0), (na', listObj #[v9, .ref ta] n1), (sa, so), (la, listObj #[] 0)].map (·.1)) → h.get? a = none := fun a ha => by
          rcases hst.new a ha with q | q
          · exact hfresh a q
          · cases e : h.get? a with
            | none => rfl
            | some o => rw [hk _ _ e] at q; cases q
        refine hsz a ?_
        simp only [List.map_cons, List.map_nil, List.mem_cons, List.not_mem_nil, or_false] at ha ⊢
        rcases ha with rfl | rfl | rfl | rfl | rfl | rfl <;> simp
    | _ => exact q.elim
end
end Mine
namespace Mine
section
variable {c : Cx} {n : Nat}

noncomputable def kvT (t : Tab) : List (List Nat × D) := t.map fun p => ([p.1], sd p.2)
noncomputable abbrev dT (t : Tab) : D := .dict (kvT t)
theorem kvT_lookup (t : Tab) (a : Nat) : (kvT t).lookup [a] = (t.lookup a).map sd := by
  unfold kvT
  induction t with
  | nil => rfl
  | cons p l ih =>
    rw [List.map_cons, List.lookup_cons, List.lookup_cons, ih]
    have : ([a] == [p.1]) = (a == p.1) := by
      by_cases h : a = p.1
      · simp [h]
      · have h1 : ([a] == [p.1]) = false := by simpa using h
        have h2 : (a == p.1) = false := by simpa using h
        rw [h1, h2]
    rw [this]
    cases a == p.1 <;> rfl

noncomputable def pc11 : List String := ["a", "&", "<", ">", "\r", "\"", "\n", "", "--", "?", " ", "&amp;"]
noncomputable def text11 (q : Int) : List Nat := if q.fmod 2 = 0 then cs (pc11.getD ((q.fdiv 2).fmod 12).toNat "") ++ (List.replicate ((q.fdiv 24).fmod 3).toNat (cs "z")).flatten else [chrOf (q.fdiv 2)]
theorem text11_len (q : Int) : (text11 q).length ≤ 7 := by
  have h1 : ∀ i : Nat, (cs (pc11.getD i "")).length ≤ 5 := by
    intro i
    match i with
    | 0 | 1 | 2 | 3 | 4 | 5 | 6 | 7 | 8 | 9 | 10 | 11 => decide
    | i + 12 => exact Nat.zero_le _
  have h2 : ((q.fdiv 24).fmod 3).toNat ≤ 2 := by
    have := Int.fmod_nonneg_of_pos (q.fdiv 24) (b := 3) (by decide)
    have := Int.fmod_lt_of_pos (q.fdiv 24) (b := 3) (by decide)
    omega
  unfold text11
  split
  · have := h1 ((q.fdiv 2).fmod 12).toNat
    have e : (cs "z").length = 1 := by decide
    have h4 : (List.replicate ((q.fdiv 24).fmod 3).toNat (cs "z")).flatten.length = ((q.fdiv 24).fmod 3).toNat := by simp [e]
    rw [List.length_append, h4]
    have := h1 ((q.fdiv 2).fmod 12).toNat
    omega
  · exact Nat.succ_le_succ (Nat.zero_le _)

structure B11t (c : Cx) : Prop where
  chr : c.mg (Str.ofString "chr") = none ∧ c.mb (Str.ofString "chr") = some (.builtin "chr")

theorem text11_fn (hn : c.hn) (hd : IsDef c 168 (sc11 10) ["q"] (bd11 10)) (B : B11t c) {q : Int} : FnR c (n + 1) (.ref 168) [.int q] (sd (text11 q)) := by
  refine FnR.of hd rfl ?_
  refine .step (.assign (d := .list (pc11.map fun x => sd (cs x))) (.list ?_ (by rw [List.length_map]; decide)) (.inl rfl)) ?_
  · iterate 12 refine EvL.cons .lit ?_
    exact .nil
  have h12 : (0 : Int) ≤ (q.fdiv 2).fmod 12 ∧ (q.fdiv 2).fmod 12 < 12 := ⟨Int.fmod_nonneg_of_pos _ (by decide), Int.fmod_lt_of_pos _ (by decide)⟩
  have h3 : (0 : Int) ≤ (q.fdiv 24).fmod 3 ∧ (q.fdiv 24).fmod 3 < 3 := ⟨Int.fmod_nonneg_of_pos _ (by decide), Int.fmod_lt_of_pos _ (by decide)⟩
  have hlen := text11_len q
  by_cases h2 : q.fmod 2 = 0
  · have et : text11 q = cs (pc11.getD ((q.fdiv 2).fmod 12).toNat "") ++ (List.replicate ((q.fdiv 24).fmod 3).toNat (cs "z")).flatten := if_pos h2
    refine .cons (P₁ := fun af _ => af = .ret (sd (text11 q))) (.ite (.to (.cmp (.bin (.name rfl) .int (.fmod (by decide))) .int .eqI) (show decide (q.fmod 2 = 0) = true by rw [h2]; rfl)) (fun _ => .last (.ret ?_ rfl)) (fun q => nomatch q)) (fun _ q => nomatch q) (fun af _ _ q => q)
    rw [et] at hlen ⊢
    refine .bin (.subL (.name rfl) (.bin (.bin (.name rfl) .int (.fdiv (by decide) (by decide))) .int (.fmod (by decide))) (.list h12.1 (d := sd (cs (pc11.getD ((q.fdiv 2).fmod 12).toNat ""))) ?_ (by omega)))
      (.bin .lit (.to (.bin (.bin (.name rfl) .int (.fdiv (by decide) (by decide))) .int (.fmod (by decide))) (show D.int ((q.fdiv 24).fmod 3) = .int (((q.fdiv 24).fmod 3).toNat : Nat) by rw [Int.toNat_of_nonneg h3.1])) (.mulS ?_ ?_)) (.cat (by simp at hlen ⊢; omega))
    · obtain ⟨i, hi⟩ : ∃ i : Nat, (q.fdiv 2).fmod 12 = i := ⟨((q.fdiv 2).fmod 12).toNat, by omega⟩
      rw [hi, Int.toNat_natCast]
      have hi' : i < 12 := by omega
      rw [List.getElem?_map, List.getD_eq_getElem?_getD, List.getElem?_eq_getElem (by exact hi')]; rfl
    · have : (cs "z").length = 1 := by decide
      rw [this]; omega
    · omega
  · have et : text11 q = [chrOf (q.fdiv 2)] := if_neg h2
    refine .step (.ite (.to (.cmp (.bin (.name rfl) .int (.fmod (by decide))) .int .eqI) (show decide (q.fmod 2 = 0) = false by simpa using h2)) (fun q => nomatch q) (fun _ => .nil ⟨rfl, rfl⟩)) ?_
    refine .step (.assign (.bin (.bin (.name rfl) .int (.fdiv (by decide) (by decide))) .int (.fmod (by decide))) (.inl rfl)) ?_
    rw [et]
    exact .last (.ret (.chrIf B.chr rfl) rfl)

theorem refer11_fn (hn : c.hn) (hd : IsDef c 173 (sc11 11) ["text"] (bd11 11)) {l : List Nat} (hl : l.length ≤ 100000) : FnR c (n + 1) (.ref 173) [sd l] (sd (l.flatMap (wrT tCc))) := by
  refine FnR.of hd rfl ?_
  refine .step (.assign (d := dT tCc) (.dict (.cons .lit .lit (.cons .lit .lit (.cons .lit .lit (.cons .lit .lit .nil)))) (by decide) (by decide) (by decide)) (.inr rfl)) ?_
  have e1 : l.flatMap (wrT tCc) = (l.map (wrT tCc)).flatten := rfl
  have hlen := flatMap_len (wrT_len (t := tCc) (m := 6) (by decide) (by decide)) l
  refine .last (.ret (.to (.meth .lit rfl PySem.F.plainAttrs_str PySem.F.slot_str_join PySem.F.type_str_join (.cons (d := .list ((l.map (wrT tCc)).map sd)) (.to (.compM (g := fun k => sd [k]) (ds := l) (fun k => sd (wrT tCc k)) [("table", .val (dT tCc))] (.name rfl) ?_ (.of (.cons rfl rfl (by decide) .nil) rfl) (by omega) fun a ha => ?_) (by rw [List.map_map]; rfl)) .nil) (.join0 (by rw [← e1]; omega))) (by rw [e1])) rfl)
  · have := IterR.str (c := c) (x := S l)
    have e1 : (S l).cps.toList = l := by simp
    rw [e1] at this; exact this
  · refine ⟨_, .name (.inl rfl), .cons rfl .nil, .to (.meth (.name rfl) rfl PySem.F.plainAttrs_dict PySem.F.slot_dict_get PySem.F.type_dict_get (.cons (.name rfl) (.cons (.name rfl) .nil)) .dget) ?_⟩
    rw [kvT_lookup]
    unfold wrT
    cases tCc.lookup a <;> rfl

theorem cc11_fn (hd : IsDef c 154 (sc11 7) ["text"] (bd11 7)) {l : List Nat} (hl : l.length ≤ 100000) : FnR c (n + 1) (.ref 154) [sd l] (sd (l.flatMap (wrT tCc))) := by
  refine escFn hd (by decide) (Tr.last (Sx.try ?_))
  refine Tr.escStep (q := 38) hl rfl (by decide) (.inl rfl) (by decide) (by decide) (by decide) ?_
  refine Tr.escStep (q := 60) hl rfl (by decide) (.inl rfl) (by decide) (by decide) (by decide) ?_
  refine Tr.escStep (q := 62) hl rfl (by decide) (.inl rfl) (by decide) (by decide) (by decide) ?_
  refine Tr.escStep (q := 13) hl rfl (by decide) (.inl rfl) (by decide) (by decide) (by decide) ?_
  exact Tr.last (Sx.ret (Ev.name rfl) rfl)

theorem IsDefL.h {a : Addr} {sc : Scope} {ps : List String} {body : List Stmt} (hd : IsDefL c a sc ps body) : IsDefL c.h a sc ps body := ⟨hd.ex, hd.kinds, hd.nodup, hd.cnd, hd.co, hd.gen, hd.kind, hd.nofree⟩
structure BX (c : Cx) : Prop where
  ty : c.mg (Str.ofString "TypeError") = none ∧ c.mb (Str.ofString "TypeError") = some (.type "TypeError")
  at' : c.mg (Str.ofString "AttributeError") = none ∧ c.mb (Str.ofString "AttributeError") = some (.type "AttributeError")
  type : c.mg (Str.ofString "type") = none ∧ c.mb (Str.ofString "type") = some (.type "type")

/-- an escape that refuses -/
theorem cc11_x (hn : c.hn) (hr : IsDef c 44 (sc11 4) ["text"] (bd11 4)) (gr : c.mg (Str.ofString "_raise_serialization_error") = some (.ref 44)) (hd : IsDef c 154 (sc11 7) ["text"] (bd11 7)) (B : BX c) {d : D} {r : List Nat} {T : String} (hin : InX c d) (h : ReprOf c.h d r T) : FnX c (n + 2) (.ref 154) [d] "TypeError" (wordsOf r (cs T)) :=
  esc_raises hn hd.toIsDefL hin gr hr.callee B.ty B.at' rfl rfl rfl (raise_fn (c := c.h) (sc := sc11 4) hr.toIsDefL.h B.type B.ty rfl rfl h)
end
end Mine
namespace Mine
section
variable {c : Cx} {n : Nat} {sc : Scope} {k : Bool} {ρ : Sto} {P : AF → Sto → Prop}

theorem Ev.bytes {b : List Nat} {x : List UInt8} {kk : Nat} {pos : Pos} (hx : x = b.map UInt8.ofNat) : Ev c n sc k ρ (.Constant (.bytes x) kk pos) (.bytes b) := .mk fun A env V0 h0 Cs X s hA F => by
  subst hx
  exact wp_end (Constant_bytes ⟨fun _ _ e => e, rfl, rfl, fun _ => .bytes _ _⟩)
theorem TruR.bytes {b : List Nat} (hz : b.length ≤ 1000000) : TruR c (.bytes b) (decide (b ≠ [])) := fun A V s v _ _ r => by
  cases r
  refine wp_end (truthy_bytes (by simp; omega) ⟨fun _ _ e => e, rfl, rfl, fun _ => ?_⟩)
  cases b with
  | nil => rfl
  | cons a l => simp; omega

theorem log2_small {i : Int} (h : i.natAbs ≤ 1000000) : i.natAbs.log2 < 1920 := by
  by_cases h0 : i.natAbs = 0
  · rw [h0]; decide
  · refine (Nat.log2_lt h0).mpr (Nat.lt_of_le_of_lt h (Nat.lt_of_lt_of_le (by decide : 1000000 < 2 ^ 20) (Nat.pow_le_pow_right (by decide) (by decide))))
theorem FnR.strI {i : Int} (hi : i.natAbs.log2 < 1920) : FnR c n (.type "str") [.int i] (sd (intL i)) := .mk fun A V s vs hA hS r => by
  cases r with
  | cons r rs => cases rs; cases r with
    | int _ t => exact wp_end (PySem.P.str_of_int hi ⟨fun _ _ e => e, rfl, rfl, fun _ => by rw [ofString_S]; exact .str _ _⟩)
theorem intL_len {i : Int} (hi : i.natAbs ≤ 1000000) : (intL i).length ≤ 1000000 := by
  have e := int_text_length_le (k := 1920) (by decide) (log2_small hi)
  have e2 : (S (intL i)).length = (toString i).length := by rw [← ofString_S]; exact PySem.ofString_length _
  rw [S_length] at e2
  omega

/-- an own list that is not kept as such -/
theorem EvS.ev {e : Expr} {sl : Slot} (h : EvS c n sc ρ e sl) : Ev c n sc k ρ e sl.d := Ev.weak <| .mk fun A env V0 h0 Cs X s hA F => by
  refine wpAny_mono (h.run A env V0 h0 Cs X s hA F) (fun v s' q => ?_) fun _ _ q => q
  obtain ⟨g, fp, r, hn, hf⟩ := q
  refine ⟨g, r.freeze (fun a q => ?_) fun a ha q => ?_⟩
  · rcases q.2 with q | q
    · exact .inl q
    · exact .inr (List.mem_append_left _ q)
  · obtain ⟨o, e⟩ := (F.st true).live a q
    rw [hf a ha] at e; cases e

/-- an item from the end -/
theorem ItemR.listNeg {ds : List D} {m : Nat} {d : D} (hm : 0 < m) (hl : m ≤ ds.length) (hd : ds[ds.length - m]? = some d) (hlo : m ≤ 1000) : ItemR c (.list ds) (.int (-(m : Int))) d := fun A V s v₁ v₂ hA hS r₁ r₂ => by
  cases r₂
  cases r₁ with
  | @list a o vs nn _ na ho hcl hdc hdt r =>
    obtain ⟨v, hv, rv⟩ := r.get hd
    have hlen : vs.size = ds.length := by have := r.length; simpa using this.symm
    refine wpAny_getItem_list_neg ⟨_, ho, hcl, _, hdt⟩ (by omega) (by omega) (by omega) (x := v) ?_ ⟨.refl s, rv⟩
    rw [show (-(m : Int) + (vs.size : Int)).toNat = ds.length - m by omega]
    simpa using hv

/-- y = f(x, es): f turns the resource in x -/
theorem Sx.assignP {y x : String} {f : Expr} {fa : Addr} {es : List Expr} {ds : List D} {d : D} {R R' : Res} {xp p cp pos : Pos} (hx : ρ.lookup x = some (.res R)) (hv : R'.v = R.v) (hf : Ev c n sc true ρ f (.val (.ref fa))) (hc : Callee c (.ref fa)) (ha : EvL c n sc true ρ es ds) (h : FnP c n (.ref fa) R ds R' d) (hd : d.flat = true) (hk : CanStore sc y)
    (hp : es.all plainE = true := by rfl) (hxd : x ≠ "__debug__" := by decide)
    (he : ∀ env : Env, eval (.Call f (.Name (Str.ofString x) xp :: es) [] cp) env = (do callWith cp (← eval f env) [] (backTo cp (starEach (.Name (Str.ofString x) xp :: es) env)) (backToKw cp (keywordEach [] env))) := by intro _; rfl)
    (hs : ∀ env : Env, env.scope = sc → swapsWith (.Call f (.Name (Str.ofString x) xp :: es) [] cp) (some (.Name (Str.ofString y) p)) pos.line env = pure false := by intro _ _; rfl) :
    Sn c n sc ρ (.Assign [.Name (Str.ofString y) p] (.Call f (.Name (Str.ofString x) xp :: es) [] cp) pos) (setS (setS ρ x (.res R')) y (.val d)) := .mk fun A env V0 h0 Cs X s hA hO F => by
  refine wpAny_Assign_Name ?_ (hs env F.scope)
  rw [he]
  refine wpAny_bind (wpAny_mono (hf.run A env V0 h0 Cs X s hA F) (fun fv s₁ q₁ => ?_) fun _ _ q => q.elim)
  obtain ⟨g₁, r₁⟩ := q₁
  cases r₁
  have F₁ := F.gr g₁
  obtain ⟨fp, fps', O⟩ := F₁.opR hx
  refine hc.wp (by simp [hp]; rfl) (wpAny_items_cons (O.load F₁ hxd (wpAny_mono (ha.run A env V0 h0 Cs X s₁ cp hA F₁) (fun vs s₂ q₂ => ⟨(F₁.gr q₂.1).base.trans (F₁.gr q₂.1).keep, ?_⟩) fun _ _ q => q.elim)) (starEach_cons rfl))
  obtain ⟨g₂, r₂⟩ := q₂
  have O₂ := O.gr g₂
  have F₂ := F₁.gr g₂
  have hfx := O.fpX
  refine wpAny_mono (h.run A (fun a => Vol V0 X a ∧ a ∉ fp) s₂ vs fp hA ((F₂.st true).weak fun a q => ⟨rfl, q.1⟩) (fun a ha q => q.2 ha) O.fpN (fun a ha => ?_) O₂.p (r₂.weak fun a q => ?_)) (fun v s₃ q => ?_) fun _ _ q => q.elim
  · cases e : c.base.get? a with
    | none => rfl
    | some o => have := F.base a o e; rw [F.new a (hfx a ha)] at this; cases this
  · rcases q with q | q
    · exact ⟨rfl, q.1⟩
    · exact ⟨rfl, .inr (hfx a q)⟩
  · obtain ⟨fp', t, hP', hn', rv⟩ := q
    obtain ⟨X', t', F'⟩ := O₂.close F₂ hv t (fun b hb => nomatch hb) hP' hn'
    refine wpAny_mono (F'.store (.refl _) (hO.own _) hk (.val (rv.flat hd)) .nil fun _ q => nomatch q) (fun _ s' q => ?_) fun _ _ q => q
    obtain ⟨X₂, a, b⟩ := q
    exact ⟨X₂, _, .next, (((Stp.of_gr (g₁.trans g₂)).trans t').trans a), b, .next, rfl, rfl⟩

/-- y = f(x, es): f is refused within and answers with a text -/
theorem Sx.assignQ {y x : String} {f : Expr} {fa : Addr} {es : List Expr} {ds : List D} {m : List Nat} {R : Res} {xp p cp pos : Pos} (hn : c.hn) (hl : c.lsc sc) (hm : sc.kind ≠ .module) (hx : ρ.lookup x = some (.res R)) (hf : Ev c n sc true ρ f (.val (.ref fa))) (hc : Callee c (.ref fa)) (ha : EvL c n sc true ρ es ds) (h : FnQ c n (.ref fa) R ds m) (hk : CanStore sc y)
    (hp : es.all plainE = true := by rfl) (hxd : x ≠ "__debug__" := by decide)
    (he : ∀ env : Env, eval (.Call f (.Name (Str.ofString x) xp :: es) [] cp) env = (do callWith cp (← eval f env) [] (backTo cp (starEach (.Name (Str.ofString x) xp :: es) env)) (backToKw cp (keywordEach [] env))) := by intro _; rfl)
    (hs : ∀ env : Env, env.scope = sc → swapsWith (.Call f (.Name (Str.ofString x) xp :: es) [] cp) (some (.Name (Str.ofString y) p)) pos.line env = pure false := by intro _ _; rfl) :
    Sn c n sc ρ (.Assign [.Name (Str.ofString y) p] (.Call f (.Name (Str.ofString x) xp :: es) [] cp) pos) (setS (setS ρ x (.res R)) y (.val (sd m))) := .mk fun A env V0 h0 Cs X s hA hO F => by
  refine wpAny_Assign_Name ?_ (hs env F.scope)
  rw [he]
  refine wpAny_bind (wpAny_mono (hf.run A env V0 h0 Cs X s hA F) (fun fv s₁ q₁ => ?_) fun _ _ q => q.elim)
  obtain ⟨g₁, r₁⟩ := q₁
  cases r₁
  have F₁ := F.gr g₁
  obtain ⟨fp, fps', O⟩ := F₁.opR hx
  refine hc.wp (by simp [hp]; rfl) (wpAny_items_cons (O.load F₁ hxd (wpAny_mono (ha.run A env V0 h0 Cs X s₁ cp hA F₁) (fun vs s₂ q₂ => ⟨(F₁.gr q₂.1).base.trans (F₁.gr q₂.1).keep, ?_⟩) fun _ _ q => q.elim)) (starEach_cons rfl))
  obtain ⟨g₂, r₂⟩ := q₂
  have O₂ := O.gr g₂
  have F₂ := F₁.gr g₂
  have hfx := O.fpX
  obtain ⟨hfr, hfl⟩ := hO.top hl
  have hLX : env.locals ∈ X := by
    obtain ⟨_, _, _, h2, _⟩ := F.sto
    rw [h2]; exact .head _
  have hLfp : env.locals ∉ fp := fun q => (List.nodup_cons.mp O.nd).1 (List.mem_append_right _ (List.mem_append_left _ q))
  have hfmap : ([env] : List Env).filterMap (·.frame) = [env.locals] := by simp [hfl]
  have KK : Stk c A c.base [env] s₂.heap := by
    obtain ⟨m, fps, ⟨o, es, ep, ho, hd, _⟩, _⟩ := F₂.sto
    refine ⟨hfr, fun _ _ q => q, fun b o e => F₂.keep _ _ (F₂.base _ _ e), ?_, ⟨env.locals, o, hfl, ?_, ho, fun vs q => by rw [hd] at q; cases q⟩, trivial⟩
    · rw [F.scope]; exact hm
    · cases e : c.base.get? env.locals with
      | none => rfl
      | some o => have := F.base _ _ e; rw [F.new _ hLX] at this; cases this
  refine wpAny_mono (h.run A (fun a => Vol V0 X a ∧ a ∉ fp) s₂ vs c.base [env] fp hA (.inl (hA.handled hn)) KK (fun a ha => ?_) ((F₂.st true).weak fun a q => ⟨rfl, q.1⟩) (fun a ha q => q.2 ha) O.fpN (fun a ha => ?_) O₂.p (r₂.weak fun a q => ?_)) (fun v s₃ q => ?_) fun _ _ q => q.elim
  · rw [hfmap] at ha
    rw [List.mem_singleton.mp ha]
    exact ⟨.inr hLX, hLfp⟩
  · cases e : c.base.get? a with
    | none => rfl
    | some o => have := F.base a o e; rw [F.new a (hfx a ha)] at this; cases this
  · rcases q with q | q
    · exact ⟨rfl, q.1⟩
    · exact ⟨rfl, .inr (hfx a q)⟩
  · obtain ⟨fp', t, hP', hn', rv⟩ := q
    obtain ⟨X', t', F'⟩ := O₂.close F₂ (R' := R) rfl t (fun b hb => by rw [hfmap] at hb; exact List.mem_singleton.mp hb) hP' hn'
    refine wpAny_mono (F'.store (.refl _) (hO.own _) hk (.val (rv.flat rfl)) .nil fun _ q => nomatch q) (fun _ s' q => ?_) fun _ _ q => q
    obtain ⟨X₂, a, b⟩ := q
    exact ⟨X₂, _, .next, (((Stp.of_gr (g₁.trans g₂)).trans t').trans a), b, .next, rfl, rfl⟩
end
end Mine
set_option maxRecDepth 100000
namespace Mine
section
variable {c : Cx} {n : Nat} {sc : Scope} {k : Bool} {ρ : Sto} {P : AF → Sto → Prop} {K : Frag} {C : Addr}

theorem getAttr_append' {M : Program} {w : World} {A : Around} {E : Value → Shared → Prop} {s : Shared} {a : Addr} {vs : Array Value} {nn : Nat} {expr : Bool} {Q : Value → Shared → Prop} (hx : s.heap.get? a = some (listObj vs nn))
    (hq : Q (.ref s.heap.objs.size) { s with heap := s.heap.push (boundObj "list.append" a), toks := s.toks + 1 }) : wpAny (model M w) A (getAttr (.ref a) (Str.ofString "append") expr) Q E s := by
  obtain ⟨h, g, d, t, os⟩ := s
  exact getAttr_append hx hq

/-- writer = C14NWriterTarget(pieces.append, with_comments=wished, exclude_tags=['x']) -/
theorem Sx.mkWriter {f na pa : Addr} {kvs : List (Str × Value)} {ep : Nat} {b : Bool} {kc : Nat} {p0 p1 p2 p3 p4 p5 p6 p7 p8 p9 pos : Pos} (Y : KC c K C f na kvs ep) (hg : c.mg (Str.ofString "C14NWriterTarget") = some (.ref C)) (hG : sc.names.lookup (Str.ofString "C14NWriterTarget") = some .globalImplicit)
    (hp : ρ.lookup "pieces" = some (.res (PR pa []))) (hw : ρ.lookup "wished" = some (.val (.bool b))) (hk : CanStore sc "writer")
    (hs : ∀ env : Env, env.scope = sc → swapsWith (.Call (.Name (Str.ofString "C14NWriterTarget") p1) [.Attribute (.Name (Str.ofString "pieces") p2) (Str.ofString "append") p3] [⟨some (Str.ofString "with_comments"), .Name (Str.ofString "wished") p4, p5⟩, ⟨some (Str.ofString "exclude_tags"), .List [.Constant (.str (Str.ofString "x")) kc p6] p7, p8⟩] p9) (some (.Name (Str.ofString "writer") p0)) pos.line env = pure false := by intro _ _; rfl) :
    Sx c (n + 2) sc ρ (.Assign [.Name (Str.ofString "writer") p0] (.Call (.Name (Str.ofString "C14NWriterTarget") p1) [.Attribute (.Name (Str.ofString "pieces") p2) (Str.ofString "append") p3] [⟨some (Str.ofString "with_comments"), .Name (Str.ofString "wished") p4, p5⟩, ⟨some (Str.ofString "exclude_tags"), .List [.Constant (.str (Str.ofString "x")) kc p6] p7, p8⟩] p9) pos)
      fun af ρ' => af = .next ∧ ∃ W : WA, W.pa = pa ∧ ρ' = setS ρ "writer" (.res (WQ c C W 17 ⟨b, 0, [], []⟩)) := .mk fun A env V0 h0 Cs X s hA hO F => by
  refine wpAny_Assign_Name ?_ (hs env F.scope)
  have he : eval (.Call (.Name (Str.ofString "C14NWriterTarget") p1) [.Attribute (.Name (Str.ofString "pieces") p2) (Str.ofString "append") p3] [⟨some (Str.ofString "with_comments"), .Name (Str.ofString "wished") p4, p5⟩, ⟨some (Str.ofString "exclude_tags"), .List [.Constant (.str (Str.ofString "x")) kc p6] p7, p8⟩] p9) env =
    (do callWith p9 (← eval (.Name (Str.ofString "C14NWriterTarget") p1) env) [] (backTo p9 (starEach [.Attribute (.Name (Str.ofString "pieces") p2) (Str.ofString "append") p3] env)) (backToKw p9 (keywordEach [⟨some (Str.ofString "with_comments"), .Name (Str.ofString "wished") p4, p5⟩, ⟨some (Str.ofString "exclude_tags"), .List [.Constant (.str (Str.ofString "x")) kc p6] p7, p8⟩] env))) := rfl
  rw [he]
  refine wpAny_bind (wpAny_mono ((Ev.glob (n := n + 2) (k := true) (ρ := ρ) hg hG).run A env V0 h0 Cs X s hA F) (fun fv s₁ q₁ => ?_) fun _ _ q => q.elim)
  obtain ⟨g₁, r₁⟩ := q₁
  cases r₁
  have F₁ := F.gr g₁
  obtain ⟨fp, fps', O⟩ := F₁.opR hp
  obtain ⟨_, vs, nn, hpa, _⟩ := O.p
  refine callWith_KW (K := K) (h₀ := c.base) Y.XK Y.keeps rfl (wpAny_items_cons (Attribute_name (O.load F₁ (by decide) (getAttr_append' hpa ?_))) (starEach_cons rfl))
  have g₂ : Gr s₁ { s₁ with heap := s₁.heap.push (boundObj "list.append" pa), toks := s₁.toks + 1 } := ⟨fun b o e => Heap.get?_push_of_some _ e, Nat.le_succ _, rfl, rfl⟩
  have hba₂ : (s₁.heap.push (boundObj "list.append" pa)).get? s₁.heap.objs.size = some (boundObj "list.append" pa) := Heap.get?_push_size _ rfl
  have F₂ := F₁.gr g₂
  refine wpAny_items_nil (kwAll_cons (wpAny_mono ((Ev.name (c := c) (n := n + 2) (k := true) hw).run A env V0 h0 Cs X _ hA F₂) (fun wv s₃ q₃ => ?_) fun _ _ q => q.elim))
  obtain ⟨g₃, r₃⟩ := q₃
  cases r₃
  have F₃ := F₂.gr g₃
  refine kwAll_cons (wpAny_mono ((Ev.list (c := c) (n := n + 2) (sc := sc) (k := true) (ρ := ρ) (.cons .lit .nil) (by rw [sizeLine_eq]; simp)).run A env V0 h0 Cs X s₃ hA F₃) (fun lv s₄ q₄ => ?_) fun _ _ q => q.elim)
  obtain ⟨g₄, r₄⟩ := q₄
  have F₄ := F₃.gr g₄
  have hba₄ := g₄.keep _ _ (g₃.keep _ _ hba₂)
  obtain ⟨xl, rfl⟩ : ∃ xl, lv = .ref xl := by cases r₄; exact ⟨_, rfl⟩
  refine kwAll_nil ⟨Y.XK.keeps (F₄.base.trans F₄.keep), ?_⟩
  refine wpAny_mono (make_run (n := n) (b := b) (xl := xl) (ba := s₁.heap.objs.size) (pa := pa) Y hA (F₄.st true) hba₄ r₄) (fun v s₅ q => ?_) fun _ _ q => q.elim
  obtain ⟨g₅, W, hWb, hWp, rfl, hWP, hnd, hfr⟩ := q
  have g14 : Gr s s₄ := ((g₁.trans g₂).trans g₃).trans g₄
  have hnew : ∀ a ∈ [W.wa, W.da, W.la, W.na, W.ta, W.xa], s.heap.get? a = none := fun a ha => by
    cases e : s.heap.get? a with
    | none => rfl
    | some o => have := g14.keep _ _ e; rw [hfr a ha] at this; cases this
  have hban : s.heap.get? W.ba = none := by
    rw [hWb]
    cases e : s.heap.get? s₁.heap.objs.size with
    | none => rfl
    | some o => have := g₁.keep _ _ e; rw [get_size] at this; cases this
  have hbax : ∀ a ∈ [W.wa, W.da, W.la, W.na, W.ta, W.xa], a ≠ W.ba := fun a ha q => by
    have := hfr a ha
    rw [q, hWb, hba₄] at this; cases this
  have hndq : W.fq.Nodup := by
    simp only [List.nodup_cons, List.mem_cons, List.not_mem_nil, or_false, not_or, not_false_eq_true, List.nodup_nil, and_true] at hnd
    simp only [WA.fq, List.nodup_cons, List.mem_cons, List.not_mem_nil, or_false, not_or, not_false_eq_true, List.nodup_nil, and_true]
    obtain ⟨⟨a1, a2, a3, a4, a5⟩, ⟨b1, b2, b3, b4⟩, ⟨c1, c2, c3⟩, ⟨d1, d2⟩, e1⟩ := hnd
    exact ⟨⟨a1, a2, a3, a4, hbax _ (by simp), a5⟩, ⟨b1, b2, b3, hbax _ (by simp), b4⟩, ⟨c1, c2, hbax _ (by simp), c3⟩, ⟨d1, hbax _ (by simp), d2⟩, ⟨hbax _ (by simp), e1⟩, fun q => hbax _ (by simp) q.symm⟩
  have hfq : ∀ a ∈ W.fq, s.heap.get? a = none := fun a ha => by
    simp only [WA.fq, List.mem_cons, List.not_mem_nil, or_false] at ha
    rcases ha with rfl | rfl | rfl | rfl | rfl | rfl | rfl <;> first | exact hban | exact hnew _ (by simp)
  refine wpAny_mono (F.store (sl := .res (WQ c C W 17 ⟨b, 0, [], []⟩)) (fp := W.fq) (g14.trans g₅) (hO.own _) hk (.res ⟨rfl, hWP⟩) hndq hfq) (fun _ s' q => ?_) fun _ _ q => q
  obtain ⟨X', a, bb⟩ := q
  exact ⟨X', _, .next, a, bb, .next, rfl, W, hWp, rfl⟩

section
variable {W : WA} {kk : Nat} {σ : WS}
/-- ''.join(pieces) -/
theorem Ev.wPieces {p1 p2 ap pos : Pos} {kc : Nat} (hx : ρ.lookup "writer" = some (.res (WR c C W kk σ))) (hp : ρ.lookup "pieces" = some (.val (.val (.ref W.pa)))) (hz : σ.pcs.flatten.length ≤ 16777216) (hline : (ap.endLine == pos.line) = true := by rfl) :
    Ev c n sc k ρ (.Call (.Attribute (.Constant (.str (Str.ofString "")) kc p1) (Str.ofString "join") ap) [.Name (Str.ofString "pieces") p2] [] pos) (sd σ.pcs.flatten) := .mk fun A env V0 h0 Cs X s hA F => by
  refine wpAny_Call_method (T := "str") (id := "str.join") rfl rfl hline PySem.F.plainAttrs_str PySem.F.slot_str_join PySem.F.type_str_join (wpAny_mono ((Ev.lit (c := c) (n := n) (sc := sc) (k := true) (ρ := ρ)).run A env V0 h0 Cs X s hA F) (fun v s₁ q₁ => ?_) fun _ _ q => q.elim)
  obtain ⟨g₁, r₁⟩ := q₁
  cases r₁ with
  | str _ t =>
    refine ⟨typeIs_str _ _ _, (fun b hb => (nomatch hb)), (Callee.builtin (c := c) "str.join").wp (first := [_]) rfl (wpAny_mono ((EvL.cons (c := c) (n := n) (k := true) (.name hp) .nil).run A env V0 h0 Cs X s₁ pos hA (F.gr g₁)) (fun vs s₂ q₂ => ?_) fun _ _ q => q.elim)⟩
    obtain ⟨g₂, r₂⟩ := q₂
    cases r₂ with
    | cons rv rn =>
      cases rn; cases rv
      have F₂ := (F.gr g₁).gr g₂
      refine ⟨F₂.base.trans F₂.keep, ?_⟩
      obtain ⟨fp, fps', O⟩ := F₂.opR hx
      obtain ⟨_, hP⟩ := O.p
      obtain ⟨pv, pn, hpa, hs⟩ := hP.pa
      obtain ⟨l, h1, h2⟩ : ∃ l : List (PySem.Str × Tok), pv.toList = strValues l ∧ l.map (·.1) = σ.pcs.map S := by
        clear hpa
        generalize pv.toList = us at hs
        generalize σ.pcs.map S = xs at hs
        induction hs with
        | nil => exact ⟨[], rfl, rfl⟩
        | cons x u r ih => obtain ⟨l, e1, e2⟩ := ih; exact ⟨(x, u) :: l, by rw [e1]; rfl, by rw [← e2]; rfl⟩
      refine wp_gr (g₁.trans g₂) (wp_end (SC.join (D := W.pa) (l := l) (texts := σ.pcs.map S) ⟨_, hpa, rfl, pn, by rw [← h1]⟩ h2 ?_ fun t' k => ⟨fun _ _ e => e, rfl, rfl, fun _ => ?_⟩))
      · show JoinOk (Str.ofString "") _ = true
        rw [show Str.ofString "" = S [] from rfl]
        unfold JoinOk
        rw [Bool.not_eq_true', StrLaws.joinTotal]
        unfold Builtin.Str.tooLong
        rw [sizeLine_eq]
        have e : ((σ.pcs.map S).map (·.length)).sum = σ.pcs.flatten.length := by
          rw [List.map_map, List.length_flatten]
          congr 1
        rw [e, S_length]
        simp only [List.length_nil, Nat.mul_zero, Nat.add_zero]
        exact decide_eq_false (by omega)
      · have : Txt.join (S (cs "")) (σ.pcs.map S) = S σ.pcs.flatten := (StrLaws.glued_eq_join _ _).trans (join_S σ.pcs)
        rw [this]; exact .str _ _
end
end
end Mine
set_option maxRecDepth 100000
namespace Mine
section
variable {c : Cx} {n : Nat} {sc : Scope} {k : Bool} {ρ : Sto} {P : AF → Sto → Prop}

theorem RepSL.last {V : Addr → Prop} {s : Shared} {d : D} : ∀ {sl : List Slot} {vs : List Value} {fp : List Addr}, RepSL c V s (sl ++ [.val d]) vs fp → ∃ ws v, vs = ws ++ [v] ∧ RepSL c V s sl ws fp ∧ Rep c V s d v
  | [], _, _, h => by
    cases h with
    | cons r rs => cases rs; cases r with
      | val r => exact ⟨[], _, rfl, .nil, r⟩
  | _ :: sl, _, _, h => by
    cases h with
    | cons r rs =>
      obtain ⟨ws, v, rfl, h1, h2⟩ := RepSL.last (sl := sl) rs
      exact ⟨_ :: ws, v, rfl, .cons r h1, h2⟩

theorem pop_last {prog : Program} {w : World} {A : Around} {E : Value → Shared → Prop} {s : Shared} {l : Addr} {ws : List Value} {y : Value} {nn : Nat} {Q : Value → Shared → Prop} (ho : s.heap.get? l = some (listObj (ws ++ [y]).toArray nn)) (hz : ws.length ≤ 1000000)
    (hQ : ∀ h' n', h'.get? l = some (listObj ws.toArray n') → Heap.SameBut l s.heap h' → Q y { s with heap := h' }) : wpAny (model prog w) A (call (.builtin "list.pop") [.ref l]) Q E s := by
  have hsz : (ws ++ [y]).toArray.size - 1 = ws.length := by simp
  have hy : (ws ++ [y]).toArray[(ws ++ [y]).toArray.size - 1]? = some y := by rw [hsz]; simp
  refine call_meets PySem.F.slot_list_pop ⟨_, ho, rfl⟩ PySem.F.entry_list_pop (PySem.F.args_list_pop_1 _) (MeetsSeq.list_pop_last l (ws ++ [y]).toArray nn y hy (by rw [sizeLine_eq]; simp; omega)) ⟨ho, ?_⟩
  obtain ⟨n', hd'⟩ := Obj.data_mapSeq (o := listObj (ws ++ [y]).toArray nn) rfl (·.eraseIdxIfInBounds ((ws ++ [y]).toArray.size - 1))
  have hfin := Heap.get?_update_self (Obj.mapSeq (·.eraseIdxIfInBounds ((ws ++ [y]).toArray.size - 1))) ho (Obj.isFreed_of_seq hd')
  have hd2 := Obj.dict_mapSeq (listObj (ws ++ [y]).toArray nn) (·.eraseIdxIfInBounds ((ws ++ [y]).toArray.size - 1))
  rw [obj_eq ((Obj.cls_mapSeq ..).trans rfl) ⟨hd2.1, hd2.2⟩ hd'] at hfin
  have he : (ws ++ [y]).toArray.eraseIdxIfInBounds ((ws ++ [y]).toArray.size - 1) = ws.toArray := by
    rw [hsz]
    apply Array.ext'
    simp only [Array.toList_eraseIdxIfInBounds]
    rw [List.eraseIdx_append_of_length_le (Nat.le_refl _)]
    simp
  rw [he] at hfin
  exact hQ _ n' hfin (Heap.SameBut.update ..)

/-- x.name(y.pop()) -/
theorem Sx.methPop {x y : String} {R R' : Res} {name : Str} {f : Addr} {sl : List Slot} {d d' : D} {xp ap pos epos py apy posy : Pos} (hxy : x ≠ y) (hx : ρ.lookup x = some (.res R)) (hy : ρ.lookup y = some (.own (sl ++ [.val d]))) (hd : d.hard = true) (hv : R'.v = R.v) (hfc : Callee c (.ref f))
    (hm : ∀ (A : Around) (s : Shared) (fp : List Addr) (pl : Sem Bool) (E : Value → Shared → Prop) (Q : Value × List Value → Shared → Prop), Keeps c.base s.heap → R.P fp s.heap → Q (.ref f, [R.v]) s → wpAny c.M A (getMethod R.v name pl) Q E s)
    (h : FnP c n (.ref f) R [d] R' d') (hz : sl.length ≤ 1000000)
    (hline : (ap.endLine == pos.line) = true := by rfl) (hliney : (apy.endLine == posy.line) = true := by rfl) (hxd : x ≠ "__debug__" := by decide) (hyd : y ≠ "__debug__" := by decide)
    (hbase : ∀ env : Env, attributeBase (.Name (Str.ofString x) xp) name env (eval (.Name (Str.ofString x) xp) env) = eval (.Name (Str.ofString x) xp) env := by intro _; rfl)
    (hbasey : ∀ env : Env, attributeBase (.Name (Str.ofString y) py) (Str.ofString "pop") env (eval (.Name (Str.ofString y) py) env) = eval (.Name (Str.ofString y) py) env := by intro _; rfl)
    (hsw : ∀ env : Env, swapsWith (.Call (.Attribute (.Name (Str.ofString x) xp) name ap) [.Call (.Attribute (.Name (Str.ofString y) py) (Str.ofString "pop") apy) [] [] posy] [] pos) none epos.line env = pure false := by intro _; rfl) :
    Sn c n sc ρ (.Expr (.Call (.Attribute (.Name (Str.ofString x) xp) name ap) [.Call (.Attribute (.Name (Str.ofString y) py) (Str.ofString "pop") apy) [] [] posy] [] pos) epos) (setS (setS ρ y (.own sl)) x (.res R')) := .mk fun A env V0 h0 Cs X s hA hO F => by
  obtain ⟨fp, fps', O⟩ := F.opR hx
  obtain ⟨b, fpj, fpt', Oy⟩ := F.opn hy
  have hi : interactive env = false := by
    unfold interactive
    rw [F.scope, F.kind]; rfl
  refine wpAny_Expr_any (Call_meth (hbase env) rfl rfl hline (O.load F hxd fun pl => hm A s fp pl _ _ (F.base.trans F.keep) O.p ?_)) hi (hsw env)
  refine hfc.wp rfl (wpAny_items_cons ?_)
  refine wpAny_Call_method (T := "list") (id := "list.pop") (hbasey env) rfl hliney PySem.F.plainAttrs_list PySem.F.slot_list_pop PySem.F.type_list_pop ?_
  refine Oy.load F hyd ?_
  obtain ⟨vs, mm, g4, g5⟩ := Oy.lst
  refine ⟨⟨_, g4, rfl⟩, fun b hb => by cases hb; exact ⟨_, g4, rfl⟩, (Callee.builtin (c := c) "list.pop").wp (first := [.ref b]) rfl ?_⟩
  refine wpAny_items_nil ⟨F.base.trans F.keep, ?_⟩
  obtain ⟨ws, v, hvs, g6, rv⟩ := g5.last
  have hvs' : vs = (ws ++ [v]).toArray := by rw [← hvs]
  rw [hvs'] at g4
  have hlw : sl.length = ws.length := g6.length
  refine pop_last g4 (by omega) fun h' n' hfin hsb => ?_
  have hcm : Calm (Vol V0 X) s { s with heap := h' } := calm_at (tk := s.toks) hsb (.inr Oy.aX) (Nat.le_refl _)
  have hnd := (List.nodup_append.mp (List.nodup_cons.mp Oy.nd).2).2.1
  have hbf : b ∉ fpj := fun q => (List.nodup_cons.mp hnd).1 (List.mem_append_left _ q)
  obtain ⟨X', gst, F'⟩ := Oy.close F (sl' := sl) (tk := s.toks) hsb (Nat.le_refl _) hfin (by
    exact g6.calm hcm (fun _ q => q) fun b' hb o e => (hsb.2 b' fun q => hbf (q ▸ hb)).trans e)
  refine wpAny_items_nil ⟨F'.base.trans F'.keep, ?_⟩
  have hx' : (setS ρ y (.own sl)).lookup x = some (.res R) := by
    unfold setS
    rw [List.lookup_cons]
    have : (x == y) = false := by simpa using hxy
    rw [this, delS_lookup hxy]; exact hx
  obtain ⟨fp', fps'', O'⟩ := F'.opR hx'
  have hfx := O'.fpX
  have rv' : ∀ V, Rep c V { s with heap := h' } d v := fun V => by
    cases rv.fixed hd <;> constructor
  refine wpAny_mono (h.run A (fun a => Vol V0 X' a ∧ a ∉ fp') { s with heap := h' } [v] fp' hA ((F'.st true).weak fun a q => ⟨rfl, q.1⟩) (fun a ha q => q.2 ha) O'.fpN (fun a ha => ?_) O'.p (.cons (rv' _) .nil)) (fun v s₃ q => ?_) fun _ _ q => q.elim
  · cases e : c.base.get? a with
    | none => rfl
    | some o => have := F'.base a o e; rw [F'.new a (hfx a ha)] at this; cases this
  · obtain ⟨fp₂, t, hP', hn', _⟩ := q
    obtain ⟨X₂, t', F₂⟩ := O'.close F' hv t (fun b hb => nomatch hb) hP' hn'
    exact ⟨X₂, _, .next, gst.trans t', F₂, .next, rfl, rfl⟩
end
end Mine
set_option maxRecDepth 100000
namespace Mine

structure K11 (c : Cx) (K : Frag) (kvs : List (Str × Value)) (ep : Nat) : Prop where
  Y : KC c K 143 60 37 kvs ep
  W : WC c K 143
  m1 : Mth c K 143 "start_ns" 106
  m2 : Mth c K 143 "start" 113
  m3 : Mth c K 143 "end" 126
  m4 : Mth c K 143 "data" 90
  m5 : Mth c K 143 "comment" 133
  m6 : Mth c K 143 "pi" 140
  m7 : Mth c K 143 "_flush" 99
  d1 : IsDef c 106 (msc 6) ["self", "prefix", "uri"] (mbd 6)
  d2 : IsDef c 113 (msc 7) ["self", "tag", "attrs"] (mbd 7)
  d3 : IsDef c 126 (msc 9) ["self", "tag"] (mbd 9)
  d4 : IsDef c 90 (msc 4) ["self", "data"] (mbd 4)
  d5 : IsDef c 133 (msc 10) ["self", "text"] (mbd 10)
  d6 : IsDef c 140 (msc 11) ["self", "target", "data"] (mbd 11)
  d7 : ∀ v, IsDefB c 99 (msc 5) ["self", "_join_text"] (mbd 5) ⟨[v], []⟩ [v, .ref 91]
  nl7 : ¬ c.lsc (msc 5)
  jo : ∃ t, c.base.get? 91 = some (boundVal "str.join" (.str (S []) t))
  cc : IsDef c 154 (sc11 7) ["text"] (bd11 7)
  rs : IsDef c 44 (sc11 4) ["text"] (bd11 4)
  tx : IsDef c 168 (sc11 10) ["q"] (bd11 10)
  rf : IsDef c 173 (sc11 11) ["text"] (bd11 11)
  rd : IsDef c 180 (sc11 12) ["writer", "kind", "what"] (bd11 12)
  law : IsDefL c 187 (sc11 13) ["script"] (bd11 13)
  lsc : c.lsc (sc11 13)
  gcc : c.mg (Str.ofString "_escape_cdata_c14n") = some (.ref 154)
  grs : c.mg (Str.ofString "_raise_serialization_error") = some (.ref 44)
  gtx : c.mg (Str.ofString "_law_text") = some (.ref 168)
  grf : c.mg (Str.ofString "_law_refer") = some (.ref 173)
  grd : c.mg (Str.ofString "_law_refused") = some (.ref 180)
  gC : c.mg (Str.ofString "C14NWriterTarget") = some (.ref 143)
  B : B11 c
  BX : BX c
  Bt : B11t c
  sum : c.mg (Str.ofString "sum") = none ∧ c.mb (Str.ofString "sum") = some (.builtin "sum")
  len : c.mg (Str.ofString "len") = none ∧ c.mb (Str.ofString "len") = some (.builtin "len")

/-- what is no text -/
noncomputable def otherD (q : Int) : D := [D.int (5 + q.fmod 1000), .none, .bytes [97, 38, 98], .int 0].getD (q.fmod 4).toNat .none
noncomputable def otherR (q : Int) : List Nat × String := [(intL (5 + q.fmod 1000), "int"), (cs "None", "NoneType"), (cs "b'a&b'", "bytes"), (intL 0, "int")].getD (q.fmod 4).toNat ([], "")
noncomputable def otherW (q : Int) : List Nat := wordsOf (otherR q).1 (cs (otherR q).2)
theorem q4_cases (q : Int) : q.fmod 4 = 0 ∨ q.fmod 4 = 1 ∨ q.fmod 4 = 2 ∨ q.fmod 4 = 3 := by
  have h1 := Int.fmod_nonneg_of_pos q (b := 4) (by decide)
  have h2 := Int.fmod_lt_of_pos q (b := 4) (by decide)
  omega
theorem q1000 (q : Int) : 0 ≤ q.fmod 1000 ∧ q.fmod 1000 < 1000 := ⟨Int.fmod_nonneg_of_pos _ (by decide), Int.fmod_lt_of_pos _ (by decide)⟩
section
variable {c : Cx}
theorem other_ok (q : Int) : ReprOf c (otherD q) (otherR q).1 (otherR q).2 ∧ InX c (otherD q) ∧ ∃ b, TruR c (otherD q) b ∧ (b = true → otherD q ≠ .none ∧ otherD q ≠ .int 0) := by
  have hq := q1000 q
  rcases q4_cases q with h | h | h | h
  · have e1 : otherD q = .int (5 + q.fmod 1000) := by unfold otherD; rw [h]; rfl
    have e2 : otherR q = (intL (5 + q.fmod 1000), "int") := by unfold otherR; rw [h]; rfl
    rw [e1, e2]
    exact ⟨.int (log2_small (by omega)), .int, _, .int, fun _ => ⟨by simp, by simp; omega⟩⟩
  · have e1 : otherD q = .none := by unfold otherD; rw [h]; rfl
    have e2 : otherR q = (cs "None", "NoneType") := by unfold otherR; rw [h]; rfl
    rw [e1, e2]
    exact ⟨.none, .none, _, .none, fun q => nomatch q⟩
  · have e1 : otherD q = .bytes [97, 38, 98] := by unfold otherD; rw [h]; rfl
    have e2 : otherR q = (cs "b'a&b'", "bytes") := by unfold otherR; rw [h]; rfl
    rw [e1, e2]
    exact ⟨.bytes1, .bytes, _, .bytes (by decide), fun _ => ⟨by simp, by simp⟩⟩
  · have e1 : otherD q = .int 0 := by unfold otherD; rw [h]; rfl
    have e2 : otherR q = (intL 0, "int") := by unfold otherR; rw [h]; rfl
    rw [e1, e2]
    exact ⟨.int (by decide), .int, _, .int, fun q => nomatch q⟩
end

theorem ds_rep (d : D) (m : Nat) : Slot.ds (List.replicate m (.val d)) = List.replicate m d := by
  induction m with
  | zero => rfl
  | succ m ih => rw [List.replicate_succ, List.replicate_succ, ← ih]; rfl
/-- [e] * m -/
theorem Ev.timesL {c : Cx} {n : Nat} {sc : Scope} {k : Bool} {ρ : Sto} {e ke : Expr} {lp pos : Pos} {d : D} {m : Nat} (h : Ev c n sc true ρ e d) (hm : Ev c n sc true ρ ke (.int m)) (hz : m ≤ 16777216) (hp : plainE e = true := by rfl) : Ev c n sc k ρ (.BinOp (.List [e] lp) .Mult ke pos) (.list (List.replicate m d)) :=
  .to (EvS.ev (.times h hm hz hp)) (by show D.list (Slot.ds _) = _; rw [ds_rep])

/-- what the law's turns come to -/
structure T11 where
  k : Nat
  st : List (List Nat)
  data : List (List Nat)
  pcs : List (List Nat)
noncomputable def σ11 (c : Cx) (W : WA) (wished : Bool) (b : T11) : Sto :=
  [("writer", .res (WR c 143 W b.k ⟨wished, b.st.length, b.data, b.pcs⟩)), ("pieces", .val (.val (.ref W.pa))), ("due", .val (sd b.pcs.flatten)), ("opened", .own (b.st.map fun l => .val (sd l))), ("wished", .val (.bool wished))]
structure I11 (m : Nat) (b : T11) : Prop where
  k : b.k ≤ 17 + 2 * m
  st : b.st.length ≤ m
  data : b.data.length ≤ m ∧ b.data.flatten.length ≤ 7 * m
  pcs : b.pcs.length ≤ 2 * m ∧ b.pcs.flatten.length ≤ 100 * m

theorem I11.of {m k : Nat} {st data pcs : List (List Nat)} (h1 : k ≤ 17 + 2 * m) (h2 : st.length ≤ m) (h3 : data.length ≤ m) (h4 : data.flatten.length ≤ 7 * m) (h5 : pcs.length ≤ 2 * m) (h6 : pcs.flatten.length ≤ 100 * m) : I11 m ⟨k, st, data, pcs⟩ := ⟨h1, h2, ⟨h3, h4⟩, h5, h6⟩
section
variable {c : Cx} {n : Nat}
theorem ItemR.listLast {ds : List D} {d : D} (hd : ds.getLast? = some d) : ItemR c (.list ds) (.int (-1)) d := by
  have hne : ds ≠ [] := by rintro rfl; cases hd
  have hl : 0 < ds.length := List.length_pos_iff.mpr hne
  exact ItemR.listNeg (m := 1) (by decide) hl (by rw [List.getLast?_eq_getElem?] at hd; exact hd) (by decide)
theorem ds11 (st : List (List Nat)) : (Slot.own (st.map fun l => .val (sd l))).d = .list (st.map sd) := by
  show D.list _ = _
  rw [ds_vals]
theorem InpR.catTo {a b d : List Nat} (h : a ++ b = d) (hz : d.length ≤ 16777216) : InpR c .Add (sd a) (sd b) (sd d) := by
  subst h; exact .cat (by simpa using hz)
theorem SubS.self11 {W : WA} {wished : Bool} (b : T11) : SubS (σ11 c W wished b) (σ11 c W wished b) := .cons rfl (.cons rfl (.cons rfl (.cons rfl (.cons rfl .nil))))
theorem getD_some {α : Type} {l : List α} {i : Nat} {x : α} (h : i < l.length) : l[i]? = some (l.getD i x) := by
  rw [List.getD_eq_getElem?_getD, List.getElem?_eq_getElem h]; rfl
noncomputable def wordsL (q : Int) : List (List Nat) := [cs "cannot serialize " ++ intL (5 + q.fmod 1000) ++ cs " (type int)", cs "cannot serialize None (type NoneType)", cs "cannot serialize b'a&b' (type bytes)", cs "cannot serialize 0 (type int)"]
theorem wordsL_eq (q : Int) : (wordsL q).getD (q.fmod 4).toNat [] = otherW q := by
  have e1 : cs " (type int)" = cs " (type " ++ (cs "int" ++ cs ")") := by decide
  rcases q4_cases q with h | h | h | h
  · unfold otherW otherR wordsL; rw [h]; show _ = wordsOf _ _; unfold wordsOf
    show cs "cannot serialize " ++ intL (5 + q.fmod 1000) ++ cs " (type int)" = _
    rw [e1]; simp only [List.append_assoc]; rfl
  · unfold otherW otherR wordsL; rw [h]; show cs "cannot serialize None (type NoneType)" = wordsOf (cs "None") (cs "NoneType"); decide
  · unfold otherW otherR wordsL; rw [h]; show cs "cannot serialize b'a&b' (type bytes)" = wordsOf (cs "b'a&b'") (cs "bytes"); decide
  · unfold otherW otherR wordsL; rw [h]; show cs "cannot serialize 0 (type int)" = wordsOf (intL 0) (cs "int"); decide
end

noncomputable def st1 : List Stmt → Stmt
  | s :: _ => s
  | _ => .Pass ⟨0, 0, 0, 0⟩
noncomputable def ifB : Stmt → List Stmt
  | .If _ b _ _ => b
  | _ => []
noncomputable def ifO : Stmt → List Stmt
  | .If _ _ o _ => o
  | _ => []
noncomputable def stF : List Stmt → List Stmt
  | _ :: _ :: _ :: _ :: _ :: .For _ _ b _ _ :: _ => b
  | _ => []
noncomputable def st5 : List Stmt → Stmt
  | _ :: _ :: _ :: _ :: s :: _ => s
  | _ => .Pass ⟨0, 0, 0, 0⟩
/-- the five-way choice of a turn -/
noncomputable abbrev if11 : Stmt := st5 (stF (bd11 13))
noncomputable abbrev brA : List Stmt := ifB if11
noncomputable abbrev brB : List Stmt := ifB (st1 (ifO if11))
noncomputable abbrev brC : List Stmt := ifB (st1 (ifO (st1 (ifO if11))))
noncomputable abbrev brD : List Stmt := ifB (st1 (ifO (st1 (ifO (st1 (ifO if11))))))
noncomputable abbrev brE : List Stmt := ifO (st1 (ifO (st1 (ifO (st1 (ifO if11))))))
noncomputable def ρ11 (c : Cx) (W : WA) (wished : Bool) (b : T11) (κ q : Int) : Sto := ("refused", .val (sd [])) :: ("words", .val (sd (otherW q))) :: ("other", .val (otherD q)) :: ("kind", .val (.int κ)) :: ("q", .val (.int q)) :: σ11 c W wished b
noncomputable abbrev P11 (c : Cx) (W : WA) (wished : Bool) (m : Nat) : AF → Sto → Prop := fun af ρ' => af = .next ∧ ∃ b', I11 (m + 1) b' ∧ SubS (σ11 c W wished b') ρ'
end Mine
set_option maxRecDepth 100000
namespace Mine
section
variable {c : Cx} {K : Frag} {kvs : List (Str × Value)} {ep : Nat} {W : WA} {wished : Bool} {b : T11} {κ q : Int} {m : Nat}

theorem brA11 (KK : K11 c K kvs ep) (hI : I11 m b) (hm : m ≤ 128) (h : κ < 2) (h0 : 0 ≤ κ) : Tr c 39 (sc11 13) (ρ11 c W wished b κ q) brA (P11 c W wished m) := by
  obtain ⟨hk, hst, ⟨hd1, hd2⟩, hp1, hp2⟩ := hI
  obtain ⟨t, hjo⟩ := KK.jo
  obtain ⟨k', data', hk', hd', hf⟩ : ∃ k' data', k' ≤ b.k + 1 ∧ (data' = [] ∨ data' = b.data) ∧ FnP c 39 (.ref 106) (WR c 143 W b.k ⟨wished, b.st.length, b.data, b.pcs⟩) [sd (cs "p"), sd (cs "urn:p")] (WR c 143 W k' ⟨wished, b.st.length, data', b.pcs⟩) .none := by
    by_cases hs : b.st.length = 0
    · exact ⟨b.k + 1, [], Nat.le_refl _, .inl rfl, startns_on (n := 38) KK.W KK.m7 KK.d1 hs (by show b.data.length ≤ _; omega) (by omega) (flush_fn (n := 37) KK.W KK.d7 KK.nl7 hjo (by show b.data.flatten.length ≤ _; omega) (by show b.data.length ≤ _; omega))⟩
    · exact ⟨b.k, b.data, Nat.le_succ _, .inr rfl, startns_off (n := 38) KK.W KK.d1 (by show 0 < b.st.length; omega)⟩
  refine .step (.methP (R' := WR c 143 W k' ⟨wished, b.st.length, data', b.pcs⟩) rfl rfl KK.m1.cal (WR.meth KK.W KK.m1.mem KK.m1.find KK.m1.type) (.cons .lit (.cons .lit .nil)) hf rfl) ?_
  let nm : List Nat := if κ = 0 ∨ b.st = [] then cs "x" else cs "y"
  refine .step (.append (sl := b.st.map fun l => .val (sd l)) (d := sd nm) rfl (.ite (.boolop (.or (.cmp (.name rfl) .int .eqI) fun _ => .or (.cmp (.look rfl (ds11 _)) (.list .nil (Nat.zero_le _)) .eqNil) fun _ => .nilOr)) (fun hb => ?_) fun hb => ?_) (by simp; omega)) ?_
  · have : nm = cs "x" := if_pos (by simpa using hb)
    rw [this]; exact .lit
  · have : nm = cs "y" := if_neg (by simpa using hb)
    rw [this]; exact .lit
  refine Tr.last (Sx.mono (.methP (R' := WR c 143 W (k' + 1) ⟨wished, b.st.length + 1, data', b.pcs⟩) rfl rfl KK.m2.cal (WR.meth KK.W KK.m2.mem KK.m2.find KK.m2.type) (.cons (d := sd nm) (.lookAt (.subL (ds := (b.st ++ [nm]).map sd) (.look rfl ?_) (.neg .int) (.listLast (by simp))) rfl) (.cons (.dict (.cons .lit .lit .nil) (by simp) (by simp) (by simp)) .nil)) (start_fn (n := 38) KK.W KK.d2 ?_ (by omega)) rfl) ?_)
  · have := ds11 (b.st ++ [nm])
    rw [List.map_append] at this
    exact this
  · by_cases hs : b.st = []
    · exact .inr (if_pos (.inr hs))
    · exact .inl (List.length_pos_iff.mpr hs)
  · rintro af ρ' ⟨rfl, rfl⟩
    refine ⟨rfl, ⟨k' + 1, b.st ++ [nm], data', b.pcs⟩, .of (by omega) (by simp; omega) ?_ ?_ (by omega) (by omega), ?_⟩
    · rcases hd' with rfl | rfl
      · exact Nat.zero_le _
      · omega
    · rcases hd' with rfl | rfl
      · exact Nat.zero_le _
      · omega
    · refine .cons ?_ (.cons rfl (.cons rfl (.cons ?_ (.cons rfl .nil))))
      · show some (Slot.res (WR c 143 W (k' + 1) ⟨wished, b.st.length + 1, data', b.pcs⟩)) = some (Slot.res (WR c 143 W (k' + 1) ⟨wished, (b.st ++ [nm]).length, data', b.pcs⟩))
        rw [List.length_append]; rfl
      · show some (Slot.own (b.st.map (fun l => .val (sd l)) ++ [.val (sd nm)])) = some (Slot.own ((b.st ++ [nm]).map fun l => .val (sd l)))
        rw [List.map_append]; rfl

theorem brB11 (KK : K11 c K kvs ep) (hI : I11 m b) (hm : m ≤ 128) (h : b.st ≠ []) : Tr c 39 (sc11 13) (ρ11 c W wished b κ q) brB (P11 c W wished m) := by
  obtain ⟨hk, hst, ⟨hd1, hd2⟩, hp1, hp2⟩ := hI
  obtain ⟨st, l, e⟩ : ∃ st l, b.st = st ++ [l] := ⟨b.st.dropLast, b.st.getLast h, (List.dropLast_concat_getLast h).symm⟩
  have hl : b.st.length = st.length + 1 := by rw [e]; simp
  refine .last (.mono (.methPop (R := WR c 143 W b.k ⟨wished, b.st.length, b.data, b.pcs⟩) (R' := WR c 143 W (b.k + 1) ⟨wished, b.st.length - 1, b.data, b.pcs⟩) (sl := st.map fun l => .val (sd l)) (d := sd l) (by decide) rfl ?_ rfl rfl KK.m3.cal (WR.meth KK.W KK.m3.mem KK.m3.find KK.m3.type) (end_fn (n := 38) KK.W KK.d3 (by show 0 < b.st.length; omega) (by omega)) (by simp; omega)) ?_)
  · show some (Slot.own (b.st.map fun l => .val (sd l))) = _
    rw [e, List.map_append]; rfl
  · rintro af ρ' ⟨rfl, rfl⟩
    refine ⟨rfl, ⟨b.k + 1, st, b.data, b.pcs⟩, .of (by omega) (by omega) (by omega) (by omega) (by omega) (by omega), ?_⟩
    refine .cons ?_ (.cons rfl (.cons rfl (.cons rfl (.cons rfl .nil))))
    show some (Slot.res (WR c 143 W (b.k + 1) ⟨wished, b.st.length - 1, b.data, b.pcs⟩)) = some (Slot.res (WR c 143 W (b.k + 1) ⟨wished, st.length, b.data, b.pcs⟩))
    rw [hl]; rfl

theorem brC11 (KK : K11 c K kvs ep) (hI : I11 m b) (hm : m ≤ 128) : Tr c 39 (sc11 13) (ρ11 c W wished b κ q) brC (P11 c W wished m) := by
  obtain ⟨hk, hst, ⟨hd1, hd2⟩, hp1, hp2⟩ := hI
  have htl := text11_len q
  obtain ⟨data', h1, h2, hf⟩ : ∃ data' : List (List Nat), data'.length ≤ m + 1 ∧ data'.flatten.length ≤ 7 * (m + 1) ∧ FnP c 39 (.ref 90) (WR c 143 W b.k ⟨wished, b.st.length, b.data, b.pcs⟩) [sd (text11 q)] (WR c 143 W b.k ⟨wished, b.st.length, data', b.pcs⟩) .none := by
    have := data_fn (n := 38) (y := text11 q) (k := b.k) (W := W) (σ := ⟨wished, b.st.length, b.data, b.pcs⟩) KK.W KK.d4 (by show b.data.length ≤ _; omega)
    by_cases hs : b.st.length = 0
    · rw [if_pos hs] at this
      exact ⟨b.data ++ [text11 q], by simp; omega, by rw [List.flatten_append, List.length_append, List.flatten_cons, List.flatten_nil, List.append_nil]; omega, this⟩
    · rw [if_neg hs] at this
      exact ⟨b.data, by omega, by omega, this⟩
  refine .last (.mono (.methP (R' := WR c 143 W b.k ⟨wished, b.st.length, data', b.pcs⟩) rfl rfl KK.m4.cal (WR.meth KK.W KK.m4.mem KK.m4.find KK.m4.type) (.cons (.call (.glob KK.gtx) KK.tx.callee (.cons (.name rfl) .nil) (text11_fn (n := 38) KK.Y.hn KK.tx KK.Bt)) .nil) hf rfl) ?_)
  rintro af ρ' ⟨rfl, rfl⟩
  exact ⟨rfl, ⟨b.k, b.st, data', b.pcs⟩, .of (by omega) (by omega) h1 h2 (by omega) (by omega), .cons rfl (.cons rfl (.cons rfl (.cons rfl (.cons rfl .nil))))⟩

theorem esc_len (q : Int) : ((text11 q).flatMap (wrT tCc)).length ≤ 42 := by
  have := flatMap_len (wrT_len (t := tCc) (m := 6) (by decide) (by decide)) (text11 q)
  have := text11_len q
  omega

noncomputable abbrev com11 (y : List Nat) : List Nat := cs "<!--" ++ (y.flatMap (wrT tCc) ++ (cs "-->" ++ []))
theorem due_com (pcs : List (List Nat)) (y : List Nat) : pcs.flatten ++ (cs "<!--" ++ y.flatMap (wrT tCc) ++ cs "-->\n") = (pcs ++ [com11 y] ++ [cs "\n"]).flatten := by
  have e : cs "-->\n" = cs "-->" ++ cs "\n" := by decide
  rw [e]; simp
theorem two_len (pcs : List (List Nat)) (A : List Nat) (h1 : pcs.length ≤ 2 * m) (h2 : pcs.flatten.length ≤ 100 * m) (hA : A.length ≤ 90) : (pcs ++ [A] ++ [cs "\n"]).length ≤ 2 * (m + 1) ∧ (pcs ++ [A] ++ [cs "\n"]).flatten.length ≤ 100 * (m + 1) := by
  have e : (cs "\n").length = 1 := by decide
  refine ⟨by simp; omega, ?_⟩
  rw [List.flatten_append, List.flatten_append, List.length_append, List.length_append]
  simp only [List.flatten_cons, List.flatten_nil, List.append_nil, e]
  omega

set_option maxHeartbeats 1000000 in
theorem brD11 (KK : K11 c K kvs ep) (hI : I11 m b) (hm : m ≤ 128) (h : κ = 4 ∨ κ = 5) : Tr c 39 (sc11 13) (ρ11 c W wished b κ q) brD (P11 c W wished m) := by
  obtain ⟨hk, hst, ⟨hd1, hd2⟩, hp1, hp2⟩ := hI
  have htl := text11_len q
  have hel := esc_len q
  have hn := KK.Y.hn
  have hcm := @comment_off
  by_cases hw : wished = true ∧ b.st = []
  · obtain ⟨rfl, hs⟩ := hw
    have hsl : b.st.length = 0 := by rw [hs]; rfl
    rcases h with rfl | rfl
    · have hon := comment_on (n := 37) (y := text11 q) (k := b.k) (W := W) (σ := ⟨true, b.st.length, b.data, b.pcs⟩) KK.W KK.d5 KK.gcc KK.cc.callee (cc11_fn (n := 36) KK.cc (by omega)) (by omega) (by show b.pcs.length ≤ _; omega) rfl hsl
      obtain ⟨hl1, hl2⟩ := two_len (m := m) b.pcs (com11 (text11 q)) hp1 hp2 (by
        have e1 : (cs "<!--").length = 4 := by decide
        have e2 : (cs "-->").length = 3 := by decide
        simp only [com11, List.length_append, e1, e2, List.length_nil]; omega)
      refine .step (.assignP (R' := WR c 143 W b.k ⟨true, b.st.length, b.data, b.pcs ++ [com11 (text11 q)] ++ [cs "\n"]⟩) (d := sd []) rfl rfl (.glob KK.grd) KK.rd.callee (.cons .lit (.cons (.ite (.cmp (.name rfl) .int .eqI) (fun _ => .call (.glob KK.gtx) KK.tx.callee (.cons (.name rfl) .nil) (text11_fn (n := 38) hn KK.tx KK.Bt)) (fun q => nomatch q)) .nil)) (refused_com (n := 38) KK.W KK.m5 KK.rd hon) rfl (.inl rfl)) ?_
      refine .step (.ite (b := true) (.to (.boolop (.and (.val (.name rfl) TruR.bool) fun _ => .and (.cmp (.look rfl (ds11 _)) (.list .nil (Nat.zero_le _)) .eqNil) fun _ => .nilAnd)) (by rw [hs]; rfl)) (fun _ => .step (.ite (b := true) (.cmp (.name rfl) .int .eqI) (fun _ => .last (.aug (d := sd (b.pcs ++ [com11 (text11 q)] ++ [cs "\n"]).flatten) rfl (.bin (.bin .lit (.call (.glob KK.grf) KK.rf.callee (.cons (.call (.glob KK.gtx) KK.tx.callee (.cons (.name rfl) .nil) (text11_fn (n := 38) hn KK.tx KK.Bt)) .nil) (refer11_fn (n := 38) hn KK.rf (by omega))) (.cat ?_)) .lit (.cat ?_)) (.catTo (due_com _ _) (by omega)) (.inl rfl))) (fun q => nomatch q)) (.last (.assign (d := sd []) (.ite (x := false) (.to (.cmp (.name rfl) .int .eqI) (by decide)) (fun q => nomatch q) fun _ => .lit) (.inl rfl)))) (fun q => nomatch q)) ?_
      · have e1 : (cs "<!--").length = 4 := by decide
        omega
      · have e1 : (cs "<!--").length = 4 := by decide
        have e2 : (cs "-->\n").length = 4 := by decide
        rw [List.length_append]; omega
      refine .last (.ite (b := false) (.to (.cmp (.name rfl) (.name rfl) .neS) (by decide)) (fun q => nomatch q) fun _ => .nil ?_)
      exact ⟨rfl, ⟨b.k, b.st, b.data, b.pcs ++ [com11 (text11 q)] ++ [cs "\n"]⟩, .of (by omega) (by omega) (by omega) (by omega) hl1 hl2, .cons rfl (.cons rfl (.cons rfl (.cons rfl (.cons rfl .nil))))⟩
    · obtain ⟨hr, hin, _⟩ := other_ok (c := c.h) q
      have hin' := (other_ok (c := c) q).2.1
      have hx := comment_raises (n := 37) (k := b.k) (W := W) (σ := ⟨true, b.st.length, b.data, b.pcs⟩) KK.W KK.d5 KK.gcc KK.cc.callee (cc11_x (n := 35) hn KK.rs KK.grs KK.cc KK.BX hin' hr) rfl hsl
      refine .step (.assignQ (R := WR c 143 W b.k ⟨true, b.st.length, b.data, b.pcs⟩) (m := otherW q) hn KK.lsc (by decide) rfl (.glob KK.grd) KK.rd.callee (.cons .lit (.cons (.ite (x := false) (.to (.cmp (.name rfl) .int .eqI) (by decide)) (fun q => nomatch q) (fun _ => .name rfl)) .nil)) (refused_com_x hn KK.W KK.B KK.m5 KK.rd hx) (.inl rfl)) ?_
      refine .step (.ite (b := true) (.to (.boolop (.and (.val (.name rfl) TruR.bool) fun _ => .and (.cmp (.look rfl (ds11 _)) (.list .nil (Nat.zero_le _)) .eqNil) fun _ => .nilAnd)) (by rw [hs]; rfl)) (fun _ => .step (.ite (b := false) (.to (.cmp (.name rfl) .int .eqI) (by decide)) (fun q => nomatch q) (fun _ => .nil ⟨rfl, rfl⟩)) (.last (.assign (d := sd (otherW q)) (.ite (x := true) (.to (.cmp (.name rfl) .int .eqI) (by decide)) (fun _ => .name rfl) (fun q => nomatch q)) (.inl rfl)))) (fun q => nomatch q)) ?_
      refine .last (.ite (b := false) (.to (.cmp (.name rfl) (.name rfl) .neS) (by simp)) (fun q => nomatch q) fun _ => .nil ?_)
      exact ⟨rfl, ⟨b.k, b.st, b.data, b.pcs⟩, .of (by omega) (by omega) (by omega) (by omega) (by omega) (by omega), .cons rfl (.cons rfl (.cons rfl (.cons rfl (.cons rfl .nil))))⟩
  · have hoff := comment_off (n := 37) (k := b.k) (W := W) (σ := ⟨wished, b.st.length, b.data, b.pcs⟩) (d := if κ = 4 then sd (text11 q) else otherD q) KK.W KK.d5 (by
      cases hwi : wished with
      | false => exact .inl rfl
      | true =>
        refine .inr (List.length_pos_iff.mpr fun q => hw ⟨hwi, q⟩))
    refine .step (.assignP (R' := WR c 143 W b.k ⟨wished, b.st.length, b.data, b.pcs⟩) (d := sd []) rfl rfl (.glob KK.grd) KK.rd.callee (.cons .lit (.cons (d := if κ = 4 then sd (text11 q) else otherD q) (.ite (.cmp (.name rfl) .int .eqI) (fun hb => ?_) (fun hb => ?_)) .nil)) (refused_com (n := 38) KK.W KK.m5 KK.rd hoff) rfl (.inl rfl)) ?_
    · rw [if_pos (by simpa using hb)]
      exact .call (.glob KK.gtx) KK.tx.callee (.cons (.name rfl) .nil) (text11_fn (n := 38) hn KK.tx KK.Bt)
    · rw [if_neg (by simpa using hb)]
      exact .name rfl
    refine .step (.ite (b := false) (.to (.boolop (.and (.val (.name rfl) TruR.bool) fun _ => .and (.cmp (.look rfl (ds11 _)) (.list .nil (Nat.zero_le _)) .eqNil) fun _ => .nilAnd)) ?_) (fun q => nomatch q) (fun _ => .nil ⟨rfl, rfl⟩)) ?_
    · cases wished with
      | false => rfl
      | true => simpa using hw
    refine .last (.ite (b := false) (.to (.cmp (.name rfl) (.name rfl) .neS) (by decide)) (fun q => nomatch q) fun _ => .nil ?_)
    exact ⟨rfl, ⟨b.k, b.st, b.data, b.pcs⟩, .of (by omega) (by omega) (by omega) (by omega) (by omega) (by omega), .cons rfl (.cons rfl (.cons rfl (.cons rfl (.cons rfl .nil))))⟩

noncomputable abbrev pi11 (y : List Nat) : List Nat := cs "<?" ++ (cs "t" ++ (cs " " ++ (y.flatMap (wrT tCc) ++ (cs "?>" ++ []))))
noncomputable abbrev bare11 : List Nat := cs "<?" ++ (cs "t" ++ (cs "?>" ++ []))
theorem due_pi (pcs : List (List Nat)) (y : List Nat) : pcs.flatten ++ (cs "<?t " ++ y.flatMap (wrT tCc) ++ cs "?>\n") = (pcs ++ [pi11 y] ++ [cs "\n"]).flatten := by
  have e : cs "?>\n" = cs "?>" ++ cs "\n" := by decide
  have e2 : cs "<?t " = cs "<?" ++ (cs "t" ++ cs " ") := by decide
  rw [e, e2]; simp
theorem due_bare (pcs : List (List Nat)) : pcs.flatten ++ cs "<?t?>\n" = (pcs ++ [bare11] ++ [cs "\n"]).flatten := by
  have e : cs "<?t?>\n" = cs "<?" ++ (cs "t" ++ (cs "?>" ++ cs "\n")) := by decide
  rw [e]; simp

set_option maxHeartbeats 1000000 in
theorem brE11 (KK : K11 c K kvs ep) (hI : I11 m b) (hm : m ≤ 128) (h : κ = 6 ∨ κ = 7) : Tr c 39 (sc11 13) (ρ11 c W wished b κ q) brE (P11 c W wished m) := by
  obtain ⟨hk, hst, ⟨hd1, hd2⟩, hp1, hp2⟩ := hI
  have htl := text11_len q
  have hel := esc_len q
  have hn := KK.Y.hn
  let d : D := if κ = 6 ∧ q.fmod 7 > 0 then sd (text11 q) else if κ = 6 then .none else otherD q
  have hdt : ∃ tb, TruR c d tb ∧ (tb = true → (κ = 6 ∧ d = sd (text11 q) ∧ text11 q ≠ []) ∨ (κ = 7 ∧ d = otherD q)) := by
    by_cases h1 : κ = 6 ∧ q.fmod 7 > 0
    · have e : d = sd (text11 q) := if_pos h1
      rw [e]
      exact ⟨_, TruR.text (by omega), fun q => .inl ⟨h1.1, rfl, by simpa using q⟩⟩
    · by_cases h2 : κ = 6
      · have e : d = .none := (if_neg h1).trans (if_pos h2)
        rw [e]
        exact ⟨_, .none, fun q => nomatch q⟩
      · have e : d = otherD q := (if_neg h1).trans (if_neg h2)
        rw [e]
        obtain ⟨_, _, tb, ht, _⟩ := other_ok (c := c) q
        exact ⟨tb, ht, fun _ => .inr ⟨h.resolve_left h2, rfl⟩⟩
  refine .step (.assign (d := d) (.ite (.boolop (.and (.cmp (.name rfl) .int .eqI) fun _ => .and (.cmp (.bin (.name rfl) .int (.fmod (by decide))) .int .gtI) fun _ => .nilAnd)) (fun hb => ?_) (fun hb => .ite (.cmp (.name rfl) .int .eqI) (fun hc => ?_) (fun hc => ?_))) (.inl rfl)) ?_
  · have e : d = sd (text11 q) := if_pos (by simpa using hb)
    rw [e]
    exact .call (.glob KK.gtx) KK.tx.callee (.cons (.name rfl) .nil) (text11_fn (n := 38) hn KK.tx KK.Bt)
  · have e : d = .none := (if_neg (by simpa using hb)).trans (if_pos (by simpa using hc))
    rw [e]
    exact .none
  · have e : d = otherD q := (if_neg (by simpa using hb)).trans (if_neg (by simpa using hc))
    rw [e]
    exact .name rfl
  obtain ⟨tb, ht, htb⟩ := hdt
  generalize d = d at ht htb
  by_cases hs : b.st = []
  · have hsl : b.st.length = 0 := by rw [hs]; rfl
    cases tb with
    | false =>
      have hon := pi_bare (n := 37) (x := cs "t") (k := b.k) (W := W) (σ := ⟨wished, b.st.length, b.data, b.pcs⟩) KK.W KK.d6 (by decide) ht (by show b.pcs.length ≤ _; omega) hsl
      obtain ⟨hl1, hl2⟩ := two_len (m := m) b.pcs bare11 hp1 hp2 (by decide)
      refine .step (.assignP (R' := WR c 143 W b.k ⟨wished, b.st.length, b.data, b.pcs ++ [bare11] ++ [cs "\n"]⟩) (d := sd []) rfl rfl (.glob KK.grd) KK.rd.callee (.cons .lit (.cons (.name rfl) .nil)) (refused_pi (n := 38) KK.W KK.m6 KK.rd hon) rfl (.inl rfl)) ?_
      refine .step (.ite (b := true) (.to (.cmp (.look rfl (ds11 _)) (.list .nil (Nat.zero_le _)) .eqNil) (by rw [hs]; rfl)) (fun _ => .last (.ite (b := true) (.not (.val (.name rfl) ht)) (fun _ => .last (.aug (d := sd (b.pcs ++ [bare11] ++ [cs "\n"]).flatten) rfl .lit (.catTo (due_bare _) (by omega)) (.inl rfl))) (fun q => nomatch q))) (fun q => nomatch q)) ?_
      refine .last (.ite (b := false) (.to (.cmp (.name rfl) (.name rfl) .neS) (by decide)) (fun q => nomatch q) fun _ => .nil ?_)
      exact ⟨rfl, ⟨b.k, b.st, b.data, b.pcs ++ [bare11] ++ [cs "\n"]⟩, .of (by omega) (by omega) (by omega) (by omega) hl1 hl2, .cons rfl (.cons rfl (.cons rfl (.cons rfl (.cons rfl .nil))))⟩
    | true =>
      rcases htb rfl with ⟨rfl, rfl, hne⟩ | ⟨rfl, rfl⟩
      · have hon := pi_on (n := 37) (x := cs "t") (y := text11 q) (k := b.k) (W := W) (σ := ⟨wished, b.st.length, b.data, b.pcs⟩) KK.W KK.d6 KK.gcc KK.cc.callee (cc11_fn (n := 36) KK.cc (by omega)) (by omega) (by decide) hne (by omega) (by show b.pcs.length ≤ _; omega) hsl
        obtain ⟨hl1, hl2⟩ := two_len (m := m) b.pcs (pi11 (text11 q)) hp1 hp2 (by
          have e1 : (cs "<?").length = 2 := by decide
          have e2 : (cs "?>").length = 2 := by decide
          have e3 : (cs "t").length = 1 := by decide
          have e4 : (cs " ").length = 1 := by decide
          simp only [pi11, List.length_append, e1, e2, e3, e4, List.length_nil]; omega)
        refine .step (.assignP (R' := WR c 143 W b.k ⟨wished, b.st.length, b.data, b.pcs ++ [pi11 (text11 q)] ++ [cs "\n"]⟩) (d := sd []) rfl rfl (.glob KK.grd) KK.rd.callee (.cons .lit (.cons (.name rfl) .nil)) (refused_pi (n := 38) KK.W KK.m6 KK.rd hon) rfl (.inl rfl)) ?_
        refine .step (.ite (b := true) (.to (.cmp (.look rfl (ds11 _)) (.list .nil (Nat.zero_le _)) .eqNil) (by rw [hs]; rfl)) (fun _ => .last (.ite (b := false) (.not (.val (.name rfl) ht)) (fun q => nomatch q) (fun _ => .last (.ite (b := true) (.to (.cmp (.name rfl) .int .eqI) (by decide)) (fun _ => .last (.aug (d := sd (b.pcs ++ [pi11 (text11 q)] ++ [cs "\n"]).flatten) rfl (.bin (.bin .lit (.call (.glob KK.grf) KK.rf.callee (.cons (.name rfl) .nil) (refer11_fn (n := 38) hn KK.rf (by omega))) (.cat ?_)) .lit (.cat ?_)) (.catTo (due_pi _ _) (by omega)) (.inl rfl))) (fun q => nomatch q))))) (fun q => nomatch q)) ?_
        · have e1 : (cs "<?t ").length = 4 := by decide
          omega
        · have e1 : (cs "<?t ").length = 4 := by decide
          have e2 : (cs "?>\n").length = 3 := by decide
          rw [List.length_append]; omega
        refine .last (.ite (b := false) (.to (.cmp (.name rfl) (.name rfl) .neS) (by decide)) (fun q => nomatch q) fun _ => .nil ?_)
        exact ⟨rfl, ⟨b.k, b.st, b.data, b.pcs ++ [pi11 (text11 q)] ++ [cs "\n"]⟩, .of (by omega) (by omega) (by omega) (by omega) hl1 hl2, .cons rfl (.cons rfl (.cons rfl (.cons rfl (.cons rfl .nil))))⟩
      · obtain ⟨hr, hin, _⟩ := other_ok (c := c.h) q
        have hin' := (other_ok (c := c) q).2.1
        have hx := pi_raises (n := 37) (x := cs "t") (k := b.k) (W := W) (σ := ⟨wished, b.st.length, b.data, b.pcs⟩) KK.W KK.d6 KK.gcc KK.cc.callee (cc11_x (n := 35) hn KK.rs KK.grs KK.cc KK.BX hin' hr) (by decide) ht hsl
        refine .step (.assignQ (R := WR c 143 W b.k ⟨wished, b.st.length, b.data, b.pcs⟩) (m := otherW q) hn KK.lsc (by decide) rfl (.glob KK.grd) KK.rd.callee (.cons .lit (.cons (.name rfl) .nil)) (refused_pi_x hn KK.W KK.B KK.m6 KK.rd hx) (.inl rfl)) ?_
        refine .step (.ite (b := true) (.to (.cmp (.look rfl (ds11 _)) (.list .nil (Nat.zero_le _)) .eqNil) (by rw [hs]; rfl)) (fun _ => .last (.ite (b := false) (.not (.val (.name rfl) ht)) (fun q => nomatch q) (fun _ => .last (.ite (b := false) (.to (.cmp (.name rfl) .int .eqI) (by decide)) (fun q => nomatch q) (fun _ => .last (.assign (.name rfl) (.inl rfl))))))) (fun q => nomatch q)) ?_
        refine .last (.ite (b := false) (.to (.cmp (.name rfl) (.name rfl) .neS) (by simp)) (fun q => nomatch q) fun _ => .nil ?_)
        exact ⟨rfl, ⟨b.k, b.st, b.data, b.pcs⟩, .of (by omega) (by omega) (by omega) (by omega) (by omega) (by omega), .cons rfl (.cons rfl (.cons rfl (.cons rfl (.cons rfl .nil))))⟩
  · have hoff := pi_off (n := 37) (k := b.k) (W := W) (σ := ⟨wished, b.st.length, b.data, b.pcs⟩) (d₁ := sd (cs "t")) (d₂ := d) KK.W KK.d6 (List.length_pos_iff.mpr hs)
    refine .step (.assignP (R' := WR c 143 W b.k ⟨wished, b.st.length, b.data, b.pcs⟩) (d := sd []) rfl rfl (.glob KK.grd) KK.rd.callee (.cons .lit (.cons (.name rfl) .nil)) (refused_pi (n := 38) KK.W KK.m6 KK.rd hoff) rfl (.inl rfl)) ?_
    refine .step (.ite (b := false) (.to (.cmp (.look rfl (ds11 _)) (.list .nil (Nat.zero_le _)) .eqNil) (by simpa using hs)) (fun q => nomatch q) (fun _ => .nil ⟨rfl, rfl⟩)) ?_
    refine .last (.ite (b := false) (.to (.cmp (.name rfl) (.name rfl) .neS) (by decide)) (fun q => nomatch q) fun _ => .nil ?_)
    exact ⟨rfl, ⟨b.k, b.st, b.data, b.pcs⟩, .of (by omega) (by omega) (by omega) (by omega) (by omega) (by omega), .cons rfl (.cons rfl (.cons rfl (.cons rfl (.cons rfl .nil))))⟩

/-- a turn's choice -/
theorem turn11 (KK : K11 c K kvs ep) (hI : I11 m b) (hm : m ≤ 128) (h0 : 0 ≤ κ) (h8 : κ < 8) : Sx c 39 (sc11 13) (ρ11 c W wished b κ q) if11 (P11 c W wished m) := by
  refine .ite (.cmp (.name rfl) .int .ltI) (fun hb => brA11 KK hI hm (by simpa using hb) h0) (fun hb => .last ?_)
  refine .ite (.boolop (.and (.cmp (.name rfl) .int .eqI) fun _ => .and (.cmp (.look rfl (ds11 _)) (.list .nil (Nat.zero_le _)) .neNil) fun _ => .nilAnd)) (fun hb2 => brB11 KK hI hm (by simp at hb2; exact hb2.2)) (fun hb2 => .last ?_)
  refine .ite (.cmp (.name rfl) .int .ltI) (fun hb3 => brC11 KK hI hm) (fun hb3 => .last ?_)
  refine .ite (.boolop (.or (.cmp (.name rfl) .int .eqI) fun _ => .or (.cmp (.name rfl) .int .eqI) fun _ => .nilOr)) (fun hb4 => brD11 KK hI hm (by simpa using hb4)) (fun hb4 => brE11 KK hI hm ?_)
  simp at hb3 hb4
  omega
end
end Mine
set_option maxRecDepth 100000
namespace Mine
section
variable {c : Cx} {K : Frag} {kvs : List (Str × Value)} {ep : Nat}

set_option maxHeartbeats 4000000 in
theorem law11 (KK : K11 c K kvs ep) {ns : List Int} (hl : ns.length ≤ 63) : FnT c 40 (.ref 187) [.list (ns.map .int)] (.bool true) := by
  have hn := KK.Y.hn
  refine FnT.of (n := 39) KK.law rfl ?_
  -- wished
  refine .step (.assign (d := .bool (decide (ns.sum.fmod 2 = 0))) (.cmp (.bin (.call (.blt KK.sum.1 KK.sum.2) (.builtin _) (.cons (.name rfl) .nil) .sumL) .int (.fmod (by decide))) .int .eqI) (.inl rfl)) ?_
  generalize decide (ns.sum.fmod 2 = 0) = wished
  -- pieces
  refine .step (.assignS (.list .nil (Nat.zero_le _)) (.inl rfl)) ?_
  refine .ofOwn (x := "pieces") rfl fun pa => ?_
  refine .stepX (.mkWriter (n := 37) KK.Y KK.gC rfl rfl rfl (.inl rfl)) ?_
  rintro _ ⟨W, rfl, rfl⟩
  refine .ent (.merge rfl rfl) ?_
  refine .step (.assign .lit (.inl rfl)) ?_
  refine .step (.assignS (.list .nil (Nat.zero_le _)) (.inl rfl)) ?_
  let xs : List Int := ns ++ List.replicate (ns.length + 1) 2 ++ [4, 22]
  have hxs : xs.length ≤ 129 := by simp only [xs, List.length_append, List.length_replicate, List.length_cons, List.length_nil]; omega
  refine .cons (P₁ := fun af _ => af = .next) (.forR (g := D.int) (xs := xs) (d₀ := .list (xs.map .int)) (σ11 c W wished) (fun done b => I11 done.length b) ⟨17, [], [], []⟩ ?_ .list ⟨Nat.le_refl _, Nat.le_refl _, ⟨Nat.le_refl _, Nat.le_refl _⟩, ⟨Nat.le_refl _, Nat.le_refl _⟩⟩ ?_ ?_ fun _ _ => rfl) (fun ρ' _ => .last (.ret .bool rfl)) fun af ρ' h q => absurd q h
  · refine .to (.bin (.bin (.name rfl) (.timesL (m := ns.length + 1) .int (.to (.bin (.call (.blt KK.len.1 KK.len.2) (.builtin _) (.cons (.name rfl) .nil) (.lenL (by simp; omega))) .int .add) (show D.int (((ns.map D.int).length : Int) + 1) = .int ((ns.length + 1 : Nat) : Int) by simp)) (by omega)) (.catL ?_)) (.list (.cons .int (.cons .int .nil)) (by rw [sizeLine_eq]; simp)) (.catL ?_)) ?_
    · simp; omega
    · simp; omega
    · simp [xs]
  · exact .cons rfl (.cons rfl (.cons rfl (.cons rfl (.cons rfl .nil))))
  intro done x rest b e hI
  refine ⟨_, .name (.inl rfl), ?_⟩
  have hdl : done.length ≤ 128 := by
    have := congrArg List.length e
    simp only [List.length_append, List.length_cons] at this
    omega
  refine .step (.assignW (ps := [("kind", .int (x.fmod 8)), ("q", .int (x.fdiv 8))]) (.tuple (.cons (.bin (.name rfl) .int (.fmod (by decide))) (.cons (.bin (.name rfl) .int (.fdiv (by decide) (by decide))) .nil)) (by show 2 ≤ sizeLine; decide)) rfl (by intro env he; obtain ⟨⟩ := env; cases he; rfl)) ?_
  have hκ : 0 ≤ x.fmod 8 ∧ x.fmod 8 < 8 := ⟨Int.fmod_nonneg_of_pos _ (by decide), Int.fmod_lt_of_pos _ (by decide)⟩
  generalize x.fmod 8 = κ at hκ
  generalize x.fdiv 8 = q
  have hq4 : 0 ≤ q.fmod 4 ∧ q.fmod 4 < 4 := ⟨Int.fmod_nonneg_of_pos _ (by decide), Int.fmod_lt_of_pos _ (by decide)⟩
  have hq1 := q1000 q
  refine .step (.assign (d := otherD q) (.subL (.list (.cons (.bin .int (.bin (.name rfl) .int (.fmod (by decide))) .add) (.cons .none (.cons (.bytes (b := [97, 38, 98]) rfl) (.cons .int .nil)))) (by rw [sizeLine_eq]; simp)) (.bin (.name rfl) .int (.fmod (by decide))) (.list hq4.1 (getD_some (by simp; omega)) (by omega))) (.inl rfl)) ?_
  refine .step (.assign (d := sd (otherW q)) (.subL (ds := (wordsL q).map sd) (.list (.cons (.bin (.bin .lit (.call (.blt KK.B.str.1 KK.B.str.2) (.type _) (.cons (.bin .int (.bin (.name rfl) .int (.fmod (by decide))) .add) .nil) (.strI (log2_small (by omega)))) (.cat ?_)) .lit (.cat ?_)) (.cons .lit (.cons .lit (.cons .lit .nil)))) (by rw [sizeLine_eq]; simp [wordsL])) (.bin (.name rfl) .int (.fmod (by decide))) (.list hq4.1 ?_ (by omega))) (.inl rfl)) ?_
  · have := intL_len (i := 5 + q.fmod 1000) (by omega)
    have e1 : (cs "cannot serialize ").length = 17 := by decide
    omega
  · have := intL_len (i := 5 + q.fmod 1000) (by omega)
    have e1 : (cs "cannot serialize ").length = 17 := by decide
    have e2 : (cs " (type int)").length = 11 := by decide
    rw [List.length_append]; omega
  · rw [List.getElem?_map, getD_some (x := []) (by simp [wordsL]; omega), wordsL_eq]; rfl
  refine .step (.assign .lit (.inl rfl)) ?_
  refine .ent (ρ' := ρ11 c W wished b κ q) (.sub (.cons rfl (.cons rfl (.cons rfl (.cons rfl (.cons rfl (.cons rfl (.cons rfl (.cons rfl (.cons rfl (.cons rfl .nil))))))))))) ?_
  refine .cons (P₁ := P11 c W wished done.length) (turn11 KK hI hdl hκ.1 hκ.2) ?_ (fun af ρ' h q => absurd q.1 h)
  · rintro ρ' ⟨-, b', hI', hs⟩
    refine .ent (.sub hs) (.last (.ite (b := false) (.to (.cmp (.wPieces rfl rfl ?_) (.name rfl) .neS) (by simp)) (fun q => nomatch q) fun _ => .nil ?_))
    · have := hI'.pcs.2
      show b'.pcs.flatten.length ≤ _
      omega
    · exact ⟨b', by rw [List.length_append]; exact hI', .self11 b'⟩
end
end Mine
set_option maxRecDepth 100000
namespace Mine
theorem dictAt_K {prog : Program} {w : World} {K : Frag} {h : Heap} {a : Addr} {es : Array DictEntry} {ep : Nat} {kvs : List (Str × Value)} (X : K.In h) (e : K.lookup a = some ⟨.type "dict", none, .dict es ep, #[]⟩) (hk : ∀ e ∈ es.toList, ∃ x t, e.key = .str x t ∧ e.hash = hashStr w x)
    (hp : es.toList.map (fun e => ((match e.key with | .str x _ => x | _ => ⟨#[]⟩ : Str), e.val)) = kvs) {ks : List Str} (hks : kvs.map (·.1) = ks) (hnd : ks.Nodup) : h.DictAt (strKind prog w) a kvs ep := by
  refine ⟨_, es, X _ _ e, ⟨rfl, rfl, rfl⟩, rfl, fun e he => ?_, ?_, hks ▸ hnd⟩
  · obtain ⟨x, t, h1, h2⟩ := hk e (by simpa using he)
    exact ⟨x, by rw [h1]; exact strKind_is _ _ _ _, h2⟩
  · subst hp
    clear hnd e
    generalize es.toList = l at hk
    induction l with
    | nil => exact .nil
    | cons e l ih =>
      obtain ⟨x, t, h1, h2⟩ := hk e (.head _)
      refine .cons ?_ rfl (ih fun e' he => hk e' (.tail _ he))
      show (strKind prog w).is (match e.key with | .str x _ => x | _ => ⟨#[]⟩) e.key = true
      rw [h1]; exact strKind_is _ _ _ _
noncomputable def lsc11 (s : Scope) : Prop := (s.names.lookup (Str.ofString "script")).isSome = true
theorem IsDef.of {c : Cx} {K : Frag} {a : Addr} {sc : Scope} {ps : List String} {body : List Stmt} {oc : Value} {od : Option Addr} {fd : FuncData} {osl : Array (Option Value)} (X : K.In c.base) (ho : K.lookup a = some ⟨oc, od, .func fd, osl⟩)
    (hb : fd.body = .stmts body) (hs : fd.scope = sc) (hc : fd.closure = []) (hg : fd.globals = mainGlobals) (hbl : fd.builtins = builtinsNs) (hcd : codeIn K fd.code fd.qualname = true)
    (hbind : ∀ vs : List Value, vs.length = ps.length → bindArgs fd ⟨vs, []⟩ = pure (bindsOf ps vs)) (kinds : ∀ p ∈ ps, CanStore sc p) (nodup : ps.Nodup) (cnd : ((cellsFrom 0 sc.names []).map (·.1)).Nodup) (co : sc.isCoroutine = false) (gen : sc.isGenerator = false) (kind : sc.kind = .function)
    (nofree : sc.names.all (fun p => p.2 != .free) = true) (nl : ¬ c.lsc sc) : IsDef c a sc ps body := ⟨IsDefL.of X ho hb hs hc hg hbl hcd hbind kinds nodup cnd co gen kind nofree, nl⟩
theorem bindThree {fd : FuncData} {p q r : String} (h : ∀ v w x : Value, bindArgs fd ⟨[v, w, x], []⟩ = pure [(Str.ofString p, v), (Str.ofString q, w), (Str.ofString r, x)]) : ∀ vs : List Value, vs.length = [p, q, r].length → bindArgs fd ⟨vs, []⟩ = pure (bindsOf [p, q, r] vs)
  | [v, w, x], _ => h v w x
end Mine
set_option maxHeartbeats 8000000 in
theorem PySem.Challenge.cw_dn0276_11_holds : PySem.Challenge.rw_dn0276_11.Holds := by
  w_on
  o_law
  z_head
  (case hw => w_witness2)
  k_fill
  intro w s₀ s₁ mg mb G y fa o pm cd doc dV kV ho hd hcd hD hmg hg args vals as L hpre hlay hrd hwl hlo
  z_open y L KX ZH ZN ZT
  refine Ground.open G ?_
  intro T B D TE TW
  wrow_args hpre hlay hrd hwl hlo
  have hfa : fa = 187 := by
    have := (mg_of (n := Str.ofString "law") (v := .ref 187) KX T.g rfl).symm.trans hmg
    injection this with this
    injection this with this
    exact this.symm
  subst hfa
  refine Mine.head_end (lsc := Mine.lsc11) T L (by assumption) (by assumption) hg ZT (by decide) ?_
  let c : Mine.Cx := ⟨PySem.Challenge.rw_dn0276_11.row.prog, w, s₁.heap, mg, mb, Mine.lsc11, True⟩
  have hOK : Mine.ClsOk (PySem.Challenge.cw_dn0276_11_holds.heap_198 w.params) 143 := ⟨rfl, rfl, rfl, rfl, rfl⟩
  have hfl : ∀ y ∈ Mine.initNames, findIn (PySem.Challenge.cw_dn0276_11_holds.heap_198 w.params) (.ref 143) (Str.ofString y) = some none := by
    intro y hy
    simp only [Mine.initNames, List.mem_cons, List.not_mem_nil, or_false] at hy
    rcases hy with rfl | rfl | rfl | rfl | rfl | rfl | rfl | rfl | rfl | rfl | rfl | rfl | rfl | rfl | rfl | rfl | rfl <;> rfl
  have hD37 := Mine.dictAt_K (prog := PySem.Challenge.rw_dn0276_11.row.prog) (w := w) (a := 37) KX rfl (by
    intro e he
    simp only [List.mem_cons, List.not_mem_nil, or_false] at he
    rcases he with rfl | rfl | rfl | rfl | rfl | rfl | rfl <;> exact ⟨_, _, rfl, rfl⟩) rfl (ks := ["http://www.w3.org/XML/1998/namespace", "http://www.w3.org/1999/xhtml", "http://www.w3.org/1999/02/22-rdf-syntax-ns#", "http://schemas.xmlsoap.org/wsdl/", "http://www.w3.org/2001/XMLSchema", "http://www.w3.org/2001/XMLSchema-instance", "http://purl.org/dc/elements/1.1/"].map Str.ofString) (by rfl) (by decide +kernel)
  obtain ⟨kvs, ep, hD37, hkl⟩ : ∃ kvs ep, s₁.heap.DictAt (strKind PySem.Challenge.rw_dn0276_11.row.prog w) 37 kvs ep ∧ kvs.length ≤ 100 := ⟨_, _, hD37, by simp⟩
  have Y : Mine.KC c (PySem.Challenge.cw_dn0276_11_holds.heap_198 w.params) 143 60 37 kvs ep := by
    refine ⟨trivial, KX, hOK, hfl, rfl, rfl, rfl, rfl, (by show ¬ (_ = true); decide), fun xa ba xl b => Mine.IsDefB.of KX rfl rfl rfl rfl rfl rfl rfl (fun S => rfl) (by simp [Mine.initPars]; exact ⟨.inl rfl, .inl rfl, .inl rfl, .inl rfl, .inl rfl, .inl rfl, .inl rfl, .inl rfl, .inl rfl⟩) (by decide) (by decide) rfl rfl rfl rfl, (mg_of KX T.g rfl), hD37, hkl, by decide, (Mine.blt_of KX T rfl (by decide +kernel) (by decide)), (Mine.blt_of KX T rfl (by decide +kernel) (by decide))⟩
  have KK : Mine.K11 c (PySem.Challenge.cw_dn0276_11_holds.heap_198 w.params) kvs ep := {
    Y := Y
    W := ⟨KX, hOK, fun y hy => by
      simp only [List.mem_cons, List.not_mem_nil, or_false] at hy
      rcases hy with rfl | rfl | rfl | rfl | rfl | rfl | rfl | rfl | rfl | rfl <;> rfl⟩
    m1 := ⟨by decide, rfl, rfl, .func (KX _ _ rfl) rfl⟩
    m2 := ⟨by decide, rfl, rfl, .func (KX _ _ rfl) rfl⟩
    m3 := ⟨by decide, rfl, rfl, .func (KX _ _ rfl) rfl⟩
    m4 := ⟨by decide, rfl, rfl, .func (KX _ _ rfl) rfl⟩
    m5 := ⟨by decide, rfl, rfl, .func (KX _ _ rfl) rfl⟩
    m6 := ⟨by decide, rfl, rfl, .func (KX _ _ rfl) rfl⟩
    m7 := ⟨by decide, rfl, rfl, .func (KX _ _ rfl) rfl⟩
    d1 := (Mine.IsDef.of KX rfl rfl rfl rfl rfl rfl rfl (Mine.bindThree fun v w x => rfl) (by simp; exact ⟨.inl rfl, .inl rfl, .inl rfl⟩) (by decide) (by decide) rfl rfl rfl rfl (by show ¬ (_ = true); decide))
    d2 := (Mine.IsDef.of KX rfl rfl rfl rfl rfl rfl rfl (Mine.bindThree fun v w x => rfl) (by simp; exact ⟨.inl rfl, .inl rfl, .inl rfl⟩) (by decide) (by decide) rfl rfl rfl rfl (by show ¬ (_ = true); decide))
    d3 := (Mine.IsDef.of KX rfl rfl rfl rfl rfl rfl rfl (Mine.bindTwo fun v w => rfl) (by simp; exact ⟨.inl rfl, .inl rfl⟩) (by decide) (by decide) rfl rfl rfl rfl (by show ¬ (_ = true); decide))
    d4 := (Mine.IsDef.of KX rfl rfl rfl rfl rfl rfl rfl (Mine.bindTwo fun v w => rfl) (by simp; exact ⟨.inl rfl, .inl rfl⟩) (by decide) (by decide) rfl rfl rfl rfl (by show ¬ (_ = true); decide))
    d5 := (Mine.IsDef.of KX rfl rfl rfl rfl rfl rfl rfl (Mine.bindTwo fun v w => rfl) (by simp; exact ⟨.inl rfl, .inl rfl⟩) (by decide) (by decide) rfl rfl rfl rfl (by show ¬ (_ = true); decide))
    d6 := (Mine.IsDef.of KX rfl rfl rfl rfl rfl rfl rfl (Mine.bindThree fun v w x => rfl) (by simp; exact ⟨.inl rfl, .inl rfl, .inl rfl⟩) (by decide) (by decide) rfl rfl rfl rfl (by show ¬ (_ = true); decide))
    d7 := fun v => Mine.IsDefB.of KX rfl rfl rfl rfl rfl rfl rfl (fun S => rfl) (by simp; exact ⟨.inl rfl, .inl rfl⟩) (by decide) (by decide) rfl rfl rfl rfl
    nl7 := by show ¬ (_ = true); decide
    jo := ⟨_, KX _ _ rfl⟩
    cc := (Mine.IsDef.of KX rfl rfl rfl rfl rfl rfl rfl (Mine.bindOne fun v => rfl) (by simp; exact .inl rfl) (by decide) (by decide) rfl rfl rfl rfl (by show ¬ (_ = true); decide))
    rs := (Mine.IsDef.of KX rfl rfl rfl rfl rfl rfl rfl (Mine.bindOne fun v => rfl) (by simp; exact .inl rfl) (by decide) (by decide) rfl rfl rfl rfl (by show ¬ (_ = true); decide))
    tx := (Mine.IsDef.of KX rfl rfl rfl rfl rfl rfl rfl (Mine.bindOne fun v => rfl) (by simp; exact .inl rfl) (by decide) (by decide) rfl rfl rfl rfl (by show ¬ (_ = true); decide))
    rf := (Mine.IsDef.of KX rfl rfl rfl rfl rfl rfl rfl (Mine.bindOne fun v => rfl) (by simp; exact .inl rfl) (by decide) (by decide) rfl rfl rfl rfl (by show ¬ (_ = true); decide))
    rd := (Mine.IsDef.of KX rfl rfl rfl rfl rfl rfl rfl (Mine.bindThree fun v w x => rfl) (by simp; exact ⟨.inl rfl, .inl rfl, .inl rfl⟩) (by decide) (by decide) rfl rfl rfl rfl (by show ¬ (_ = true); decide))
    law := Mine.IsDefL.of KX rfl rfl rfl rfl rfl rfl rfl (Mine.bindOne fun v => rfl) (by simp; exact .inl rfl) (by decide) (by decide) rfl rfl rfl rfl
    lsc := by show _ = true; decide
    gcc := (mg_of KX T.g rfl)
    grs := (mg_of KX T.g rfl)
    gtx := (mg_of KX T.g rfl)
    grf := (mg_of KX T.g rfl)
    grd := (mg_of KX T.g rfl)
    gC := (mg_of KX T.g rfl)
    B := ⟨(Mine.blt_of KX T rfl (by decide +kernel) (by decide)), (Mine.blt_of KX T rfl (by decide +kernel) (by decide))⟩
    BX := ⟨(Mine.blt_of KX T rfl (by decide +kernel) (by decide)), (Mine.blt_of KX T rfl (by decide +kernel) (by decide)), (Mine.blt_of KX T rfl (by decide +kernel) (by decide))⟩
    Bt := ⟨(Mine.blt_of KX T rfl (by decide +kernel) (by decide))⟩
    sum := (Mine.blt_of KX T rfl (by decide +kernel) (by decide))
    len := (Mine.blt_of KX T rfl (by decide +kernel) (by decide)) }
  exact Mine.law11 KK (by omega)
