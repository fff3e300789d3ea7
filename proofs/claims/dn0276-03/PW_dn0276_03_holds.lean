import PyProof.Rows.All
import Wide.All
import OpenK.AllK
import Wide.FinOn
import PySem.Challenge.RW_dn0276_03
open PySem PySem.W PyProof.Rows
set_option Elab.async false
set_option linter.unusedVariables false

namespace Mine

/-- a text by its signs -/
noncomputable abbrev S (l : List Nat) : Str := ⟨l.toArray⟩

theorem obj_eq {o : Obj} {cl : Value} {dt : Data} (h1 : o.cls = cl) (h2 : o.dict = none ∧ o.slots = #[]) (h3 : o.data = dt) : o = { cls := cl, data := dt } := by
  obtain ⟨a, b, d, e⟩ := o
  simp only at h1 h2 h3
  rw [h1, h2.1, h2.2, h3]

/-- abstract data -/
inductive D where
  | none
  | bool (b : Bool)
  | int (i : Int)
  | str (x : Str)
  | tstr (x : Str)
  | val (v : Value)
  | range (a b st : Int)
  | list (xs : List D)
  | tuple (xs : List D)
  | dict (kvs : List (List Nat × D))
  deriving Inhabited

/-- what stays the same through one law -/
structure Cx where
  prog : Program
  w : World
  base : Heap
  mg : Str → Option Value
  mb : Str → Option Value

noncomputable abbrev Cx.M (c : Cx) : Model := model c.prog c.w

noncomputable def Keeps (h h' : Heap) : Prop := ∀ b o, h.get? b = some o → h'.get? b = some o
theorem Keeps.refl (h : Heap) : Keeps h h := fun _ _ e => e
theorem Keeps.trans {h h' h'' : Heap} (a : Keeps h h') (b : Keeps h' h'') : Keeps h h'' := fun x o e => b x o (a x o e)

structure Cx.Good (c : Cx) : Prop where
  g : c.base.Ns mainGlobals c.mg
  b : c.base.Ns builtinsNs c.mb
  lim : c.base.NoLimit

/-- an evaluation only adds -/
structure Gr (s s' : Shared) : Prop where
  keep : Keeps s.heap s'.heap
  tok : s.toks ≤ s'.toks
  gens : s'.gens = s.gens
  os : s'.os = s.os
theorem Gr.refl (s : Shared) : Gr s s := ⟨Keeps.refl _, Nat.le_refl _, rfl, rfl⟩
theorem Gr.trans {s s' s'' : Shared} (a : Gr s s') (b : Gr s' s'') : Gr s s'' :=
  ⟨a.keep.trans b.keep, Nat.le_trans a.tok b.tok, b.gens.trans a.gens, b.os.trans a.os⟩
theorem Gr.toks {s : Shared} {k : Nat} (h : s.toks ≤ k) : Gr s { s with toks := k } := ⟨Keeps.refl _, h, rfl, rfl⟩
theorem Gr.push {s : Shared} (o : Obj) : Gr s { s with heap := s.heap.push o } :=
  ⟨fun _ _ e => Heap.get?_push_of_some o e, Nat.le_refl _, rfl, rfl⟩

noncomputable abbrev Vol0 : Addr → Prop := fun _ => False

mutual
/-- the value stands for the data; no node of it lies in V -/
inductive Rep (c : Cx) (V : Addr → Prop) (s : Shared) : D → Value → Prop
  | none : Rep c V s .none .none
  | bool (b) : Rep c V s (.bool b) (.bool b)
  | int (i t) : Rep c V s (.int i) (.int i t)
  | str (x t) : Rep c V s (.str x) (.str x t)
  | tstr (x t) : t ≠ 0 → t < s.toks → Rep c V s (.tstr x) (.str x t)
  | val (v) : Rep c V s (.val v) v
  | range {r a b st t u v} : ¬ V r → IsRange s.heap r a b st t u v → Rep c V s (.range a b st) (.ref r)
  | list {a o vs n ds} : ¬ V a → s.heap.get? a = some o → o.cls = .type "list" → (o.dict = Option.none ∧ o.slots = #[]) → o.data = .seq vs n → RepL c V s ds vs.toList →
      Rep c V s (.list ds) (.ref a)
  | tuple {a o vs n ds} : ¬ V a → s.heap.get? a = some o → o.cls = .type "tuple" → (o.dict = Option.none ∧ o.slots = #[]) → o.data = .seq vs n → RepL c V s ds vs.toList →
      Rep c V s (.tuple ds) (.ref a)
  | dict {a o es n kvs} : ¬ V a → (a == sysModules) = false → s.heap.get? a = some o → o.ExactDict → o.data = .dict es n → RepD c V s kvs es.toList →
      Rep c V s (.dict kvs) (.ref a)
inductive RepL (c : Cx) (V : Addr → Prop) (s : Shared) : List D → List Value → Prop
  | nil : RepL c V s [] []
  | cons {d v ds vs} : Rep c V s d v → RepL c V s ds vs → RepL c V s (d :: ds) (v :: vs)
inductive RepD (c : Cx) (V : Addr → Prop) (s : Shared) : List (List Nat × D) → List DictEntry → Prop
  | nil : RepD c V s [] []
  | cons {k d t e kvs es} : e.key = .str (S k) t → e.hash = hashStr c.w (S k) → Rep c V s d e.val →
      RepD c V s kvs es → RepD c V s ((k, d) :: kvs) (e :: es)
end

/-- what may change under a Rep -/
noncomputable def Calm (V : Addr → Prop) (s s' : Shared) : Prop :=
  s.toks ≤ s'.toks ∧ ∀ b o, ¬ V b → s.heap.get? b = some o → ((∃ xs n, o.data = .seq xs n) ∨ (∃ es n, o.data = .dict es n) ∨ o.cls = .type "range") → s'.heap.get? b = some o

mutual
theorem Rep.calm {c : Cx} {V V' : Addr → Prop} {s s' : Shared} (hc : Calm V s s') (hv : ∀ a, V' a → V a) : ∀ {d v}, Rep c V s d v → Rep c V' s' d v
  | _, _, .none => .none
  | _, _, .bool b => .bool b
  | _, _, .int i t => .int i t
  | _, _, .str x t => .str x t
  | _, _, .tstr x t h1 h2 => .tstr x t h1 (Nat.lt_of_lt_of_le h2 hc.1)
  | _, _, .val v => .val v
  | _, _, .range na h => .range (fun q => na (hv _ q)) (hc.2 _ _ na h (.inr (.inr rfl)))
  | _, _, .list na ho hcl hd hdt r => .list (fun q => na (hv _ q)) (hc.2 _ _ na ho (.inl ⟨_, _, hdt⟩)) hcl hd hdt (RepL.calm hc hv r)
  | _, _, .tuple na ho hcl hd hdt r => .tuple (fun q => na (hv _ q)) (hc.2 _ _ na ho (.inl ⟨_, _, hdt⟩)) hcl hd hdt (RepL.calm hc hv r)
  | _, _, .dict na hsm ho hx hdt r => .dict (fun q => na (hv _ q)) hsm (hc.2 _ _ na ho (.inr (.inl ⟨_, _, hdt⟩))) hx hdt (RepD.calm hc hv r)
theorem RepL.calm {c : Cx} {V V' : Addr → Prop} {s s' : Shared} (hc : Calm V s s') (hv : ∀ a, V' a → V a) : ∀ {d v}, RepL c V s d v → RepL c V' s' d v
  | _, _, .nil => .nil
  | _, _, .cons r rs => .cons (Rep.calm hc hv r) (RepL.calm hc hv rs)
theorem RepD.calm {c : Cx} {V V' : Addr → Prop} {s s' : Shared} (hc : Calm V s s') (hv : ∀ a, V' a → V a) : ∀ {d v}, RepD c V s d v → RepD c V' s' d v
  | _, _, .nil => .nil
  | _, _, .cons hk hh r rs => .cons hk hh (Rep.calm hc hv r) (RepD.calm hc hv rs)
end

theorem Gr.calm {s s' : Shared} (g : Gr s s') (V : Addr → Prop) : Calm V s s' := ⟨g.tok, fun _ _ _ e _ => g.keep _ _ e⟩
theorem Rep.gr {c V s s' d v} (r : Rep c V s d v) (g : Gr s s') : Rep c V s' d v := r.calm (g.calm V) fun _ q => q
theorem RepL.gr {c V s s' d v} (r : RepL c V s d v) (g : Gr s s') : RepL c V s' d v := r.calm (g.calm V) fun _ q => q
theorem Rep.weak {c V V' s d v} (r : Rep c V s d v) (hv : ∀ a, V' a → V a) : Rep c V' s d v := r.calm (Gr.calm (.refl s) V) hv
theorem RepL.weak {c V V' s d v} (r : RepL c V s d v) (hv : ∀ a, V' a → V a) : RepL c V' s d v := r.calm (Gr.calm (.refl s) V) hv

theorem RepL.length {c V s} : ∀ {ds vs}, RepL c V s ds vs → ds.length = vs.length
  | _, _, .nil => rfl
  | _, _, .cons _ r => by simp [r.length]
theorem RepL.append {c V s} : ∀ {ds vs ds' vs'}, RepL c V s ds vs → RepL c V s ds' vs' → RepL c V s (ds ++ ds') (vs ++ vs')
  | _, _, _, _, .nil, r => r
  | _, _, _, _, .cons a r, r' => .cons a (r.append r')
theorem RepL.get {c V s} : ∀ {ds vs} {i : Nat} {d}, RepL c V s ds vs → ds[i]? = some d → ∃ v, vs[i]? = some v ∧ Rep c V s d v
  | _, _, 0, _, .cons a _, e => by cases e; exact ⟨_, rfl, a⟩
  | _, _, i + 1, _, .cons _ r, e => by
    obtain ⟨v, h1, h2⟩ := r.get (i := i) (by simpa using e)
    exact ⟨v, by simpa using h1, h2⟩
  | _, _, _, _, .nil, e => by simp at e
theorem ofString_inj {x y : String} (h : Str.ofString x = Str.ofString y) : x = y := by
  rw [Str.ofString_eq_toList, Str.ofString_eq_toList] at h
  injection h with h
  have h2 : x.toList.map Char.toNat = y.toList.map Char.toNat := by
    have := congrArg Array.toList h
    simpa using this
  have inj : ∀ (a b : List Char), a.map Char.toNat = b.map Char.toNat → a = b := by
    intro a
    induction a with
    | nil => intro b hb; cases b with
      | nil => rfl
      | cons _ _ => simp at hb
    | cons p a ih => intro b hb; cases b with
      | nil => simp at hb
      | cons q b =>
        simp only [List.map_cons, List.cons.injEq] at hb
        rw [ih b hb.2, show p = q from by
          apply Char.ext
          apply UInt32.toNat_inj.mp
          exact hb.1]
  exact String.toList_inj.mp (inj _ _ h2)

/-- the state a call finds -/
structure St (c : Cx) (V : Addr → Prop) (s : Shared) : Prop where
  good : c.Good
  keep : Keeps c.base s.heap
  tok : s.toks ≠ 0
  live : ∀ a, V a → ∃ o, s.heap.get? a = some o
theorem St.gr {c V s s'} (h : St c V s) (g : Gr s s') : St c V s' :=
  ⟨h.good, h.keep.trans g.keep, fun e => h.tok (Nat.le_zero.mp (e ▸ g.tok)), fun a q => let ⟨o, e⟩ := h.live a q; ⟨o, g.keep _ _ e⟩⟩
/-- room on the stack for n more frames; nothing is being handled -/
structure Room (n : Nat) (A : Around) : Prop where
  handled : A.handled = none
  depth : A.depth + n < 900
  units : A.units + 10 * n + 100 < cLine
theorem Room.mono {n m A} (h : Room n A) (hm : m ≤ n) : Room m A := ⟨h.handled, by have := h.depth; omega, by have := h.units; omega⟩
theorem Room.deeper {n A} (h : Room (n + 1) A) (env : Env) : Room n (A.deeper env) :=
  ⟨h.handled, by have := h.depth; show A.depth + 1 + n < 900; omega, by have := h.units; show A.units + 3 + 10 * n + 100 < cLine; omega⟩
theorem Room.lim {n A} (h : Room n A) : A.depth < recursionLimit := by have := h.depth; unfold recursionLimit; omega

/-- f called with ds gives d -/
structure FnR (c : Cx) (n : Nat) (f : Value) (ds : List D) (d : D) : Prop where
  run : ∀ A V s vs, Room n A → St c V s → RepL c V s ds vs →
    wpAny c.M A (call f vs) (fun v s' => Gr s s' ∧ Rep c V s' d v) (fun _ _ => False) s

inductive Slot where
  | val (d : D)
  | own (l : List Slot)
  deriving Inhabited
noncomputable abbrev Sto := List (String × Slot)

mutual
inductive RepS (c : Cx) (V : Addr → Prop) (s : Shared) : Slot → Value → List Addr → Prop
  | val {d v} : Rep c V s d v → RepS c V s (.val d) v []
  | own {a o vs n sl fp} : s.heap.get? a = some o → o.cls = .type "list" → (o.dict = Option.none ∧ o.slots = #[]) → o.data = .seq vs n → RepSL c V s sl vs.toList fp → RepS c V s (.own sl) (.ref a) (a :: fp)
inductive RepSL (c : Cx) (V : Addr → Prop) (s : Shared) : List Slot → List Value → List Addr → Prop
  | nil : RepSL c V s [] [] []
  | cons {sl v fp sls vs fps} : RepS c V s sl v fp → RepSL c V s sls vs fps → RepSL c V s (sl :: sls) (v :: vs) (fp ++ fps)
end

/-- the name's value -/
inductive Loc (env : Env) (s : Shared) (m : Str → Option Value) (x : String) (v : Value) : Prop
  | loc : env.kindOf (Str.ofString x) = some .local → m (Str.ofString x) = some v → Loc env s m x v
  | cell {a o} : (env.kindOf (Str.ofString x) = some .cell ∨ (env.kindOf (Str.ofString x) = some .free ∧ x ≠ "__classdict__")) → env.cells.lookup (Str.ofString x) = some a → s.heap.get? a = some o →
      o.data = .cell (some v) → Loc env s m x v

inductive StoR (c : Cx) (env : Env) (V : Addr → Prop) (s : Shared) (m : Str → Option Value) : Sto → List Addr → Prop
  | nil : StoR c env V s m [] []
  | cons {x sl v fp ρ fps} : Loc env s m x v → RepS c V s sl v fp → StoR c env V s m ρ fps → StoR c env V s m ((x, sl) :: ρ) (fp ++ fps)

noncomputable abbrev Vol (V0 : Addr → Prop) (X : List Addr) : Addr → Prop := fun a => V0 a ∨ a ∈ X

/-- the frame: env's names are as ρ says -/
structure Fm (c : Cx) (sc : Scope) (env : Env) (V0 : Addr → Prop) (h0 : Heap) (Cs : List (Str × Addr)) (X : List Addr) (ρ : Sto) (s : Shared) : Prop where
  good : c.Good
  scope : env.scope = sc
  kind : sc.kind = .function
  globals : env.globals = mainGlobals
  builtins : env.builtins = builtinsNs
  base : Keeps c.base h0
  keep : Keeps h0 s.heap
  tok : s.toks ≠ 0
  live0 : ∀ a, V0 a → (∃ o, s.heap.get? a = some o) ∧ a ∉ X
  ccells : ∀ x, (sc.names.lookup x = some .cell ∨ sc.names.lookup x = some .free) → ∃ a, env.cells.lookup x = some a
  new : ∀ a ∈ X, h0.get? a = none
  cells : ∀ x a, Cs.lookup x = some a → env.cells.lookup x = some a
  cinj : ∀ x y a, env.cells.lookup x = some a → env.cells.lookup y = some a → x = y
  sto : ∃ m fps, s.heap.Ns env.locals m ∧ X = env.locals :: (Cs.map (·.2) ++ fps) ∧ X.Nodup ∧ (∀ a ∈ X, ∃ o, s.heap.get? a = some o) ∧ (∀ p ∈ Cs, ∃ v, s.heap.IsCell p.2 v) ∧ StoR c env (Vol V0 X) s m ρ fps

/-- k = true: the value may be kept; k = false: it is looked at only -/
noncomputable abbrev VK (k : Bool) (V0 : Addr → Prop) (X : List Addr) : Addr → Prop := fun a => k = true ∧ Vol V0 X a

/-- e has the value d -/
structure Ev (c : Cx) (n : Nat) (sc : Scope) (k : Bool) (ρ : Sto) (e : Expr) (d : D) : Prop where
  run : ∀ A env V0 h0 Cs X s, Room n A → Fm c sc env V0 h0 Cs X ρ s →
    wpAny c.M A (eval e env) (fun v s' => Gr s s' ∧ Rep c (VK k V0 X) s' d v) (fun _ _ => False) s

end Mine
namespace Mine

theorem St.pos {c V s} (h : St c V s) : 0 < s.toks := Nat.pos_of_ne_zero h.tok

/-- the end of a step: the counter only grows -/
theorem wp_end {α : Type} {c : Cx} {A : Around} {t : Sem α} {s : Shared} {P : α → Shared → Prop}
    (h : wpAny c.M A t (fun v s' => Keeps s.heap s'.heap ∧ s'.gens = s.gens ∧ s'.os = s.os ∧ (s.toks ≤ s'.toks → P v s')) (fun _ _ => False) s) :
    wpAny c.M A t (fun v s' => Gr s s' ∧ P v s') (fun _ _ => False) s :=
  wpAny_with_toks (Nat.le_refl _) (wpAny_mono h (fun _ _ q ht => ⟨⟨q.1, ht, q.2.1, q.2.2.1⟩, q.2.2.2 ht⟩) fun _ _ q => q.elim)

theorem wp_gr {α : Type} {c : Cx} {A : Around} {t : Sem α} {s s₀ : Shared} {P : α → Shared → Prop} (g : Gr s₀ s)
    (h : wpAny c.M A t (fun v s' => Gr s s' ∧ P v s') (fun _ _ => False) s) :
    wpAny c.M A t (fun v s' => Gr s₀ s' ∧ P v s') (fun _ _ => False) s :=
  wpAny_mono h (fun _ _ q => ⟨g.trans q.1, q.2⟩) fun _ _ q => q

mutual
theorem RepS.calm {c : Cx} {V V' : Addr → Prop} {s s' : Shared} (hc : Calm V s s') (hv : ∀ a, V' a → V a) : ∀ {sl v fp}, RepS c V s sl v fp →
    (∀ a ∈ fp, ∀ o, s.heap.get? a = some o → s'.heap.get? a = some o) → RepS c V' s' sl v fp
  | _, _, _, .val r, _ => .val (r.calm hc hv)
  | _, _, _, .own ho hcl hd hdt r, hk => .own (hk _ (.head _) _ ho) hcl hd hdt (RepSL.calm hc hv r fun a ha => hk a (.tail _ ha))
theorem RepSL.calm {c : Cx} {V V' : Addr → Prop} {s s' : Shared} (hc : Calm V s s') (hv : ∀ a, V' a → V a) : ∀ {sl v fp}, RepSL c V s sl v fp →
    (∀ a ∈ fp, ∀ o, s.heap.get? a = some o → s'.heap.get? a = some o) → RepSL c V' s' sl v fp
  | _, _, _, .nil, _ => .nil
  | _, _, _, .cons r rs, hk => .cons (RepS.calm hc hv r fun a ha => hk a (List.mem_append_left _ ha)) (RepSL.calm hc hv rs fun a ha => hk a (List.mem_append_right _ ha))
end

theorem Loc.calm {env : Env} {s s' : Shared} {m m' : Str → Option Value} {x : String} {v : Value} (h : Loc env s m x v)
    (hm : env.kindOf (Str.ofString x) = some .local → m' (Str.ofString x) = m (Str.ofString x)) (hc : ∀ a o w, env.cells.lookup (Str.ofString x) = some a → s.heap.get? a = some o → o.data = .cell w → s'.heap.get? a = some o) : Loc env s' m' x v := by
  cases h with
  | loc h1 h2 => exact .loc h1 ((hm h1).trans h2)
  | cell h1 h2 h3 h4 => exact .cell h1 h2 (hc _ _ _ h2 h3 h4) h4

theorem StoR.gr {c : Cx} {env : Env} {V : Addr → Prop} {s s' : Shared} {m : Str → Option Value} (g : Gr s s') : ∀ {ρ fps}, StoR c env V s m ρ fps → StoR c env V s' m ρ fps
  | _, _, .nil => .nil
  | _, _, .cons l r rs => .cons (l.calm (fun _ => rfl) fun _ _ _ _ e _ => g.keep _ _ e) (r.calm (g.calm V) (fun _ q => q) fun _ _ _ e => g.keep _ _ e) (rs.gr g)

theorem Fm.gr {c sc env V0 h0 Cs X ρ s s'} (F : Fm c sc env V0 h0 Cs X ρ s) (g : Gr s s') : Fm c sc env V0 h0 Cs X ρ s' :=
  ⟨F.good, F.scope, F.kind, F.globals, F.builtins, F.base, F.keep.trans g.keep, fun e => F.tok (Nat.le_zero.mp (e ▸ g.tok)), fun a q => ⟨let ⟨o, e⟩ := (F.live0 a q).1; ⟨o, g.keep _ _ e⟩, (F.live0 a q).2⟩, F.ccells, F.new, F.cells, F.cinj,
   let ⟨m, fps, h1, h2, h3, h4, h6, h5⟩ := F.sto
   ⟨m, fps, h1.keeps g.keep, h2, h3, fun a ha => let ⟨o, e⟩ := h4 a ha; ⟨o, g.keep _ _ e⟩, fun p hp => let ⟨v, q⟩ := h6 p hp; ⟨v, q.keeps g.keep⟩, h5.gr g⟩⟩

theorem Fm.st {c sc env V0 h0 Cs X ρ s} (F : Fm c sc env V0 h0 Cs X ρ s) (k : Bool) : St c (VK k V0 X) s :=
  ⟨F.good, F.base.trans F.keep, F.tok, fun a q => by
    rcases q.2 with q | q
    · exact (F.live0 a q).1
    · obtain ⟨m, fps, _, _, _, h4, _, _⟩ := F.sto; exact h4 a q⟩

theorem StoR.get {c : Cx} {env : Env} {V : Addr → Prop} {s : Shared} {m : Str → Option Value} {x : String} {sl : Slot} : ∀ {ρ fps}, StoR c env V s m ρ fps → ρ.lookup x = some sl →
    ∃ v fp, Loc env s m x v ∧ RepS c V s sl v fp ∧ (∀ a ∈ fp, a ∈ fps)
  | _, _, .nil, e => by cases e
  | _, _, .cons (x := y) (v := v) (fp := fp) l r rs, e => by
    rw [List.lookup_cons] at e
    by_cases hy : x = y
    · subst hy
      simp only [beq_self_eq_true] at e
      cases e
      exact ⟨v, fp, l, r, fun a ha => List.mem_append_left _ ha⟩
    · have : (x == y) = false := by simpa using hy
      rw [this] at e
      obtain ⟨v', fp', h1, h2, h3⟩ := rs.get e
      exact ⟨v', fp', h1, h2, fun a ha => List.mem_append_right _ (h3 a ha)⟩

theorem ofString_ne {x y : String} (h : x ≠ y) : (Str.ofString x == Str.ofString y) = false := by
  rw [beq_eq_false_iff_ne]; exact fun e => h (ofString_inj e)

/-- reading a name -/
theorem Loc.load {M : Model} {A : Around} {E : Value → Shared → Prop} {env : Env} {s : Shared} {m : Str → Option Value} {x : String} {v : Value} {Q : Value → Shared → Prop}
    (hk : env.scope.kind = .function) (hn : s.heap.Ns env.locals m) (l : Loc env s m x v) (h : Q v s) : wpAny M A (loadName env (Str.ofString x)) Q E s := by
  cases l with
  | loc h1 h2 => exact wpAny_loadName_local hk h1 hn h2 h
  | cell h1 h2 h3 h4 =>
    rcases h1 with h1 | ⟨h1, h1'⟩
    · exact wpAny_loadName_cell hk h1 h2 ⟨_, h3, h4⟩ h
    · exact wpAny_loadName_free hk h1 h2 ⟨_, h3, h4⟩ h (ofString_ne h1')

mutual
noncomputable def Slot.d : Slot → D
  | .val d => d
  | .own l => .list (Slot.ds l)
noncomputable def Slot.ds : List Slot → List D
  | [] => []
  | sl :: r => sl.d :: Slot.ds r
end

mutual
theorem RepS.look {c V s} : ∀ {sl v fp}, RepS c V s sl v fp → Rep c Vol0 s sl.d v
  | _, _, _, .val r => r.weak fun _ q => q.elim
  | _, _, _, .own ho hcl hd hdt r => .list id ho hcl hd hdt (RepSL.look r)
theorem RepSL.look {c V s} : ∀ {sl v fp}, RepSL c V s sl v fp → RepL c Vol0 s (Slot.ds sl) v
  | _, _, _, .nil => .nil
  | _, _, _, .cons r rs => .cons (RepS.look r) (RepSL.look rs)
end

section
variable {c : Cx} {n : Nat} {sc : Scope} {k : Bool} {ρ : Sto}

theorem Ev.name {x : String} {pos : Pos} {d : D} (h : ρ.lookup x = some (.val d)) (hx : x ≠ "__debug__" := by decide) : Ev c n sc k ρ (.Name (Str.ofString x) pos) d := by
  constructor; intro A env V0 h0 Cs X s _ F
  obtain ⟨m, fps, hn, _, _, _, _, hs⟩ := F.sto
  obtain ⟨v, fp, l, r, _⟩ := hs.get h
  refine wpAny_Name (l.load (by rw [F.scope]; exact F.kind) hn ⟨.refl s, ?_⟩) (ofString_ne hx)
  cases r with
  | val r => exact r.weak fun _ q => q.2

/-- an owned list is looked at -/
theorem Ev.look {x : String} {pos : Pos} {sl : Slot} {d : D} (h : ρ.lookup x = some sl) (hd : sl.d = d) (hx : x ≠ "__debug__" := by decide) : Ev c n sc false ρ (.Name (Str.ofString x) pos) d := by
  constructor; intro A env V0 h0 Cs X s _ F
  obtain ⟨m, fps, hn, _, _, _, _, hs⟩ := F.sto
  obtain ⟨v, fp, l, r, _⟩ := hs.get h
  refine wpAny_Name (l.load (by rw [F.scope]; exact F.kind) hn ⟨.refl s, ?_⟩) (ofString_ne hx)
  subst hd
  exact r.look.weak fun _ q => nomatch q.1

theorem Ev.weak {e : Expr} {d : D} (h : Ev c n sc true ρ e d) : Ev c n sc k ρ e d := .mk fun A env V0 h0 Cs X s hA F =>
  wpAny_mono (h.run A env V0 h0 Cs X s hA F) (fun _ _ q => ⟨q.1, q.2.weak fun _ q => ⟨rfl, q.2⟩⟩) fun _ _ q => q

noncomputable def D.flat : D → Bool
  | .none | .bool _ | .int _ | .str _ | .tstr _ | .val _ => true
  | _ => false
theorem Rep.flat {c V V' s} : ∀ {d v}, Rep c V s d v → d.flat = true → Rep c V' s d v
  | _, _, .none, _ => .none
  | _, _, .bool b, _ => .bool b
  | _, _, .int i t, _ => .int i t
  | _, _, .str x t, _ => .str x t
  | _, _, .tstr x t a b, _ => .tstr x t a b
  | _, _, .val v, _ => .val v
  | _, _, .range .., h => nomatch h
  | _, _, .list .., h => nomatch h
  | _, _, .tuple .., h => nomatch h
  | _, _, .dict .., h => nomatch h

theorem Ev.lookAt {e : Expr} {d : D} (h : Ev c n sc false ρ e d) (hd : d.flat = true) : Ev c n sc k ρ e d := .mk fun A env V0 h0 Cs X s hA F =>
  wpAny_mono (h.run A env V0 h0 Cs X s hA F) (fun _ _ q => ⟨q.1, q.2.flat hd⟩) fun _ _ q => q

theorem Ev.int {i : Int} {kk : Nat} {pos : Pos} : Ev c n sc k ρ (.Constant (.int i) kk pos) (.int i) := .mk fun A env V0 h0 Cs X s _ _ =>
  wp_end (wpAny_Constant_int ⟨fun _ _ e => e, rfl, rfl, fun _ => .int _ _⟩)
theorem Ev.str {x : Str} {kk : Nat} {pos : Pos} : Ev c n sc k ρ (.Constant (.str x) kk pos) (.str x) := .mk fun A env V0 h0 Cs X s _ _ =>
  wp_end (wpAny_Constant_str ⟨fun _ _ e => e, rfl, rfl, fun _ => .str _ _⟩)
theorem Ev.bool {b : Bool} {kk : Nat} {pos : Pos} : Ev c n sc k ρ (.Constant (.bool b) kk pos) (.bool b) := .mk fun A env V0 h0 Cs X s _ _ =>
  wpAny_Constant_bool ⟨.refl s, .bool _⟩
/-- a name of the module's top -/
theorem Ev.glob {x : String} {pos : Pos} {v : Value} (h : c.mg (Str.ofString x) = some v) (hk : sc.names.lookup (Str.ofString x) = some .globalImplicit := by rfl) (hx : x ≠ "__debug__" := by decide) :
    Ev c n sc k ρ (.Name (Str.ofString x) pos) (.val v) := .mk fun A env V0 h0 Cs X s _ F =>
  Calls.Name_function_global (by rw [F.scope]; exact F.kind) (by show env.scope.names.lookup _ = _; rw [F.scope]; exact hk)
    (Calls.loadGlobal_global (by rw [F.globals]; exact (F.good.g.keeps F.base).keeps F.keep) h ⟨.refl s, .val _⟩) (ofString_ne hx)
/-- a name of the built-ins -/
theorem Ev.blt {x : String} {pos : Pos} {v : Value} (h0 : c.mg (Str.ofString x) = Option.none) (h : c.mb (Str.ofString x) = some v) (hk : sc.names.lookup (Str.ofString x) = some .globalImplicit := by rfl) (hx : x ≠ "__debug__" := by decide) :
    Ev c n sc k ρ (.Name (Str.ofString x) pos) (.val v) := .mk fun A env V0 h0' Cs X s _ F =>
  Calls.Name_function_global (by rw [F.scope]; exact F.kind) (by show env.scope.names.lookup _ = _; rw [F.scope]; exact hk)
    (Calls.loadGlobal_builtin (by rw [F.globals]; exact (F.good.g.keeps F.base).keeps F.keep) h0 (by rw [F.builtins]; exact (F.good.b.keeps F.base).keeps F.keep) h ⟨.refl s, .val _⟩) (ofString_ne hx)

noncomputable def BinR (c : Cx) (op : Operator) (d₁ d₂ d : D) : Prop :=
  ∀ A V s v₁ v₂, Room 0 A → St c V s → Rep c V s d₁ v₁ → Rep c V s d₂ v₂ → wpAny c.M A (binaryOp op v₁ v₂) (fun v s' => Gr s s' ∧ Rep c V s' d v) (fun _ _ => False) s
noncomputable def CmpR (c : Cx) (op : CmpOp) (d₁ d₂ : D) (b : Bool) : Prop :=
  ∀ A V s v₁ v₂, Room 0 A → St c V s → Rep c V s d₁ v₁ → Rep c V s d₂ v₂ → wpAny c.M A (compareOp op v₁ v₂) (fun v s' => Gr s s' ∧ v = .bool b) (fun _ _ => False) s
noncomputable def ItemR (c : Cx) (d₁ d₂ d : D) : Prop :=
  ∀ A V s v₁ v₂, Room 0 A → St c V s → Rep c V s d₁ v₁ → Rep c V s d₂ v₂ → wpAny c.M A (getItem v₁ v₂) (fun v s' => Gr s s' ∧ Rep c V s' d v) (fun _ _ => False) s
theorem Room.zero {n A} (h : Room n A) : Room 0 A := h.mono (Nat.zero_le _)

theorem Ev.bin {l r : Expr} {op : Operator} {pos : Pos} {d₁ d₂ d : D} (h1 : Ev c n sc k ρ l d₁) (h2 : Ev c n sc k ρ r d₂) (h : BinR c op d₁ d₂ d) : Ev c n sc k ρ (.BinOp l op r pos) d :=
  .mk fun A env V0 h0 Cs X s hA F => wpAny_BinOp (wpAny_mono (h1.run A env V0 h0 Cs X s hA F) (fun v₁ s₁ q₁ => wpAny_mono (h2.run A env V0 h0 Cs X s₁ hA (F.gr q₁.1)) (fun v₂ s₂ q₂ =>
    wp_gr (q₁.1.trans q₂.1) (h A _ s₂ v₁ v₂ hA.zero ((F.st k).gr (q₁.1.trans q₂.1)) (q₁.2.gr q₂.1) q₂.2)) fun _ _ q => q) fun _ _ q => q)

/-- a test -/
structure Tst (c : Cx) (n : Nat) (sc : Scope) (ρ : Sto) (e : Expr) (b : Bool) : Prop where
  run : ∀ A env V0 h0 Cs X s, Room n A → Fm c sc env V0 h0 Cs X ρ s →
    wpAny c.M A (isTrue e env (eval e env)) (fun r s' => Gr s s' ∧ r = b) (fun _ _ => False) s

theorem Tst.cmp {l r : Expr} {op : CmpOp} {pos : Pos} {d₁ d₂ : D} {b : Bool} (h1 : Ev c n sc false ρ l d₁) (h2 : Ev c n sc false ρ r d₂) (h : CmpR c op d₁ d₂ b)
    (hm : behindInMarks op r = false := by with_unfolding_all rfl) : Tst c n sc ρ (.Compare l [op] [r] pos) b :=
  .mk fun A env V0 h0 Cs X s hA F => wpAny_isTrue_Compare1 (wpAny_mono (h1.run A env V0 h0 Cs X s hA F) (fun v₁ s₁ q₁ => wpAny_mono (h2.run A env V0 h0 Cs X s₁ hA (F.gr q₁.1)) (fun v₂ s₂ q₂ =>
    (wpAny_mono (h A _ s₂ v₁ v₂ hA.zero ((F.st false).gr (q₁.1.trans q₂.1)) (q₁.2.gr q₂.1) q₂.2) (fun v s' q => by
      rw [q.2]; exact wpAny_truthy_bool ⟨(q₁.1.trans q₂.1).trans q.1, rfl⟩) fun _ _ q => q)) fun _ _ q => q) fun _ _ q => q) hm
structure Tsts (c : Cx) (n : Nat) (sc : Scope) (ρ : Sto) (op : BoolOp) (es : List Expr) (b : Bool) : Prop where
  run : ∀ A env V0 h0 Cs X s, Room n A → Fm c sc env V0 h0 Cs X ρ s →
    wpAny c.M A (allTrue op es env) (fun r s' => Gr s s' ∧ r = b) (fun _ _ => False) s
theorem Tst.boolop {op : BoolOp} {es : List Expr} {pos : Pos} {b : Bool} (h : Tsts c n sc ρ op es b) : Tst c n sc ρ (.BoolOp op es pos) b :=
  .mk fun A env V0 h0 Cs X s hA F => wpAny_isTrue_BoolOp (h.run A env V0 h0 Cs X s hA F)
theorem Tsts.nilAnd : Tsts c n sc ρ .And [] true := .mk fun A env V0 h0 Cs X s _ _ => wpAny_allTrue_And_nil ⟨.refl s, rfl⟩
theorem Tsts.and {e : Expr} {es : List Expr} {a b : Bool} (h : Tst c n sc ρ e a) (hs : a = true → Tsts c n sc ρ .And es b) : Tsts c n sc ρ .And (e :: es) (a && b) :=
  .mk fun A env V0 h0 Cs X s hA F => wpAny_allTrue_And_cons (wpAny_mono (h.run A env V0 h0 Cs X s hA F) (fun r s' q => by
    obtain ⟨g, rfl⟩ := q
    cases r with
    | false => exact ⟨g, rfl⟩
    | true => exact wp_gr g ((hs rfl).run A env V0 h0 Cs X s' hA (F.gr g))) fun _ _ q => q)
theorem Ev.ite {t a b : Expr} {pos : Pos} {x : Bool} {d : D} (h : Tst c n sc ρ t x) (ha : x = true → Ev c n sc k ρ a d) (hb : x = false → Ev c n sc k ρ b d) : Ev c n sc k ρ (.IfExp t a b pos) d :=
  .mk fun A env V0 h0 Cs X s hA F => wpAny_IfExp (wpAny_mono (h.run A env V0 h0 Cs X s hA F) (fun r s' q => by
    obtain ⟨g, rfl⟩ := q
    cases r with
    | true => exact wp_gr g ((ha rfl).run A env V0 h0 Cs X s' hA (F.gr g))
    | false => exact wp_gr g ((hb rfl).run A env V0 h0 Cs X s' hA (F.gr g))) fun _ _ q => q)

end
end Mine
namespace Mine

noncomputable def delS (x : String) : Sto → Sto
  | [] => []
  | (y, sl) :: r => if y = x then delS x r else (y, sl) :: delS x r
noncomputable def setS (ρ : Sto) (x : String) (sl : Slot) : Sto := (x, sl) :: delS x ρ

/-- what a piece of code may do to the state: X are the places that it may turn -/
structure Stp (X : List Addr) (s : Shared) (X' : List Addr) (s' : Shared) : Prop where
  keep : ∀ b o, b ∉ X → s.heap.get? b = some o → s'.heap.get? b = some o
  tok : s.toks ≤ s'.toks
  gens : s'.gens = s.gens
  os : s'.os = s.os
  new : ∀ b ∈ X', b ∈ X ∨ s.heap.get? b = none
  live : ∀ b ∈ X, ∀ o, s.heap.get? b = some o → ∃ o', s'.heap.get? b = some o'
theorem Stp.refl (X : List Addr) (s : Shared) : Stp X s X s := ⟨fun _ _ _ e => e, Nat.le_refl _, rfl, rfl, fun _ h => .inl h, fun _ _ o e => ⟨o, e⟩⟩
theorem Stp.of_gr {X : List Addr} {s s' : Shared} (g : Gr s s') : Stp X s X s' := ⟨fun _ _ _ e => g.keep _ _ e, g.tok, g.gens, g.os, fun _ h => .inl h, fun _ _ o e => ⟨o, g.keep _ _ e⟩⟩
theorem Stp.trans {X X' X'' : List Addr} {s s' s'' : Shared} (a : Stp X s X' s') (b : Stp X' s' X'' s'') : Stp X s X'' s'' :=
  ⟨fun x o hx e => b.keep x o (fun q => (a.new x q).elim hx fun q => (by rw [q] at e; cases e)) (a.keep x o hx e), Nat.le_trans a.tok b.tok, b.gens.trans a.gens, b.os.trans a.os,
   fun x hx => (by
    rcases b.new x hx with q | q
    · exact a.new x q
    · by_cases hX : x ∈ X
      · exact .inl hX
      · refine .inr ?_
        cases e : s.heap.get? x with
        | none => rfl
        | some o => rw [a.keep x o hX e] at q; cases q),
   fun x hx o e => by
    obtain ⟨o', e'⟩ := a.live x hx o e
    by_cases h' : x ∈ X'
    · exact b.live x h' o' e'
    · exact ⟨o', b.keep x o' h' e'⟩⟩
theorem Stp.sub {X Y X' : List Addr} {s s' : Shared} (a : Stp X s X' s') (h : ∀ b ∈ X, b ∈ Y) : Stp Y s X' s' :=
  ⟨fun b o hb e => a.keep b o (fun q => hb (h b q)) e, a.tok, a.gens, a.os, fun b hb => (a.new b hb).imp (h b) id, fun b hb o e => by
    by_cases hX : b ∈ X
    · exact a.live b hX o e
    · exact ⟨o, a.keep b o hX e⟩⟩
theorem Stp.sub' {X X' Y : List Addr} {s s' : Shared} (a : Stp X s X' s') (h : ∀ b ∈ Y, b ∈ X') : Stp X s Y s' :=
  ⟨a.keep, a.tok, a.gens, a.os, fun b hb => a.new b (h b hb), a.live⟩

mutual
theorem Rep.ext {c : Cx} {V W : Addr → Prop} {s : Shared} (hw : ∀ a, W a → s.heap.get? a = none) : ∀ {d v}, Rep c V s d v → Rep c (fun a => V a ∨ W a) s d v
  | _, _, .none => .none
  | _, _, .bool b => .bool b
  | _, _, .int i t => .int i t
  | _, _, .str x t => .str x t
  | _, _, .tstr x t h1 h2 => .tstr x t h1 h2
  | _, _, .val v => .val v
  | _, _, .range na h => .range (fun q => q.elim na fun q => by unfold IsRange at h; rw [hw _ q] at h; cases h) h
  | _, _, .list na ho hcl hd hdt r => .list (fun q => q.elim na fun q => by rw [hw _ q] at ho; cases ho) ho hcl hd hdt (RepL.ext hw r)
  | _, _, .tuple na ho hcl hd hdt r => .tuple (fun q => q.elim na fun q => by rw [hw _ q] at ho; cases ho) ho hcl hd hdt (RepL.ext hw r)
  | _, _, .dict na hsm ho hx hdt r => .dict (fun q => q.elim na fun q => by rw [hw _ q] at ho; cases ho) hsm ho hx hdt (RepD.ext hw r)
theorem RepL.ext {c : Cx} {V W : Addr → Prop} {s : Shared} (hw : ∀ a, W a → s.heap.get? a = none) : ∀ {d v}, RepL c V s d v → RepL c (fun a => V a ∨ W a) s d v
  | _, _, .nil => .nil
  | _, _, .cons r rs => .cons (Rep.ext hw r) (RepL.ext hw rs)
theorem RepD.ext {c : Cx} {V W : Addr → Prop} {s : Shared} (hw : ∀ a, W a → s.heap.get? a = none) : ∀ {d v}, RepD c V s d v → RepD c (fun a => V a ∨ W a) s d v
  | _, _, .nil => .nil
  | _, _, .cons hk hh r rs => .cons hk hh (Rep.ext hw r) (RepD.ext hw rs)
end
mutual
theorem RepS.ext {c : Cx} {V W : Addr → Prop} {s : Shared} (hw : ∀ a, W a → s.heap.get? a = none) : ∀ {d v fp}, RepS c V s d v fp → RepS c (fun a => V a ∨ W a) s d v fp
  | _, _, _, .val r => .val (r.ext hw)
  | _, _, _, .own ho hcl hd hdt r => .own ho hcl hd hdt (RepSL.ext hw r)
theorem RepSL.ext {c : Cx} {V W : Addr → Prop} {s : Shared} (hw : ∀ a, W a → s.heap.get? a = none) : ∀ {d v fp}, RepSL c V s d v fp → RepSL c (fun a => V a ∨ W a) s d v fp
  | _, _, _, .nil => .nil
  | _, _, _, .cons r rs => .cons (RepS.ext hw r) (RepSL.ext hw rs)
end
theorem RepS.weak {c : Cx} {V V' : Addr → Prop} {s : Shared} {sl v fp} (r : RepS c V s sl v fp) (hv : ∀ a, V' a → V a) : RepS c V' s sl v fp := r.calm (Gr.calm (.refl s) V) hv fun _ _ _ e => e
theorem StoR.ext {c : Cx} {env : Env} {V W : Addr → Prop} {s : Shared} {m : Str → Option Value} (hw : ∀ a, W a → s.heap.get? a = none) : ∀ {ρ fps}, StoR c env V s m ρ fps → StoR c env (fun a => V a ∨ W a) s m ρ fps
  | _, _, .nil => .nil
  | _, _, .cons l r rs => .cons l (r.ext hw) (rs.ext hw)
theorem StoR.weak {c : Cx} {env : Env} {V V' : Addr → Prop} {s : Shared} {m : Str → Option Value} (hv : ∀ a, V' a → V a) : ∀ {ρ fps}, StoR c env V s m ρ fps → StoR c env V' s m ρ fps
  | _, _, .nil => .nil
  | _, _, .cons l r rs => .cons l (r.weak hv) (rs.weak hv)

theorem StoR.del {c : Cx} {env : Env} {V : Addr → Prop} {s : Shared} {m : Str → Option Value} (x : String) : ∀ {ρ fps}, StoR c env V s m ρ fps → ∃ fps' rest, StoR c env V s m (delS x ρ) fps' ∧ (rest ++ fps').Perm fps
  | _, _, .nil => ⟨[], [], .nil, .refl _⟩
  | _, _, .cons (x := y) (fp := fp) l r rs => by
    obtain ⟨fps', rest, h1, h2⟩ := rs.del x
    unfold delS
    by_cases hy : y = x
    · rw [if_pos hy]
      exact ⟨fps', fp ++ rest, h1, by rw [List.append_assoc]; exact h2.append_left fp⟩
    · rw [if_neg hy]
      exact ⟨fp ++ fps', rest, .cons l r h1, (by
        rw [← List.append_assoc]
        refine (List.Perm.append_right _ List.perm_append_comm).trans ?_
        rw [List.append_assoc]; exact h2.append_left fp)⟩

theorem delS_ne {x : String} : ∀ {ρ : Sto}, ∀ p ∈ delS x ρ, p.1 ≠ x
  | [], _, hp => by cases hp
  | (y, sl) :: r, p, hp => by
    unfold delS at hp
    split at hp
    · exact delS_ne p hp
    · rcases List.mem_cons.mp hp with rfl | hp
      · assumption
      · exact delS_ne p hp

/-- the store under a change at a place of X that no footprint holds -/
theorem StoR.change {c : Cx} {env : Env} {V : Addr → Prop} {s s' : Shared} {m m' : Str → Option Value} (hc : Calm V s s') : ∀ {ρ fps}, StoR c env V s m ρ fps →
    (∀ a ∈ fps, ∀ o, s.heap.get? a = some o → s'.heap.get? a = some o) →
    (∀ p ∈ ρ, env.kindOf (Str.ofString p.1) = some .local → m' (Str.ofString p.1) = m (Str.ofString p.1)) →
    (∀ p ∈ ρ, ∀ a o w, env.cells.lookup (Str.ofString p.1) = some a → s.heap.get? a = some o → o.data = .cell w → s'.heap.get? a = some o) → StoR c env V s' m' ρ fps
  | _, _, .nil, _, _, _ => .nil
  | _, _, .cons l r rs, h1, h2, h3 => .cons (l.calm (h2 _ (.head _)) (h3 _ (.head _))) (r.calm hc (fun _ q => q) fun a ha => h1 a (List.mem_append_left _ ha))
      (rs.change hc (fun a ha => h1 a (List.mem_append_right _ ha)) (fun p hp => h2 p (.tail _ hp)) fun p hp => h3 p (.tail _ hp))

mutual
theorem RepS.alive {c V s} : ∀ {sl v fp}, RepS c V s sl v fp → ∀ a ∈ fp, ∃ o, s.heap.get? a = some o
  | _, _, _, .val _, a, ha => by cases ha
  | _, _, _, .own ho _ _ _ r, a, ha => by
    rcases List.mem_cons.mp ha with rfl | ha
    · exact ⟨_, ho⟩
    · exact RepSL.alive r a ha
theorem RepSL.alive {c V s} : ∀ {sl v fp}, RepSL c V s sl v fp → ∀ a ∈ fp, ∃ o, s.heap.get? a = some o
  | _, _, _, .nil, a, ha => by cases ha
  | _, _, _, .cons r rs, a, ha => by
    rcases List.mem_append.mp ha with ha | ha
    · exact RepS.alive r a ha
    · exact RepSL.alive rs a ha
end

/-- a name that may be stored -/
noncomputable def CanStore (sc : Scope) (x : String) : Prop := sc.names.lookup (Str.ofString x) = some .local ∨ sc.names.lookup (Str.ofString x) = some .cell
/-- all cells of the scope are the frame's own -/
noncomputable def Own (sc : Scope) (Cs : List (Str × Addr)) : Prop := ∀ x, sc.names.lookup x = some .cell → ∃ a, Cs.lookup x = some a

theorem mem_lookup {α β : Type} [BEq α] [LawfulBEq α] : ∀ {l : List (α × β)} {x : α} {a : β}, l.lookup x = some a → (x, a) ∈ l
  | (y, b) :: r, x, a, h => by
    rw [List.lookup_cons] at h
    by_cases hy : x = y
    · subst hy; simp only [beq_self_eq_true] at h; cases h; exact .head _
    · have : (x == y) = false := by simpa using hy
      rw [this] at h; exact .tail _ (mem_lookup h)

section
variable {c : Cx} {n : Nat} {sc : Scope} {env : Env} {V0 : Addr → Prop} {h0 : Heap} {Cs : List (Str × Addr)} {X : List Addr} {ρ : Sto} {s s₁ : Shared} {A : Around}

theorem calm_at {a : Addr} {V : Addr → Prop} {s : Shared} {h' : Heap} {tk : Nat} (hs : Heap.SameBut a s.heap h') (hv : V a) (ht : s.toks ≤ tk) : Calm V s { s with heap := h', toks := tk } :=
  ⟨ht, fun b o nb e _ => (hs.2 b fun q => nb (q ▸ hv)).trans e⟩

/-- storing a value in a name -/
theorem Fm.store {x : String} {sl : Slot} {v : Value} {fp : List Addr} (F : Fm c sc env V0 h0 Cs X ρ s) (g : Gr s s₁) (hO : sc.names.lookup (Str.ofString x) = some .cell → ∃ a, Cs.lookup (Str.ofString x) = some a) (hk : CanStore sc x)
    (r : RepS c (Vol V0 (X ++ fp)) s₁ sl v fp) (hn : fp.Nodup) (hf : ∀ a ∈ fp, s.heap.get? a = none) :
    wpAny c.M A (storeName env (Str.ofString x) v) (fun _ s' => ∃ X', Stp X s X' s' ∧ Fm c sc env V0 h0 Cs X' (setS ρ x sl) s') (fun _ _ => False) s₁ := by
  obtain ⟨m, fps, hns, hX, hnd, hlv, hcl, hst⟩ := F.sto
  have hfX : ∀ a ∈ fp, a ∉ X := fun a ha hx => by obtain ⟨o, e⟩ := hlv a hx; rw [hf a ha] at e; cases e
  have hvk : sc.kind = .function := F.kind
  have hke : env.scope.kind = .function := by rw [F.scope]; exact hvk
  -- the store before, apart from the new places
  have hst1 : StoR c env (Vol V0 (X ++ fp)) s₁ m ρ fps := ((hst.ext (W := fun a => a ∈ fp) hf).gr g).weak fun a q => by
    rcases q with q | q
    · exact .inl (.inl q)
    · rcases List.mem_append.mp q with q | q
      · exact .inl (.inr q)
      · exact .inr q
  obtain ⟨fps', rest, hdel, hperm⟩ := hst1.del x
  have hsubX : ∀ a ∈ fps', a ∈ fps := fun a ha => hperm.subset (List.mem_append_right _ ha)
  -- the places behind the store
  have hX' : (env.locals :: (Cs.map (·.2) ++ (fp ++ fps'))).Nodup := by
    have hx1 : (env.locals :: (Cs.map (·.2) ++ fps)).Nodup := hX ▸ hnd
    have hp : (rest ++ (env.locals :: (Cs.map (·.2) ++ fps'))).Perm (env.locals :: (Cs.map (·.2) ++ fps)) := by
      refine List.perm_middle.trans (List.Perm.cons _ ?_)
      rw [← List.append_assoc]
      refine (List.Perm.append_right _ List.perm_append_comm).trans ?_
      rw [List.append_assoc]
      exact hperm.append_left _
    have hx2 := (List.nodup_append.mp (hp.nodup_iff.mpr hx1)).2.1
    have hp2 : (fp ++ (env.locals :: (Cs.map (·.2) ++ fps'))).Perm (env.locals :: (Cs.map (·.2) ++ (fp ++ fps'))) := by
      refine List.perm_middle.trans (List.Perm.cons _ ?_)
      rw [← List.append_assoc, ← List.append_assoc]
      exact List.Perm.append_right _ List.perm_append_comm
    refine hp2.nodup_iff.mp (List.nodup_append.mpr ⟨hn, hx2, fun a ha b hb e => ?_⟩)
    subst e
    refine hfX a ha (hX ▸ ?_)
    rcases List.mem_cons.mp hb with q | q
    · exact q ▸ .head _
    · refine .tail _ ?_
      rcases List.mem_append.mp q with q | q
      · exact List.mem_append_left _ q
      · exact List.mem_append_right _ (hsubX a q)
  have hsub : ∀ a ∈ env.locals :: (Cs.map (·.2) ++ (fp ++ fps')), a ∈ X ∨ a ∈ fp := fun a ha => by
    rcases List.mem_cons.mp ha with q | q
    · exact .inl (hX ▸ q ▸ .head _)
    · rcases List.mem_append.mp q with q | q
      · exact .inl (hX ▸ .tail _ (List.mem_append_left _ q))
      · rcases List.mem_append.mp q with q | q
        · exact .inr q
        · exact .inl (hX ▸ .tail _ (List.mem_append_right _ (hsubX a q)))
  have hvol : ∀ a, Vol V0 (env.locals :: (Cs.map (·.2) ++ (fp ++ fps'))) a → Vol V0 (X ++ fp) a := fun a q => q.imp id fun q => by
    rcases hsub a q with q | q
    · exact List.mem_append_left _ q
    · exact List.mem_append_right _ q
  have hLX : env.locals ∈ X := hX ▸ .head _
  have hnew : ∀ a ∈ env.locals :: (Cs.map (·.2) ++ (fp ++ fps')), h0.get? a = none := fun a ha => by
    rcases hsub a ha with q | q
    · exact F.new a q
    · cases e : h0.get? a with
      | none => rfl
      | some o => have := F.keep a o e; rw [hf a q] at this; cases this
  have hns1 := hns.keeps g.keep
  rcases hk with hk | hk
  · -- a local
    have hkl : env.kindOf (Str.ofString x) = some .local := by show env.scope.names.lookup _ = _; rw [F.scope]; exact hk
    refine wpAny_storeName_local hkl hns1 (fun h' hn' hs' => ?_) (by rw [hke]; rfl)
    have hL0 : ∀ b o, h0.get? b = some o → b ≠ env.locals := fun b o e q => by rw [q, F.new _ hLX] at e; cases e
    have hcm := calm_at (tk := s₁.toks + 1) (V := Vol V0 (X ++ fp)) hs' (.inr (List.mem_append_left _ hLX)) (Nat.le_succ _)
    have hnl : env.locals ∉ fp ++ fps' := fun q => (List.nodup_cons.mp hX').1 (List.mem_append_right _ q)
    refine ⟨_, ⟨fun b o hb e => (hs'.2 b fun q => hb (q ▸ hLX)).trans (g.keep b o e), Nat.le_trans g.tok (Nat.le_succ _), g.gens, g.os, fun b hb => (hsub b hb).imp id (hf b), ?_⟩,
      ⟨F.good, F.scope, F.kind, F.globals, F.builtins, F.base, fun b o e => (hs'.2 b (hL0 b o e)).trans (g.keep b o (F.keep b o e)), Nat.succ_ne_zero _, (fun a q => by
        obtain ⟨⟨o, e⟩, hx⟩ := F.live0 a q
        exact ⟨⟨o, (hs'.2 a fun q' => hx (q' ▸ hLX)).trans (g.keep _ _ e)⟩, fun q' => (hsub a q').elim hx fun q'' => by rw [hf a q''] at e; cases e⟩), F.ccells, hnew, F.cells, F.cinj,
        ⟨_, _, hn', rfl, hX', fun a ha => ?_, fun p hp => ?_, .cons (.loc hkl (if_pos rfl)) ?_ (StoR.weak hvol ?_)⟩⟩⟩
    · intro b hb o e
      by_cases q : b = env.locals
      · obtain ⟨oL, _, _, e', _⟩ := hn'; exact ⟨oL, q ▸ e'⟩
      · exact ⟨o, (hs'.2 b q).trans (g.keep b o e)⟩
    · by_cases q : a = env.locals
      · obtain ⟨oL, _, _, e', _⟩ := hn'; exact ⟨oL, q ▸ e'⟩
      · have : ∃ o, s₁.heap.get? a = some o := by
          rcases hsub a ha with q' | q'
          · obtain ⟨o, e⟩ := hlv a q'; exact ⟨o, g.keep _ _ e⟩
          · exact r.alive a q'
        obtain ⟨o, e⟩ := this
        exact ⟨o, (hs'.2 a q).trans e⟩
    · obtain ⟨v₀, q⟩ := hcl p hp
      exact ⟨v₀, (q.keeps g.keep).sameBut hs' fun q' => (List.nodup_cons.mp hX').1 (List.mem_append_left _ (q' ▸ List.mem_map_of_mem hp))⟩
    · exact r.calm hcm hvol fun a ha o e => (hs'.2 a fun q => hnl (q ▸ List.mem_append_left _ ha)).trans e
    · refine hdel.change hcm (fun a ha o e => (hs'.2 a fun q => hnl (q ▸ List.mem_append_right _ ha)).trans e) (fun p hp _ => if_neg fun q => delS_ne p hp (ofString_inj q)) fun p hp a o w hc e hw => ?_
      refine (hs'.2 a fun q => ?_).trans e
      obtain ⟨oL, es, ep, e', hd, _⟩ := hns1
      rw [q, e'] at e; cases e; rw [hw] at hd; cases hd
  · -- a cell
    have hkl : env.kindOf (Str.ofString x) = some .cell := by show env.scope.names.lookup _ = _; rw [F.scope]; exact hk
    obtain ⟨a₀, ha₀⟩ := hO hk
    have hp₀ := mem_lookup ha₀
    have haC : a₀ ∈ Cs.map (·.2) := List.mem_map_of_mem (f := (·.2)) hp₀
    have hlk := F.cells _ _ ha₀
    obtain ⟨v₀, hcell⟩ := hcl _ hp₀
    have haX : a₀ ∈ X := hX ▸ .tail _ (List.mem_append_left _ haC)
    have haL : env.locals ≠ a₀ := fun q => (List.nodup_cons.mp hX').1 (List.mem_append_left _ (q ▸ haC))
    have hna : a₀ ∉ fp ++ fps' := fun q => (List.nodup_append.mp (List.nodup_cons.mp hX').2).2.2 _ haC _ q rfl
    refine wpAny_storeName_cell hke hkl hlk (hcell.keeps g.keep) fun h' hn' hs' => ?_
    have hL0 : ∀ b o, h0.get? b = some o → b ≠ a₀ := fun b o e q => by rw [q, F.new _ haX] at e; cases e
    have hcm := calm_at (tk := s₁.toks) (V := Vol V0 (X ++ fp)) hs' (.inr (List.mem_append_left _ haX)) (Nat.le_refl _)
    refine ⟨_, ⟨fun b o hb e => (hs'.2 b fun q => hb (q ▸ haX)).trans (g.keep b o e), g.tok, g.gens, g.os, fun b hb => (hsub b hb).imp id (hf b), ?_⟩,
      ⟨F.good, F.scope, F.kind, F.globals, F.builtins, F.base, fun b o e => (hs'.2 b (hL0 b o e)).trans (g.keep b o (F.keep b o e)), (F.gr g).tok, (fun a q => by
        obtain ⟨⟨o, e⟩, hx⟩ := F.live0 a q
        exact ⟨⟨o, (hs'.2 a fun q' => hx (q' ▸ haX)).trans (g.keep _ _ e)⟩, fun q' => (hsub a q').elim hx fun q'' => by rw [hf a q''] at e; cases e⟩), F.ccells, hnew, F.cells, F.cinj,
        ⟨m, _, hns1.sameBut hs' haL, rfl, hX', fun a ha => ?_, fun p hp => ?_, ?_⟩⟩⟩
    · intro b hb o e
      by_cases q : b = a₀
      · obtain ⟨oL, e', _⟩ := hn'; exact ⟨oL, q ▸ e'⟩
      · exact ⟨o, (hs'.2 b q).trans (g.keep b o e)⟩
    · by_cases q : a = a₀
      · obtain ⟨oL, e', _⟩ := hn'; exact ⟨oL, q ▸ e'⟩
      · have : ∃ o, s₁.heap.get? a = some o := by
          rcases hsub a ha with q' | q'
          · obtain ⟨o, e⟩ := hlv a q'; exact ⟨o, g.keep _ _ e⟩
          · exact r.alive a q'
        obtain ⟨o, e⟩ := this
        exact ⟨o, (hs'.2 a q).trans e⟩
    · by_cases q : p.2 = a₀
      · exact ⟨_, q ▸ hn'⟩
      · obtain ⟨v₁, q'⟩ := hcl p hp
        exact ⟨v₁, (q'.keeps g.keep).sameBut hs' q⟩
    · obtain ⟨o', e', hd'⟩ := hn'
      refine .cons (.cell (.inl hkl) hlk e' hd') ?_ (StoR.weak hvol ?_)
      · exact r.calm hcm hvol fun a ha o e => (hs'.2 a fun q => hna (q ▸ List.mem_append_left _ ha)).trans e
      · refine hdel.change hcm (fun a ha o e => (hs'.2 a fun q => hna (q ▸ List.mem_append_right _ ha)).trans e) (fun p hp _ => rfl) fun p hp a o w hc e hw => ?_
        refine (hs'.2 a fun q => ?_).trans e
        exact delS_ne p hp (ofString_inj (F.cinj _ _ _ (q ▸ hc) hlk))

end
end Mine
namespace Mine

noncomputable def plainE : Expr → Bool
  | .Starred .. => false
  | _ => true
theorem starEach_cons {e : Expr} {rest : List Expr} {env : Env} (h : plainE e = true) : starEach (e :: rest) env = (false, eval e env) :: starEach rest env := by
  cases e <;> first | rfl | cases h
theorem assignEach_cons {e : Expr} {rest : List Expr} {env : Env} (h : plainE e = true) : assignEach (e :: rest) env = (false, assign e env) :: assignEach rest env := by
  cases e <;> first | rfl | cases h

/-- an iterator and what it will give -/
inductive ItAt (c : Cx) (V : Addr → Prop) (s : Shared) : Addr → List D → Prop
  | list {it l i o vs n ds} : s.heap.IsListIter it l i → ¬ V l → s.heap.get? l = some o → o.cls = .type "list" → o.data = .seq vs n → RepL c V s ds (vs.toList.drop i) → ItAt c V s it ds
  | tuple {it l i o vs n ds} : s.heap.IsTupleIter it l i → ¬ V l → s.heap.get? l = some o → o.cls = .type "tuple" → o.data = .seq vs n → RepL c V s ds (vs.toList.drop i) → ItAt c V s it ds
  | range {it x left st} : IsRangeIter s.heap it x left st → ItAt c V s it ((List.range left.toNat).map fun k : Nat => D.int (x + k * st))
  | ascii {it x t i} : s.heap.IsStrIter it "str_ascii_iterator" x t i → ItAt c V s it ((x.cps.toList.drop i).map fun k => D.str ⟨#[k]⟩)
  | wide {it x t i} : s.heap.IsStrIter it "str_iterator" x t i → ItAt c V s it ((x.cps.toList.drop i).map fun k => D.str ⟨#[k]⟩)

/-- one look at the iterator -/
structure ItStep (it : Addr) (s s' : Shared) : Prop where
  keep : Heap.ExtBut it s.heap s'.heap
  tok : s.toks ≤ s'.toks
  gens : s'.gens = s.gens
  os : s'.os = s.os

theorem ItAt.fields {c V s it ds} (h : ItAt c V s it ds) : ∃ o vs T, s.heap.get? it = some o ∧ o.data = .fields vs ∧ o.cls = .type T ∧ T ≠ "range" ∧
    ["enumerate", "zip", "dict_itemiterator", "dict_reverseitemiterator", "odict_iterator", "itertools.zip_longest", "itertools.pairwise"].contains T = false := by
  cases h with
  | list h => obtain ⟨o, h1, h2, h3⟩ := h; exact ⟨o, _, _, h1, h3, h2, by decide, by decide⟩
  | tuple h => obtain ⟨o, h1, h2, h3⟩ := h; exact ⟨o, _, _, h1, h3, h2, by decide, by decide⟩
  | range h => exact ⟨_, _, "range_iterator", h, rfl, rfl, by decide, by decide⟩
  | ascii h => obtain ⟨o, h1, h2, h3⟩ := h; exact ⟨o, _, _, h1, h3, h2, by decide, by decide⟩
  | wide h => obtain ⟨o, h1, h2, h3⟩ := h; exact ⟨o, _, _, h1, h3, h2, by decide, by decide⟩

theorem ItStep.calm {c V s it ds s'} (h : ItAt c V s it ds) (t : ItStep it s s') (W : Addr → Prop) : Calm W s s' :=
  ⟨t.tok, fun b o _ e hd => t.keep b o (fun q => by
    obtain ⟨o', vs, T, h1, h2, h3, h4, _⟩ := h.fields
    rw [q, h1] at e; cases e
    rcases hd with ⟨_, _, hd⟩ | ⟨_, _, hd⟩ | hd
    · rw [h2] at hd; cases hd
    · rw [h2] at hd; cases hd
    · rw [h3] at hd; injection hd with hd; exact h4 hd) e⟩

theorem ItAt.next {c : Cx} {V s it} {d : D} {ds : List D} {A : Around} (h : ItAt c V s it (d :: ds)) :
    wpAny c.M A (pyNext (.ref it)) (fun r s' => ∃ v, r = some v ∧ Rep c V s' d v ∧ ItAt c V s' it ds ∧ ItStep it s s') (fun _ _ => False) s := by
  have h' := h
  generalize hL : d :: ds = L at h
  cases h with
  | @list l i o vs n _ hi hv ho hcl hdt r =>
    subst hL
    cases hr : vs.toList.drop i with
    | nil => rw [hr] at r; cases r
    | cons v rest =>
      rw [hr] at r
      cases r with
      | cons r rs =>
        have hi0 : vs[i]? = some v := by
          have : (vs.toList.drop i)[0]? = some v := by rw [hr]; rfl
          simpa using this
        refine wpAny_pyNext_list_item hi ⟨o, ho, hcl, n, hdt⟩ hi0 fun h' hi' hs' => ?_
        have st : ItStep it s { s with heap := h' } := ⟨hs'.extBut, Nat.le_refl _, rfl, rfl⟩
        refine ⟨v, rfl, r.calm (st.calm ‹_› V) fun _ q => q, .list hi' hv ((st.calm ‹_› V).2 _ _ hv ho (.inl ⟨_, _, hdt⟩)) hcl hdt ?_, st⟩
        have : vs.toList.drop (i + 1) = rest := by
          have := congrArg List.tail hr
          simpa using this
        rw [this]
        exact rs.calm (st.calm ‹_› V) fun _ q => q
  | @tuple l i o vs n _ hi hv ho hcl hdt r =>
    subst hL
    cases hr : vs.toList.drop i with
    | nil => rw [hr] at r; cases r
    | cons v rest =>
      rw [hr] at r
      cases r with
      | cons r rs =>
        have hi0 : vs[i]? = some v := by
          have : (vs.toList.drop i)[0]? = some v := by rw [hr]; rfl
          simpa using this
        refine wpAny_pyNext_tuple_item hi ⟨o, ho, hcl, n, hdt⟩ hi0 fun h' hi' hs' => ?_
        have st : ItStep it s { s with heap := h' } := ⟨hs'.extBut, Nat.le_refl _, rfl, rfl⟩
        refine ⟨v, rfl, r.calm (st.calm ‹_› V) fun _ q => q, .tuple hi' hv ((st.calm ‹_› V).2 _ _ hv ho (.inl ⟨_, _, hdt⟩)) hcl hdt ?_, st⟩
        have : vs.toList.drop (i + 1) = rest := by
          have := congrArg List.tail hr
          simpa using this
        rw [this]
        exact rs.calm (st.calm ‹_› V) fun _ q => q
  | @range x left st hi =>
    obtain ⟨k, hk⟩ : ∃ k, left.toNat = k + 1 := by
      cases hk : left.toNat with
      | zero => rw [hk] at hL; simp at hL
      | succ k => exact ⟨k, rfl⟩
    rw [hk, List.range_succ_eq_map] at hL
    simp only [List.map_cons, List.map_map, List.cons.injEq] at hL
    obtain ⟨rfl, rfl⟩ := hL
    refine wpAny_pyNext_range_item hi (by omega) fun h' hi' hs' => ?_
    have stp : ItStep it s { s with heap := h', toks := s.toks + 1 } := ⟨hs'.extBut, Nat.le_succ _, rfl, rfl⟩
    refine ⟨_, rfl, ?_, ?_, stp⟩
    · have e0 : x + ((0 : Nat) : Int) * st = x := by simp
      rw [e0]; exact .int _ _
    · have e : (List.map ((fun k : Nat => D.int (x + ↑k * st)) ∘ Nat.succ) (List.range k)) = (List.range (left - 1).toNat).map fun k : Nat => D.int (x + st + k * st) := by
        rw [show (left - 1).toNat = k by omega]
        refine List.map_congr_left fun j _ => ?_
        simp only [Function.comp]
        congr 1
        rw [Int.natCast_succ, Int.add_mul]; omega
      rw [e]; exact .range hi'
  | @ascii x t i hi =>
    cases hr : x.cps.toList.drop i with
    | nil => rw [hr] at hL; cases hL
    | cons k rest =>
      rw [hr] at hL
      simp only [List.map_cons, List.cons.injEq] at hL
      obtain ⟨rfl, rfl⟩ := hL
      have hi0 : x.cps[i]? = some k := by
        have : (x.cps.toList.drop i)[0]? = some k := by rw [hr]; rfl
        simpa using this
      refine wpAny_pyNext_ascii_item hi hi0 fun h' hi' hs' => ?_
      have : x.cps.toList.drop (i + 1) = rest := by
        have := congrArg List.tail hr
        simpa using this
      exact ⟨_, rfl, .str _ _, this ▸ .ascii hi', ⟨hs'.extBut, Nat.le_succ _, rfl, rfl⟩⟩
  | @wide x t i hi =>
    cases hr : x.cps.toList.drop i with
    | nil => rw [hr] at hL; cases hL
    | cons k rest =>
      rw [hr] at hL
      simp only [List.map_cons, List.cons.injEq] at hL
      obtain ⟨rfl, rfl⟩ := hL
      have hi0 : x.cps[i]? = some k := by
        have : (x.cps.toList.drop i)[0]? = some k := by rw [hr]; rfl
        simpa using this
      refine wpAny_pyNext_wide_item hi hi0 fun h' hi' hs' => ?_
      have : x.cps.toList.drop (i + 1) = rest := by
        have := congrArg List.tail hr
        simpa using this
      exact ⟨_, rfl, .str _ _, this ▸ .wide hi', ⟨hs'.extBut, Nat.le_succ _, rfl, rfl⟩⟩

theorem ItAt.stop {c : Cx} {V s it} {A : Around} (hh : A.handled = none) (h : ItAt c V s it []) :
    wpAny c.M A (pyNext (.ref it)) (fun r s' => r = none ∧ ItStep it s s') (fun _ _ => False) s := by
  generalize hL : ([] : List D) = L at h
  cases h with
  | @list l i o vs n _ hi hv ho hcl hdt r =>
    subst hL
    cases hr : vs.toList.drop i with
    | cons v rest => rw [hr] at r; cases r
    | nil =>
      refine wpAny_pyNext_list_end hh hi ⟨o, ho, hcl, n, hdt⟩ ?_ fun h' hs' => ⟨rfl, hs', Nat.le_refl _, rfl, rfl⟩
      have : (vs.toList.drop i)[0]? = none := by rw [hr]; rfl
      simpa using this
  | @tuple l i o vs n _ hi hv ho hcl hdt r =>
    subst hL
    cases hr : vs.toList.drop i with
    | cons v rest => rw [hr] at r; cases r
    | nil =>
      refine wpAny_pyNext_tuple_end hh hi ⟨o, ho, hcl, n, hdt⟩ ?_ fun h' hs' => ⟨rfl, hs', Nat.le_refl _, rfl, rfl⟩
      have : (vs.toList.drop i)[0]? = none := by rw [hr]; rfl
      simpa using this
  | @range x left st hi =>
    have hz : left.toNat = 0 := by
      have := congrArg List.length hL
      simpa using this.symm
    exact wpAny_pyNext_range_end hh hi (by omega) fun h' hs' => ⟨rfl, hs', Nat.le_refl _, rfl, rfl⟩
  | @ascii x t i hi =>
    have hz : x.cps.toList.drop i = [] := by simpa using hL.symm
    refine wpAny_pyNext_ascii_end hh hi ?_ fun h' hs' => ⟨rfl, hs', Nat.le_refl _, rfl, rfl⟩
    have : (x.cps.toList.drop i)[0]? = none := by rw [hz]; rfl
    simpa using this
  | @wide x t i hi =>
    have hz : x.cps.toList.drop i = [] := by simpa using hL.symm
    refine wpAny_pyNext_wide_end hh hi ?_ fun h' hs' => ⟨rfl, hs', Nat.le_refl _, rfl, rfl⟩
    have : (x.cps.toList.drop i)[0]? = none := by rw [hz]; rfl
    simpa using this

/-- iterating over d gives ds -/
noncomputable def IterR (c : Cx) (d : D) (ds : List D) : Prop :=
  ∀ A V s v, Room 0 A → St c V s → Rep c V s d v → wpAny c.M A (pyIter v) (fun it s' => Gr s s' ∧ ∃ a, it = .ref a ∧ s.heap.get? a = none ∧ ItAt c V s' a ds) (fun _ _ => False) s

theorem get_size (h : Heap) : h.get? h.objs.size = none := by
  cases e : h.get? h.objs.size with
  | none => rfl
  | some o => exact absurd (Heap.lt_size e) (Nat.lt_irrefl _)

theorem IterR.list {c : Cx} {ds : List D} : IterR c (.list ds) ds := fun A V s v _ _ r => by
  cases r with
  | list na ho hcl hd hdt r =>
    refine wpAny_pyIter_list ⟨_, ho, hcl, _, hdt⟩ ⟨.push _, _, rfl, get_size _, .list ⟨_, Heap.get?_push_size _ rfl, rfl, rfl⟩ na (Heap.get?_push_of_some _ ho) hcl hdt ?_⟩
    rw [List.drop_zero]; exact r.gr (.push _)
theorem IterR.range {c : Cx} {a b st : Int} (hs : Builtin.Range.small a b st = true) : IterR c (.range a b st) ((List.range (Builtin.Range.rangeSize a b st).toNat).map fun k : Nat => .int (a + k * st)) := fun A V s v _ _ r => by
  cases r with
  | range na h =>
    refine wpAny_pyIter_range h hs ⟨.push _, _, rfl, get_size _, .range ?_⟩
    exact Heap.get?_push_size _ rfl

end Mine
namespace Mine

inductive AF where
  | next | brk | cont
  | ret (d : D)

inductive FlowR (c : Cx) (V : Addr → Prop) (s : Shared) : Flow → AF → Prop
  | next : FlowR c V s .next .next
  | brk : FlowR c V s .brk .brk
  | cont : FlowR c V s .cont .cont
  | ret {v d} : Rep c V s d v → FlowR c V s (.ret v) (.ret d)

noncomputable def SPost (c : Cx) (sc : Scope) (env : Env) (V0 : Addr → Prop) (h0 : Heap) (Cs : List (Str × Addr)) (X : List Addr) (s : Shared) (P : AF → Sto → Prop) : Flow → Shared → Prop :=
  fun f s' => ∃ X' ρ' af, Stp X s X' s' ∧ Fm c sc env V0 h0 Cs X' ρ' s' ∧ FlowR c (Vol V0 X') s' f af ∧ P af ρ'

structure Sx (c : Cx) (n : Nat) (sc : Scope) (ρ : Sto) (st : Stmt) (P : AF → Sto → Prop) : Prop where
  run : ∀ A env V0 h0 Cs X s, Room n A → Own sc Cs → Fm c sc env V0 h0 Cs X ρ s → wpAny c.M A (exec st env) (SPost c sc env V0 h0 Cs X s P) (fun _ _ => False) s
structure Tr (c : Cx) (n : Nat) (sc : Scope) (ρ : Sto) (ss : List Stmt) (P : AF → Sto → Prop) : Prop where
  run : ∀ A env V0 h0 Cs X s, Room n A → Own sc Cs → Fm c sc env V0 h0 Cs X ρ s → wpAny c.M A (execs ss env) (SPost c sc env V0 h0 Cs X s P) (fun _ _ => False) s

/-- the statement goes on, with the store ρ₂ -/
noncomputable abbrev Sn (c : Cx) (n : Nat) (sc : Scope) (ρ : Sto) (st : Stmt) (ρ₂ : Sto) : Prop := Sx c n sc ρ st fun af ρ' => af = .next ∧ ρ' = ρ₂

theorem SPost.mono {c sc env V0 h0 Cs X s P P' f s'} (h : SPost c sc env V0 h0 Cs X s P f s') (hp : ∀ af ρ', P af ρ' → P' af ρ') : SPost c sc env V0 h0 Cs X s P' f s' :=
  let ⟨X', ρ', af, a, b, d, e⟩ := h; ⟨X', ρ', af, a, b, d, hp _ _ e⟩
theorem SPost.stp {c sc env V0 h0 Cs X X₁ s s₁ P f s'} (h : SPost c sc env V0 h0 Cs X₁ s₁ P f s') (g : Stp X s X₁ s₁) : SPost c sc env V0 h0 Cs X s P f s' :=
  let ⟨X', ρ', af, a, b, d, e⟩ := h; ⟨X', ρ', af, g.trans a, b, d, e⟩

section
variable {c : Cx} {n : Nat} {sc : Scope} {ρ : Sto} {P P' : AF → Sto → Prop}

theorem Sx.mono {st : Stmt} (h : Sx c n sc ρ st P) (hp : ∀ af ρ', P af ρ' → P' af ρ') : Sx c n sc ρ st P' := .mk fun A env V0 h0 Cs X s hA hO F =>
  wpAny_mono (h.run A env V0 h0 Cs X s hA hO F) (fun _ _ q => q.mono hp) fun _ _ q => q
theorem Tr.mono {ss : List Stmt} (h : Tr c n sc ρ ss P) (hp : ∀ af ρ', P af ρ' → P' af ρ') : Tr c n sc ρ ss P' := .mk fun A env V0 h0 Cs X s hA hO F =>
  wpAny_mono (h.run A env V0 h0 Cs X s hA hO F) (fun _ _ q => q.mono hp) fun _ _ q => q

theorem Tr.nil (h : P .next ρ) : Tr c n sc ρ [] P := .mk fun A env V0 h0 Cs X s _ _ F =>
  wpAny_execs_nil ⟨X, ρ, .next, .refl X s, F, .next, h⟩
theorem Tr.cons {st : Stmt} {rest : List Stmt} {P₁ : AF → Sto → Prop} (h : Sx c n sc ρ st P₁) (hn : ∀ ρ', P₁ .next ρ' → Tr c n sc ρ' rest P) (ho : ∀ af ρ', af ≠ .next → P₁ af ρ' → P af ρ') :
    Tr c n sc ρ (st :: rest) P := .mk fun A env V0 h0 Cs X s hA hO F => wpAny_execs_cons (wpAny_mono (h.run A env V0 h0 Cs X s hA hO F) (fun f s' q => by
    obtain ⟨X', ρ', af, a, b, d, e⟩ := q
    cases d with
    | next => exact wpAny_mono ((hn _ e).run A env V0 h0 Cs X' s' hA hO b) (fun _ _ q => q.stp a) fun _ _ q => q
    | brk => exact ⟨X', ρ', _, a, b, .brk, ho _ _ (by intro q; cases q) e⟩
    | cont => exact ⟨X', ρ', _, a, b, .cont, ho _ _ (by intro q; cases q) e⟩
    | ret r => exact ⟨X', ρ', _, a, b, .ret r, ho _ _ (by intro q; cases q) e⟩) fun _ _ q => q)
theorem Tr.step {st : Stmt} {rest : List Stmt} {ρ₂ : Sto} (h : Sn c n sc ρ st ρ₂) (hr : Tr c n sc ρ₂ rest P) : Tr c n sc ρ (st :: rest) P :=
  Tr.cons h (fun _ q => q.2 ▸ hr) fun _ _ h q => absurd q.1 h
theorem Tr.last {st : Stmt} (h : Sx c n sc ρ st P) : Tr c n sc ρ [st] P := Tr.cons h (fun _ q => .nil q) fun _ _ _ q => q

/-- what a name may hold -/
theorem RepS.ofRep {V : Addr → Prop} {X : List Addr} {s : Shared} {d : D} {v : Value} (r : Rep c (VK true V X) s d v) : RepS c (Vol V (X ++ [])) s (.val d) v [] :=
  .val (r.weak fun a q => ⟨rfl, by simpa using q⟩)

theorem Sx.assign {x : String} {e : Expr} {p pos : Pos} {d : D} (h : Ev c n sc true ρ e d) (hk : CanStore sc x)
    (hs : ∀ env : Env, env.scope = sc → swapsWith e (some (.Name (Str.ofString x) p)) pos.line env = pure false := by intro _ _; rfl) : Sn c n sc ρ (.Assign [.Name (Str.ofString x) p] e pos) (setS ρ x (.val d)) :=
  .mk fun A env V0 h0 Cs X s hA hO F => wpAny_Assign_Name (wpAny_mono (h.run A env V0 h0 Cs X s hA F) (fun v s₁ q =>
    wpAny_mono (F.store q.1 (hO _) hk (RepS.ofRep q.2) .nil fun _ ha => nomatch ha) (fun _ s' q => let ⟨X', a, b⟩ := q; ⟨X', _, .next, a, b, .next, rfl, rfl⟩) fun _ _ q => q) fun _ _ q => q) (hs env F.scope)

/-- e has a fresh value that may be owned -/
structure EvS (c : Cx) (n : Nat) (sc : Scope) (ρ : Sto) (e : Expr) (sl : Slot) : Prop where
  run : ∀ A env V0 h0 Cs X s, Room n A → Fm c sc env V0 h0 Cs X ρ s →
    wpAny c.M A (eval e env) (fun v s' => Gr s s' ∧ ∃ fp, RepS c (Vol V0 (X ++ fp)) s' sl v fp ∧ fp.Nodup ∧ ∀ a ∈ fp, s.heap.get? a = none) (fun _ _ => False) s
theorem Sx.assignS {x : String} {e : Expr} {p pos : Pos} {sl : Slot} (h : EvS c n sc ρ e sl) (hk : CanStore sc x)
    (hs : ∀ env : Env, env.scope = sc → swapsWith e (some (.Name (Str.ofString x) p)) pos.line env = pure false := by intro _ _; rfl) : Sn c n sc ρ (.Assign [.Name (Str.ofString x) p] e pos) (setS ρ x sl) :=
  .mk fun A env V0 h0 Cs X s hA hO F => wpAny_Assign_Name (wpAny_mono (h.run A env V0 h0 Cs X s hA F) (fun v s₁ q =>
    let ⟨g, fp, r, hn, hf⟩ := q
    wpAny_mono (F.store g (hO _) hk r hn hf) (fun _ s' q => let ⟨X', a, b⟩ := q; ⟨X', _, .next, a, b, .next, rfl, rfl⟩) fun _ _ q => q) fun _ _ q => q) (hs env F.scope)

theorem Sx.ite {t : Expr} {body orelse : List Stmt} {pos : Pos} {b : Bool} (h : Tst c n sc ρ t b) (ht : b = true → Tr c n sc ρ body P) (hf : b = false → Tr c n sc ρ orelse P) : Sx c n sc ρ (.If t body orelse pos) P :=
  .mk fun A env V0 h0 Cs X s hA hO F => wpAny_If (wpAny_mono (h.run A env V0 h0 Cs X s hA F) (fun r s' q => by
    obtain ⟨g, rfl⟩ := q
    cases r with
    | true => exact wpAny_mono ((ht rfl).run A env V0 h0 Cs X s' hA hO (F.gr g)) (fun _ _ q => q.stp (.of_gr g)) fun _ _ q => q
    | false => exact wpAny_mono ((hf rfl).run A env V0 h0 Cs X s' hA hO (F.gr g)) (fun _ _ q => q.stp (.of_gr g)) fun _ _ q => q) fun _ _ q => q)

theorem Sx.ret {e : Expr} {pos : Pos} {d : D} (h : Ev c n sc true ρ e d) (hp : P (.ret d) ρ) : Sx c n sc ρ (.Return (some e) pos) P := .mk fun A env V0 h0 Cs X s hA hO F =>
  wpAny_Return_some (wpAny_mono (h.run A env V0 h0 Cs X s hA F) (fun v s' q => ⟨X, ρ, .ret d, .of_gr q.1, F.gr q.1, .ret (q.2.weak fun _ q => ⟨rfl, q⟩), hp⟩) fun _ _ q => q)
theorem Sx.try {body : List Stmt} {hd : ExceptHandler} {hs : List ExceptHandler} {pos : Pos} (h : Tr c n sc ρ body P) : Sx c n sc ρ (.Try body (hd :: hs) [] [] pos) P := .mk fun A env V0 h0 Cs X s hA hO F => by
  refine wpAny_Try_except (wpAny_mono (h.run A env V0 h0 Cs X s hA hO F) (fun f s' q => ?_) fun _ _ q => q.elim)
  cases f with
  | next => exact wpAny_execs_nil q
  | brk => exact q
  | cont => exact q
  | ret v => exact q

/-- storing into a target -/
structure TgtG (w : Bool) (c : Cx) (sc : Scope) (tgt : Expr) (d : D) (ρ ρ' : Sto) : Prop where
  run : ∀ A env V0 h0 Cs X s v, Room 0 A → (w = true → Own sc Cs) → Fm c sc env V0 h0 Cs X ρ s → Rep c (Vol V0 X) s d v →
    wpAny c.M A (assign tgt env v) (fun _ s' => ∃ X', Stp X s X' s' ∧ Fm c sc env V0 h0 Cs X' ρ' s') (fun _ _ => False) s
noncomputable abbrev TgtR (c : Cx) (sc : Scope) (tgt : Expr) (d : D) (ρ ρ' : Sto) : Prop := TgtG true c sc tgt d ρ ρ'
theorem TgtG.name {w : Bool} {x : String} {p : Pos} {d : D} (hk : sc.names.lookup (Str.ofString x) = some .local ∨ (w = true ∧ sc.names.lookup (Str.ofString x) = some .cell)) : TgtG w c sc (.Name (Str.ofString x) p) d ρ (setS ρ x (.val d)) := .mk fun A env V0 h0 Cs X s v hA hO F r =>
  wpAny_assign_Name (F.store (.refl s) (fun q => hk.elim (fun q' => by rw [q] at q'; cases q') fun q' => hO q'.1 _ q) (hk.imp id And.right) (RepS.ofRep (r.weak fun _ q => q.2)) .nil fun _ ha => nomatch ha)

theorem RepL.stp {V0 : Addr → Prop} {X X' : List Addr} {s s' : Shared} {d : List D} {v : List Value} (r : RepL c (Vol V0 X) s d v) (g : Stp X s X' s') : RepL c (Vol V0 X') s' d v := by
  have r2 : RepL c (fun a => Vol V0 X a ∨ (a ∈ X' ∧ s.heap.get? a = none)) s d v := r.ext fun a q => q.2
  refine r2.calm ⟨g.tok, fun b o nb e _ => g.keep b o (fun q => nb (.inl (.inr q))) e⟩ fun a q => ?_
  rcases q with q | q
  · exact .inl (.inl q)
  · rcases g.new a q with q' | q'
    · exact .inl (.inr q')
    · exact .inr ⟨q, q'⟩

end

inductive TgtsR (w : Bool) (c : Cx) (sc : Scope) : List Expr → List D → Sto → Sto → Prop
  | nil {ρ} : TgtsR w c sc [] [] ρ ρ
  | cons {t d ts ds ρ ρ₁ ρ₂} : plainE t = true → TgtG w c sc t d ρ ρ₁ → TgtsR w c sc ts ds ρ₁ ρ₂ → TgtsR w c sc (t :: ts) (d :: ds) ρ ρ₂

section
variable {c : Cx} {n : Nat} {sc : Scope} {ρ : Sto} {P P' : AF → Sto → Prop}

theorem TgtsR.length {w ts ds ρ ρ'} (h : TgtsR w c sc ts ds ρ ρ') (env : Env) : (assignEach ts env).length = ds.length ∧ (assignEach ts env).findIdx? (·.1) = none := by
  induction h with
  | nil => exact ⟨rfl, rfl⟩
  | cons hp _ _ ih =>
    rw [assignEach_cons hp]
    refine ⟨by simp [ih.1], ?_⟩
    rw [List.findIdx?_cons]
    simp [ih.2]

theorem TgtsR.wp {w ts ds ρ ρ'} (h : TgtsR w c sc ts ds ρ ρ') : ∀ {A env V0 h0 Cs X s vs}, Room 0 A → (w = true → Own sc Cs) → Fm c sc env V0 h0 Cs X ρ s → RepL c (Vol V0 X) s ds vs →
    wpAny c.M A (assignInOrder ((assignEach ts env).map (·.2)) vs) (fun _ s' => ∃ X', Stp X s X' s' ∧ Fm c sc env V0 h0 Cs X' ρ' s') (fun _ _ => False) s := by
  induction h with
  | nil =>
    intro A env V0 h0 Cs X s vs hA hO F r
    exact wpAny_pure ⟨X, .refl X s, F⟩
  | cons hp ht _ ih =>
    intro A env V0 h0 Cs X s vs hA hO F r
    cases r with
    | cons r rs =>
      rw [assignEach_cons hp]
      refine wpAny_bind (wpAny_holding (wpAny_mono (ht.run A env V0 h0 Cs X s _ hA hO F r) (fun _ s' q => ?_) fun _ _ q => q))
      obtain ⟨X', g, F'⟩ := q
      exact wpAny_mono (ih hA hO F' (rs.stp g)) (fun _ s'' q => let ⟨X'', g', F''⟩ := q; ⟨X'', g.trans g', F''⟩) fun _ _ q => q

theorem Gr.ext {s : Shared} {h' : Heap} (h : Heap.ExtBut s.heap.objs.size s.heap h') : Gr s { s with heap := h' } :=
  ⟨fun b o e => h b o (Nat.ne_of_lt (Heap.lt_size e)) e, Nat.le_refl _, rfl, rfl⟩

theorem TgtG.tuple {w : Bool} {ts : List Expr} {k : Nat} {p : Pos} {ds : List D} {ρ' : Sto} (h : TgtsR w c sc ts ds ρ ρ') : TgtG w c sc (.Tuple ts k p) (.tuple ds) ρ ρ' := .mk fun A env V0 h0 Cs X s v hA hO F r => by
  cases r with
  | @tuple a o vs nn _ na ho hcl hd hdt r =>
    have hl := h.length env
    refine wpAny_assign_Tuple (items := vs) hA.handled ⟨o, ho, hcl, _, hdt⟩ (by rw [hl.1, r.length]; simp) hl.2 fun h' he => ?_
    have g := Gr.ext he
    exact wpAny_mono (h.wp hA hO (F.gr g) (r.gr g)) (fun _ s'' q => let ⟨X'', g', F''⟩ := q; ⟨X'', (Stp.of_gr g).trans g', F''⟩) fun _ _ q => q

/-- the frame when an iterator is looked at -/
theorem Fm.it {env V0 h0 Cs X s it ds s' V} (F : Fm c sc env V0 h0 Cs X ρ s) (hi : ItAt c V s it ds) (hX : it ∉ X) (hn : h0.get? it = none) (hv : ¬ V0 it) (t : ItStep it s s') : Fm c sc env V0 h0 Cs X ρ s' := by
  have hcm := fun W => t.calm hi W
  obtain ⟨oi, fs, T, hi1, hi2, _, _, _⟩ := hi.fields
  have hne : ∀ b ∈ X, b ≠ it := fun b hb q => hX (q ▸ hb)
  obtain ⟨m, fps, h1, h2, h3, h4, h6, h5⟩ := F.sto
  have hLX : env.locals ∈ X := h2 ▸ .head _
  exact ⟨F.good, F.scope, F.kind, F.globals, F.builtins, F.base, fun b o e => t.keep b o (fun q => by rw [q, hn] at e; cases e) (F.keep b o e), fun e => F.tok (Nat.le_zero.mp (e ▸ t.tok)), (fun a q => ⟨let ⟨o, e⟩ := (F.live0 a q).1; ⟨o, t.keep a o (fun q' => hv (q' ▸ q)) e⟩, (F.live0 a q).2⟩), F.ccells, F.new, F.cells, F.cinj,
    m, fps, h1.extBut t.keep (hne _ hLX), h2, h3, fun a ha => let ⟨o, e⟩ := h4 a ha; ⟨o, t.keep a o (hne a ha) e⟩,
    fun p hp => let ⟨v, o, e, d⟩ := h6 p hp; ⟨v, o, t.keep _ o (fun q => by rw [q, hi1] at e; cases e; rw [d] at hi2; cases hi2) e, d⟩,
    h5.change (hcm _) (fun a ha o e => t.keep a o (hne a (h2 ▸ .tail _ (List.mem_append_right _ ha))) e) (fun _ _ _ => rfl)
      fun p _ a o w _ e hw => t.keep a o (fun q => by rw [q, hi1] at e; cases e; rw [hw] at hi2; cases hi2) e⟩

theorem ItAt.stp {V0 : Addr → Prop} {X X' : List Addr} {s s' : Shared} {it : Addr} {ds : List D} (h : ItAt c (Vol V0 X) s it ds) (hX : it ∉ X) (g : Stp X s X' s') : ItAt c (Vol V0 X') s' it ds := by
  have hk : ∀ o, s.heap.get? it = some o → s'.heap.get? it = some o := fun o e => g.keep it o hX e
  have hv : ∀ l o, ¬ Vol V0 X l → s.heap.get? l = some o → ¬ Vol V0 X' l := fun l o nl e q => by
    rcases q with q | q
    · exact nl (.inl q)
    · rcases g.new l q with q' | q'
      · exact nl (.inr q')
      · rw [q'] at e; cases e
  cases h with
  | list hi nl ho hc hd r => obtain ⟨o, h1, h2⟩ := hi; exact .list ⟨o, hk o h1, h2⟩ (hv _ _ nl ho) (g.keep _ _ (fun q => nl (.inr q)) ho) hc hd (r.stp g)
  | tuple hi nl ho hc hd r => obtain ⟨o, h1, h2⟩ := hi; exact .tuple ⟨o, hk o h1, h2⟩ (hv _ _ nl ho) (g.keep _ _ (fun q => nl (.inr q)) ho) hc hd (r.stp g)
  | range hi => exact .range (hk _ hi)
  | ascii hi => obtain ⟨o, h1, h2⟩ := hi; exact .ascii ⟨o, hk o h1, h2⟩
  | wide hi => obtain ⟨o, h1, h2⟩ := hi; exact .wide ⟨o, hk o h1, h2⟩

theorem lotg {A : Around} {E : Value → Shared → Prop} {V s it ds tgt v} (h : ItAt c V s it ds) {Q : Unit → Shared → Prop} (hq : Q () s) : wpAny c.M A (letOwnedTupleGo tgt (.ref it) v) Q E s := by
  obtain ⟨o, vs, T, h1, h2, h3, _, h5⟩ := h.fields
  have key : ∀ a : Addr, wpAny c.M A (do
      let o ← load it
      match o.cls, o.data with
      | .type n, .fields vs =>
        if ["enumerate", "zip", "dict_itemiterator", "dict_reverseitemiterator", "odict_iterator", "itertools.zip_longest", "itertools.pairwise"].contains n && vs[0]? == some (rawInt a) then
          rule "for.unpacks-the-owned-tuple"
          updateField it 0 .none
      | _, _ => pure ()) Q E s := fun a => by
    refine wpAny_bind (wpAny_load h1 ?_)
    rw [h3, h2]
    dsimp only
    rw [h5]
    exact wpAny_pure hq
  unfold letOwnedTupleGo
  split
  · cases v <;> first | exact key _ | exact wpAny_pure hq
  · cases v <;> first | exact key _ | exact wpAny_pure hq
  · exact wpAny_pure hq

end
end Mine
namespace Mine

noncomputable abbrev NoE : Value → Shared → Prop := fun _ _ => False

theorem code_for {c : Cx} {A : Around} {s : Shared} {R : Result → Shared → Prop} {target : Expr} {it : Value} {body orelse : List Stmt} {env : Env} (I : Nat → Shared → Prop)
    (turn : ∀ n s, I n s → wpAny c.M A (pyNext it) (fun r s₁ => match r with
      | none => wpAny c.M A (execs orelse env) (fun f s₃ => R (.ok f) s₃) NoE s₁
      | some v => wpAny c.M A (letOwnedTupleGo target it v) (fun _ s₁' => wpAny c.M A (assign target env v) (fun _ s₂ => wpAny c.M A (execs body env) (fun f s₃ => match f with
          | .next | .cont => ∃ m, m < n ∧ I m s₃
          | .brk => R (.ok .next) s₃
          | .ret v => R (.ok (.ret v)) s₃) NoE s₂) NoE s₁') NoE s₁) NoE s)
    (n : Nat) (h : I n s) : codeAny c.M A (.forLoop target it body orelse env) R s := by
  refine codeAny_loop' rfl I (fun n s hI => ?_) n h
  show wpAny _ _ ((forTurn target it body orelse env).onRaise (fun x => do noteFrame x env; theTreesLotGoes x)) _ _ s
  refine wpAny_noted ?_
  simp only [forTurn]
  refine wpAny_bind (wpAny_standAt (wpAny_bind (wpAny_onRaise (wpAny_mono (turn n s hI) (fun r s₁ h₁ => ?_) fun _ _ h' => h'.elim))))
  cases r with
  | none => exact wpAny_pure (.inr ⟨rfl, codeAny_block (wpAny_mono h₁ (fun _ _ q => q) fun _ _ q => q.elim)⟩)
  | some v =>
    refine wpAny_bind (wpAny_mono h₁ (fun _ s₁' h₁' => ?_) fun _ _ q => q.elim)
    refine wpAny_bind (wpAny_mono h₁' (fun _ s₂ h₂ => wpAny_bind (wpAny_mono h₂ (fun f s₃ h₃ => ?_) fun _ _ h' => h'.elim)) fun _ _ h' => h'.elim)
    cases f with
    | next => exact wpAny_pure (.inl ⟨rfl, h₃⟩)
    | cont => exact wpAny_pure (.inl ⟨rfl, h₃⟩)
    | brk => exact wpAny_pure h₃
    | ret v => exact wpAny_pure h₃

section
variable {c : Cx} {n : Nat} {sc : Scope} {ρ : Sto} {P P' : AF → Sto → Prop}

theorem Stp.it {X X' : List Addr} {s s' s₂ : Shared} {it : Addr} (a : Stp X s X' s') (hn : s.heap.get? it = none) (t : ItStep it s' s₂) : Stp X s X' s₂ :=
  have ne : ∀ b o, s.heap.get? b = some o → b ≠ it := fun b o e q => by rw [q, hn] at e; cases e
  ⟨fun b o hb e => t.keep b o (ne b o e) (a.keep b o hb e), Nat.le_trans a.tok t.tok, t.gens.trans a.gens, t.os.trans a.os, a.new,
   fun b hb o e => let ⟨o', e'⟩ := a.live b hb o e; ⟨o', t.keep b o' (ne b o e) e'⟩⟩

/-- what a turn must come to -/
noncomputable def Turn (I : Sto → Prop) (P : AF → Sto → Prop) : AF → Sto → Prop
  | .next, ρ => I ρ
  | .cont, ρ => I ρ
  | .brk, ρ => P .next ρ
  | .ret d, ρ => P (.ret d) ρ

theorem Sx.for {tgt e : Expr} {body : List Stmt} {pos : Pos} {d₀ : D} {ds : List D} (I : List D → Sto → Prop) (he : Ev c n sc true ρ e d₀) (hit : IterR c d₀ ds) (hI : I [] ρ)
    (turn : ∀ done d rest ρ', ds = done ++ d :: rest → I done ρ' → ∃ ρ₁, TgtR c sc tgt d ρ' ρ₁ ∧ Tr c n sc ρ₁ body (Turn (I (done ++ [d])) P))
    (fin : ∀ ρ', I ds ρ' → P .next ρ') (hs : ∀ (env : Env) x, foldedSetIterable e env x = pure x := by intro _ _; rfl) : Sx c n sc ρ (.For tgt e body [] pos) P := .mk fun A env V0 h0 Cs X s hA hO F => by
  refine wpAny_For (wpAny_mono (he.run A env V0 h0 Cs X s hA F) (fun v₀ s₀ q₀ => ?_) fun _ _ q => q) (hs env)
  refine wpAny_mono (hit A _ s₀ v₀ hA.zero ((F.st true).gr q₀.1) q₀.2) (fun itv s₁ q₁ => ?_) fun _ _ q => q
  obtain ⟨g₁, it, rfl, hnew, hi⟩ := q₁
  have hnX : ∀ a ∈ X, a ≠ it := fun a ha q => by
    obtain ⟨_, _, _, _, _, h4, _, _⟩ := (F.gr q₀.1).sto
    obtain ⟨o, e⟩ := h4 a ha
    rw [q, hnew] at e; cases e
  have hn0 : h0.get? it = none := by
    cases e : h0.get? it with
    | none => rfl
    | some o => have := (F.gr q₀.1).keep _ _ e; rw [hnew] at this; cases this
  have hv0 : ¬ V0 it := fun q => by
    obtain ⟨⟨o, e⟩, _⟩ := (F.gr q₀.1).live0 it q
    rw [hnew] at e; cases e
  have hns : s.heap.get? it = none := by
    cases e : s.heap.get? it with
    | none => rfl
    | some o => have := q₀.1.keep _ _ e; rw [hnew] at this; cases this
  refine codeAny_mono (R := fun r s' => match r with | .ok f => SPost c sc env V0 h0 Cs X s P f s' | .error _ => False) ?_ (fun r s' q => by cases r with | ok f => exact q | error e => exact q.elim)
  refine code_for (fun k s' => ∃ done rest X' ρ', ds = done ++ rest ∧ k = rest.length ∧ I done ρ' ∧ Stp X s X' s' ∧ Fm c sc env V0 h0 Cs X' ρ' s' ∧ ItAt c (Vol V0 X') s' it rest ∧ it ∉ X') ?_ ds.length ?_
  · rintro k s' ⟨done, rest, X', ρ', rfl, rfl, hI', hst, F', hi', hX'⟩
    cases rest with
    | nil =>
      refine wpAny_mono (ItAt.stop hA.handled hi') (fun r s₂ q => ?_) fun _ _ q => q
      obtain ⟨rfl, t⟩ := q
      exact wpAny_execs_nil ⟨X', ρ', .next, hst.it hns t, F'.it hi' hX' hn0 hv0 t, .next, fin _ (by simpa using hI')⟩
    | cons d rest =>
      refine wpAny_mono (ItAt.next hi') (fun r s₂ q => ?_) fun _ _ q => q
      obtain ⟨v, rfl, rv, hi₂, t⟩ := q
      have F₂ := F'.it hi' hX' hn0 hv0 t
      obtain ⟨ρ₁, htg, hbody⟩ := turn done d rest ρ' rfl hI'
      refine lotg hi₂ (wpAny_mono (htg.run A env V0 h0 Cs X' s₂ v hA.zero (fun _ => hO) F₂ rv) (fun _ s₃ q => ?_) fun _ _ q => q)
      obtain ⟨X₃, g₃, F₃⟩ := q
      have alive : ∃ o, s₂.heap.get? it = some o := let ⟨o, _, _, e, _⟩ := hi₂.fields; ⟨o, e⟩
      have hX₃ : it ∉ X₃ := fun q => (g₃.new it q).elim hX' fun q => by obtain ⟨o, e⟩ := alive; rw [q] at e; cases e
      have hi₃ := hi₂.stp hX' g₃
      refine wpAny_mono (hbody.run A env V0 h0 Cs X₃ s₃ hA hO F₃) (fun f s₄ q => ?_) fun _ _ q => q
      obtain ⟨X₄, ρ₄, af, g₄, F₄, hf, hp⟩ := q
      have hX₄ : it ∉ X₄ := fun q => (g₄.new it q).elim hX₃ fun q => by obtain ⟨o, _, _, e, _⟩ := hi₃.fields; rw [q] at e; cases e
      have hall := ((hst.it hns t).trans g₃).trans g₄
      cases hf with
      | next => exact ⟨_, Nat.lt_succ_self _, done ++ [d], rest, X₄, ρ₄, by simp, rfl, hp, hall, F₄, hi₃.stp hX₃ g₄, hX₄⟩
      | cont => exact ⟨_, Nat.lt_succ_self _, done ++ [d], rest, X₄, ρ₄, by simp, rfl, hp, hall, F₄, hi₃.stp hX₃ g₄, hX₄⟩
      | brk => exact ⟨X₄, ρ₄, .next, hall, F₄, .next, hp⟩
      | ret r => exact ⟨X₄, ρ₄, _, hall, F₄, .ret r, hp⟩
  · have gg := q₀.1.trans g₁
    refine ⟨[], ds, X, ρ, rfl, rfl, hI, .of_gr gg, F.gr gg, ?_, fun q => hnX _ q rfl⟩
    have : VK true V0 X = Vol V0 X := by funext a; simp [VK]
    rw [this] at hi; exact hi

/-- a while by an invariant and a measure -/
theorem Sx.while {t : Expr} {body : List Stmt} {pos : Pos} (I : Nat → Sto → Prop) (k : Nat) (hI : I k ρ)
    (turn : ∀ k ρ', I k ρ' → ∃ b, Tst c n sc ρ' t b ∧ (b = true → Tr c n sc ρ' body (Turn (fun ρ₂ => ∃ m, m < k ∧ I m ρ₂) P)) ∧ (b = false → P .next ρ')) : Sx c n sc ρ (.While t body [] pos) P := .mk fun A env V0 h0 Cs X s hA hO F => by
  refine wpAny_While ?_
  refine codeAny_mono (R := fun r s' => match r with | .ok f => SPost c sc env V0 h0 Cs X s P f s' | .error _ => False) ?_ (fun r s' q => by cases r with | ok f => exact q | error e => exact q.elim)
  refine codeAny_whileLoop (fun k s' => ∃ X' ρ', I k ρ' ∧ Stp X s X' s' ∧ Fm c sc env V0 h0 Cs X' ρ' s') ?_ k ⟨X, ρ, hI, .refl X s, F⟩
  rintro k s' ⟨X', ρ', hI', hst, F'⟩
  obtain ⟨b, ht, h1, h2⟩ := turn k ρ' hI'
  refine wpAny_mono (ht.run A env V0 h0 Cs X' s' hA F') (fun r s₂ q => ?_) fun _ _ q => q.elim
  obtain ⟨g, rfl⟩ := q
  cases r with
  | false =>
    rw [if_neg Bool.false_ne_true]
    exact wpAny_execs_nil ⟨X', ρ', .next, hst.trans (.of_gr g), F'.gr g, .next, h2 rfl⟩
  | true =>
    rw [if_pos rfl]
    refine wpAny_mono ((h1 rfl).run A env V0 h0 Cs X' s₂ hA hO (F'.gr g)) (fun f s₃ q => ?_) fun _ _ q => q.elim
    obtain ⟨X₃, ρ₃, af, g₃, F₃, hf, hp⟩ := q
    have hall := (hst.trans (.of_gr g)).trans g₃
    cases hf with
    | next => obtain ⟨m, hm, hp⟩ := hp; exact ⟨m, hm, X₃, ρ₃, hp, hall, F₃⟩
    | cont => obtain ⟨m, hm, hp⟩ := hp; exact ⟨m, hm, X₃, ρ₃, hp, hall, F₃⟩
    | brk => exact ⟨X₃, ρ₃, .next, hall, F₃, .next, hp⟩
    | ret r => exact ⟨X₃, ρ₃, _, hall, F₃, .ret r, hp⟩

end
end Mine
namespace Mine

section
variable {c : Cx} {n : Nat} {sc : Scope} {ρ ρ' : Sto} {P P' : AF → Sto → Prop}

/-- one store may be taken for another -/
noncomputable def Ent (c : Cx) (sc : Scope) (ρ ρ' : Sto) : Prop := ∀ env V0 h0 Cs X s, Fm c sc env V0 h0 Cs X ρ s → ∃ X', (∀ a ∈ X', a ∈ X) ∧ Fm c sc env V0 h0 Cs X' ρ' s
theorem Ent.refl (ρ : Sto) : Ent c sc ρ ρ := fun _ _ _ _ X _ F => ⟨X, fun _ h => h, F⟩
theorem Tr.ent {ss : List Stmt} (e : Ent c sc ρ ρ') (h : Tr c n sc ρ' ss P) : Tr c n sc ρ ss P := .mk fun A env V0 h0 Cs X s hA hO F =>
  let ⟨X', h1, F'⟩ := e env V0 h0 Cs X s F
  wpAny_mono (h.run A env V0 h0 Cs X' s hA hO F') (fun f s' q => let ⟨X₂, ρ₂, af, a, b, d, p⟩ := q; ⟨X₂, ρ₂, af, a.sub h1, b, d, p⟩) fun _ _ q => q
/-- taking an entry out -/
theorem StoR.take {env : Env} {V : Addr → Prop} {s : Shared} {m : Str → Option Value} {x : String} {sl : Slot} : ∀ {ρ fps}, StoR c env V s m ρ fps → ρ.lookup x = some sl →
    ∃ v fp fps' rest, Loc env s m x v ∧ RepS c V s sl v fp ∧ StoR c env V s m (delS x ρ) fps' ∧ (rest ++ (fp ++ fps')).Perm fps
  | _, _, .nil, e => by cases e
  | _, _, .cons (x := y) (v := v) (fp := fp) l r rs, e => by
    rw [List.lookup_cons] at e
    unfold delS
    by_cases hy : x = y
    · subst hy
      simp only [beq_self_eq_true] at e
      cases e
      rw [if_pos rfl]
      obtain ⟨fps', rest, h1, h2⟩ := rs.del x
      refine ⟨v, fp, fps', rest, l, r, h1, ?_⟩
      rw [← List.append_assoc]
      refine (List.Perm.append_right _ List.perm_append_comm).trans ?_
      rw [List.append_assoc]; exact h2.append_left fp
    · have : (x == y) = false := by simpa using hy
      rw [this] at e
      rw [if_neg fun q => hy q.symm]
      obtain ⟨v', fp', fps', rest, h1, h2, h3, h4⟩ := rs.take e
      refine ⟨v', fp', fp ++ fps', rest, h1, h2, .cons l r h3, ?_⟩
      have e1 : (rest ++ (fp' ++ (fp ++ fps'))).Perm (fp ++ (rest ++ (fp' ++ fps'))) := by
        refine ((List.perm_append_comm_assoc fp' fp fps').append_left rest).trans ?_
        exact List.perm_append_comm_assoc rest fp (fp' ++ fps')
      exact e1.trans (h4.append_left fp)

theorem Fm.mk' {env V0 h0 Cs X s} (F : Fm c sc env V0 h0 Cs X ρ s) {X' : List Addr} {m : Str → Option Value} {fps : List Addr} (hns : s.heap.Ns env.locals m) (hX : X' = env.locals :: (Cs.map (·.2) ++ fps)) (hn : X'.Nodup)
    (hs : ∀ a ∈ X', a ∈ X) (r : StoR c env (Vol V0 X') s m ρ' fps) : Fm c sc env V0 h0 Cs X' ρ' s :=
  ⟨F.good, F.scope, F.kind, F.globals, F.builtins, F.base, F.keep, F.tok, fun a q => ⟨(F.live0 a q).1, fun hx => (F.live0 a q).2 (hs a hx)⟩, F.ccells, fun a ha => F.new a (hs a ha), F.cells, F.cinj,
   let ⟨m₀, fps₀, h1, h2, h3, h4, h6, h5⟩ := F.sto
   ⟨m, fps, hns, hX, hn, fun a ha => h4 a (hs a ha), h6, r⟩⟩

inductive SubS : Sto → Sto → Prop
  | nil {ρ₁ : Sto} : SubS [] ρ₁
  | cons {x : String} {sl : Slot} {r ρ₁ : Sto} : ρ₁.lookup x = some sl → SubS r (delS x ρ₁) → SubS ((x, sl) :: r) ρ₁

theorem StoR.sub {env : Env} {V : Addr → Prop} {s : Shared} {m : Str → Option Value} {ρ' : Sto} {ρ : Sto} (h : SubS ρ' ρ) : ∀ {fps}, StoR c env V s m ρ fps →
    ∃ fps' rest, StoR c env V s m ρ' fps' ∧ (rest ++ fps').Perm fps := by
  induction h with
  | nil => intro fps _; exact ⟨[], fps, .nil, by simp⟩
  | cons hl _ ih =>
    intro fps r
    obtain ⟨v, fp, fps', rest, h1, h2, h3, h4⟩ := r.take hl
    obtain ⟨fps'', rest', h5, h6⟩ := ih h3
    refine ⟨fp ++ fps'', rest ++ rest', .cons h1 h2 h5, ?_⟩
    refine List.Perm.trans ?_ h4
    rw [List.append_assoc]
    refine List.Perm.append_left rest ?_
    exact (List.perm_append_comm_assoc rest' fp fps'').trans (h6.append_left fp)

theorem Ent.sub (h : SubS ρ' ρ) : Ent c sc ρ ρ' := fun env V0 h0 Cs X s F => by
  obtain ⟨m, fps, h1, h2, h3, h4, h6, h5⟩ := F.sto
  obtain ⟨fps', rest, r, hp⟩ := h5.sub h
  have hsub : ∀ a ∈ env.locals :: (Cs.map (·.2) ++ fps'), a ∈ X := fun a ha => by
    rw [h2]
    rcases List.mem_cons.mp ha with q | q
    · exact q ▸ .head _
    · refine .tail _ ?_
      rcases List.mem_append.mp q with q | q
      · exact List.mem_append_left _ q
      · exact List.mem_append_right _ (hp.subset (List.mem_append_right _ q))
  refine ⟨_, hsub, F.mk' h1 rfl ?_ hsub (r.weak fun a q => q.imp id (hsub a))⟩
  have hx1 : (env.locals :: (Cs.map (·.2) ++ fps)).Nodup := h2 ▸ h3
  have hpm : (rest ++ (env.locals :: (Cs.map (·.2) ++ fps'))).Perm (env.locals :: (Cs.map (·.2) ++ fps)) := by
    refine List.perm_middle.trans (List.Perm.cons _ ?_)
    exact (List.perm_append_comm_assoc rest _ fps').trans (hp.append_left _)
  exact (List.nodup_append.mp (hpm.nodup_iff.mpr hx1)).2.1

mutual
theorem RepS.freeze {V W : Addr → Prop} {s : Shared} : ∀ {sl v fp}, RepS c V s sl v fp → (∀ a, W a → V a) → (∀ a ∈ fp, ¬ W a) → Rep c W s sl.d v
  | _, _, _, .val r, hw, _ => r.weak hw
  | _, _, _, .own ho hcl hd hdt r, hw, hf => .list (hf _ (.head _)) ho hcl hd hdt (RepSL.freeze r hw fun a ha => hf a (.tail _ ha))
theorem RepSL.freeze {V W : Addr → Prop} {s : Shared} : ∀ {sl v fp}, RepSL c V s sl v fp → (∀ a, W a → V a) → (∀ a ∈ fp, ¬ W a) → RepL c W s (Slot.ds sl) v
  | _, _, _, .nil, _, _ => .nil
  | _, _, _, .cons r rs, hw, hf => .cons (RepS.freeze r hw fun a ha => hf a (List.mem_append_left _ ha)) (RepSL.freeze rs hw fun a ha => hf a (List.mem_append_right _ ha))
end

/-- an owned list is no longer turned -/
theorem Ent.freeze {x : String} {sl : Slot} (h : ρ.lookup x = some sl) : Ent c sc ρ (setS ρ x (.val sl.d)) := fun env V0 h0 Cs X s F => by
  obtain ⟨m, fps, h1, h2, h3, h4, h6, h5⟩ := F.sto
  obtain ⟨v, fp, fps', rest, l, rx, r, hp⟩ := h5.take h
  have hx1 : (env.locals :: (Cs.map (·.2) ++ fps)).Nodup := h2 ▸ h3
  have hpm : ((rest ++ fp) ++ (env.locals :: (Cs.map (·.2) ++ fps'))).Perm (env.locals :: (Cs.map (·.2) ++ fps)) := by
    refine List.perm_middle.trans (List.Perm.cons _ ?_)
    refine (List.perm_append_comm_assoc (rest ++ fp) _ fps').trans (List.Perm.append_left _ ?_)
    rw [List.append_assoc]; exact hp
  have hnd := List.nodup_append.mp (hpm.nodup_iff.mpr hx1)
  have hsub : ∀ a ∈ env.locals :: (Cs.map (·.2) ++ fps'), a ∈ X := fun a ha => h2 ▸ hpm.subset (List.mem_append_right _ ha)
  have hfX : ∀ a ∈ fp, a ∈ X := fun a ha => h2 ▸ .tail _ (List.mem_append_right _ (hp.subset (List.mem_append_right _ (List.mem_append_left _ ha))))
  refine ⟨_, hsub, F.mk' h1 (fps := [] ++ fps') rfl hnd.2.1 hsub (.cons l (.val (rx.freeze (fun a q => q.imp id (hsub a)) fun a ha q => ?_)) (r.weak fun a q => q.imp id (hsub a)))⟩
  rcases q with q | q
  · exact (F.live0 a q).2 (hfX a ha)
  · exact hnd.2.2 a (List.mem_append_right _ ha) a q rfl

end
end Mine
namespace Mine

theorem bindL_other {kindOf : Str → Option NameKind} {x : Str} : ∀ (binds : List (Str × Value)) (m : Str → Option Value), (∀ p ∈ binds, p.1 ≠ x) → bindL kindOf binds m x = m x
  | [], _, _ => rfl
  | (y, v) :: r, m, h => by
    unfold bindL
    rw [bindL_other r _ fun p hp => h p (.tail _ hp)]
    split
    · exact if_neg fun q => h _ (.head _) q.symm
    · rfl
theorem bindC_other {kindOf : Str → Option NameKind} {x : Str} : ∀ (binds : List (Str × Value)) (m : Str → Option Value), (∀ p ∈ binds, p.1 ≠ x) → bindC kindOf binds m x = m x
  | [], _, _ => rfl
  | (y, v) :: r, m, h => by
    unfold bindC
    rw [bindC_other r _ fun p hp => h p (.tail _ hp)]
    split
    · rfl
    · exact if_neg fun q => h _ (.head _) q.symm
theorem bindL_at {kindOf : Str → Option NameKind} {x : Str} {v : Value} (hk : kindOf x = some .local) : ∀ (binds : List (Str × Value)) (m : Str → Option Value), (binds.map (·.1)).Nodup → (x, v) ∈ binds → bindL kindOf binds m x = some v
  | (y, w) :: r, m, hn, h => by
    unfold bindL
    rcases List.mem_cons.mp h with q | q
    · cases q
      rw [bindL_other r _ fun p hp q => (List.nodup_cons.mp hn).1 (List.mem_map.mpr ⟨p, hp, q⟩), if_pos hk]
      exact if_pos rfl
    · exact bindL_at hk r _ (List.nodup_cons.mp hn).2 q
theorem bindC_at {kindOf : Str → Option NameKind} {x : Str} {v : Value} (hk : kindOf x ≠ some .local) : ∀ (binds : List (Str × Value)) (m : Str → Option Value), (binds.map (·.1)).Nodup → (x, v) ∈ binds → bindC kindOf binds m x = some v
  | (y, w) :: r, m, hn, h => by
    unfold bindC
    rcases List.mem_cons.mp h with q | q
    · cases q
      rw [bindC_other r _ fun p hp q => (List.nodup_cons.mp hn).1 (List.mem_map.mpr ⟨p, hp, q⟩), if_neg hk]
      exact if_pos rfl
    · exact bindC_at hk r _ (List.nodup_cons.mp hn).2 q

noncomputable def bindsOf (ps : List String) (vs : List Value) : List (Str × Value) := (ps.map Str.ofString).zip vs
noncomputable def stoOf : List String → List D → Sto
  | p :: ps, d :: ds => (p, .val d) :: stoOf ps ds
  | _, _ => []

/-- what is known of a def at the top -/
structure IsDef (c : Cx) (a : Addr) (sc : Scope) (ps : List String) (body : List Stmt) : Prop where
  ex : ∃ o fd, c.base.get? a = some o ∧ o.data = .func fd ∧ fd.body = .stmts body ∧ fd.scope = sc ∧ fd.closure = [] ∧ fd.globals = mainGlobals ∧ fd.builtins = builtinsNs ∧ c.base.CodeRec fd.code fd.qualname ∧
    (∀ vs : List Value, vs.length = ps.length → bindArgs fd ⟨vs, []⟩ = pure (bindsOf ps vs))
  kinds : ∀ p ∈ ps, CanStore sc p
  nodup : ps.Nodup
  cnd : ((cellsFrom 0 sc.names []).map (·.1)).Nodup
  co : sc.isCoroutine = false
  gen : sc.isGenerator = false
  kind : sc.kind = .function
  nofree : ∀ x, sc.names.lookup x ≠ some .free

theorem cellsFrom_shift : ∀ (names : List (Str × NameKind)) (n m : Nat) (acc acc' : List (Str × Addr)), acc.map (·.1) = acc'.map (·.1) → (cellsFrom n names acc).map (·.1) = (cellsFrom m names acc').map (·.1)
  | [], _, _, _, _, h => h
  | (x, k) :: r, n, m, acc, acc', h => by
    unfold cellsFrom
    split
    · exact cellsFrom_shift r _ _ _ _ (by simp [h])
    · exact cellsFrom_shift r _ _ _ _ h
theorem cellsFrom_has {x : Str} : ∀ (names : List (Str × NameKind)) (n : Nat) (acc : List (Str × Addr)), names.lookup x = some .cell → ((cellsFrom n names acc).lookup x).isSome = true := fun names n acc h =>
  cellsFrom_some names n acc (.inl h)
theorem lookup_inj {cs : List (Str × Addr)} (hp : cs.Pairwise fun x y => x.2 ≠ y.2) {x y : Str} {a : Addr} (hx : cs.lookup x = some a) (hy : cs.lookup y = some a) : x = y :=
  name_of_addr hp (mem_of_lookup hx) (mem_of_lookup hy)

theorem repL_zip {c V s} : ∀ {ps : List String} {ds : List D} {vs : List Value}, RepL c V s ds vs → ps.length = ds.length → ∀ (env : Env) (m : Str → Option Value),
    (∀ p v, (Str.ofString p, v) ∈ bindsOf ps vs → p ∈ ps → Loc env s m p v) → StoR c env V s m (stoOf ps ds) []
  | [], [], _, .nil, _, _, _, _ => .nil
  | p :: ps, d :: ds, _, .cons (v := v) r rs, hl, env, m, h =>
    .cons (fp := []) (h p v (.head _) (.head _)) (.val r) (repL_zip rs (by simpa using hl) env m fun q w hq hm => h q w (.tail _ hq) (.tail _ hm))
  | [], _ :: _, _, _, hl, _, _, _ => nomatch hl
  | _ :: _, [], _, _, hl, _, _, _ => nomatch hl

theorem FnR.def {c : Cx} {n : Nat} {a : Addr} {sc : Scope} {ps : List String} {body : List Stmt} {ds : List D} {d : D} (hd : IsDef c a sc ps body) (hl : ps.length = ds.length)
    (h : Tr c n sc (stoOf ps ds) body fun af _ => af = .ret d ∨ (af ≠ .ret d ∧ d = .none ∧ ∀ d', af ≠ .ret d')) : FnR c (n + 1) (.ref a) ds d := .mk fun A V s vs hA hS r => by
  obtain ⟨o, fd, ho, hdat, hbody, hsc, hclo, hgl, hbl, hcd, hbind⟩ := hd.ex
  subst hsc
  have hvl : vs.length = ps.length := by rw [← r.length, hl]
  have hbs := hbind vs hvl
  have hkinds : ∀ x ∈ bindsOf ps vs, fd.scope.names.lookup x.1 = some .local ∨ (fd.scope.names.lookup x.1 = some .cell ∧ ((cellsFrom (s.heap.objs.size + 1) fd.scope.names []).lookup x.1).isSome = true) := fun x hx => by
    obtain ⟨x1, x2⟩ := x
    have := List.of_mem_zip hx
    obtain ⟨p, hp, e⟩ := List.mem_map.mp this.1
    subst e
    rcases hd.kinds p hp with q | q
    · exact .inl q
    · exact .inr ⟨q, cellsFrom_has _ _ _ q⟩
  have hnames : ((bindsOf ps vs).map (·.1)).Nodup := by
    unfold bindsOf
    rw [List.map_fst_zip (by simp [hvl])]
    have : ∀ l : List String, l.Nodup → (l.map Str.ofString).Nodup := by
      intro l hl
      induction l with
      | nil => exact .nil
      | cons x l ih =>
        rw [List.map_cons, List.nodup_cons]
        refine ⟨fun q => ?_, ih (List.nodup_cons.mp hl).2⟩
        obtain ⟨y, hy, e⟩ := List.mem_map.mp q
        exact (List.nodup_cons.mp hl).1 (ofString_inj e ▸ hy)
    exact this ps hd.nodup
  refine wpAny_with_toks (Nat.le_refl _) (wpAny_call (codeAny_mono (R := fun r s' => match r with | .ok (.ret v) => Keeps s.heap s'.heap ∧ s'.gens = s.gens ∧ s'.os = s.os ∧ Rep c V s' d v | _ => False) ?_ (fun r s' q => ?_)))
  · refine codeAny_call_function hA.lim (hS.keep _ _ ho) hdat hd.co hd.gen hbody (hcd.keeps hS.keep) ?_
    rw [hbs, hclo]
    refine wpAny_pure (wpAny_with_toks (Nat.le_refl _) (wpAny_newFunctionEnv_cells hd.kind hkinds fun env he s₁ x htok => ?_))
    subst he
    refine ⟨(hS.good.lim.keeps hS.keep).keeps x.toInCall.keep, codeAny_func ?_⟩
    -- the body
    have hk₁ : Keeps s.heap s₁.heap := x.toInCall.keep
    have hca := x.apart
    obtain ⟨h₁, tk, rfl⟩ := x.toInCall.same
    have hcellAt : ∀ y b, (y, b) ∈ (callEnvC fd s.heap.objs.size a).cells → (callEnvC fd s.heap.objs.size a).cells.lookup y = some b := fun y b hm => by
      have hnd : ((cellsFrom (s.heap.objs.size + 1) fd.scope.names []).map (·.1)).Nodup := cellsFrom_shift fd.scope.names 0 (s.heap.objs.size + 1) [] [] rfl ▸ hd.cnd
      exact lookup_of_mem_nodup hnd hm
    have htk : 0 < tk := Nat.lt_of_lt_of_le hS.pos htok
    have gr₁ : Gr s { s with heap := h₁, toks := tk } := ⟨hk₁, htok, rfl, rfl⟩
    have hnew : ∀ b ∈ s.heap.objs.size :: ((callEnvC fd s.heap.objs.size a).cells.map (·.2) ++ []), s.heap.get? b = none := fun b hb => by
      have : s.heap.objs.size ≤ b := by
        rcases List.mem_cons.mp hb with q | q
        · exact Nat.le_of_eq q.symm
        · rw [List.append_nil] at q
          obtain ⟨p, hp, rfl⟩ := List.mem_map.mp q
          exact Nat.le_of_lt (x.above p.1 p.2 hp)
      cases e : s.heap.get? b with
      | none => rfl
      | some o' => exact absurd (Heap.lt_size e) (Nat.not_lt.mpr this)
    have F : Fm c fd.scope (callEnvC fd s.heap.objs.size a) V s.heap (callEnvC fd s.heap.objs.size a).cells (s.heap.objs.size :: ((callEnvC fd s.heap.objs.size a).cells.map (·.2) ++ [])) (stoOf ps ds) { s with heap := h₁, toks := tk } := by
      refine ⟨hS.good, rfl, hd.kind, hgl, hbl, hS.keep, hk₁, Nat.ne_of_gt htk, (fun b q => by
        obtain ⟨o', e⟩ := hS.live b q
        exact ⟨⟨o', hk₁ _ _ e⟩, fun hb => by rw [hnew b hb] at e; cases e⟩), (fun y hy => by
        rcases hy with hy | hy
        · exact Option.isSome_iff_exists.mp (cellsFrom_has fd.scope.names (s.heap.objs.size + 1) [] hy)
        · exact absurd hy (hd.nofree y)), hnew, fun _ _ q => q, fun y z b hy hz => lookup_inj hca hy hz,
        ⟨_, [], x.toInCall.ns, rfl, ?_, fun b hb => ?_, fun p hp => ⟨_, x.cell p.1 p.2 (hcellAt _ _ hp)⟩, ?_⟩⟩
      · rw [List.append_nil]
        refine List.nodup_cons.mpr ⟨fun q => ?_, ?_⟩
        · obtain ⟨p, hp, e⟩ := List.mem_map.mp q
          have := x.above p.1 p.2 hp
          exact Nat.lt_irrefl _ (e ▸ this)
        · exact List.pairwise_map.mpr hca
      · rcases List.mem_cons.mp hb with q | q
        · obtain ⟨oL, _, _, e, _⟩ := x.toInCall.ns
          exact ⟨oL, q ▸ e⟩
        · rw [List.append_nil] at q
          obtain ⟨p, hp, rfl⟩ := List.mem_map.mp q
          obtain ⟨oc, e, _⟩ := x.cell p.1 p.2 (hcellAt _ _ hp)
          exact ⟨oc, e⟩
      · have r2 : RepL c (Vol V (s.heap.objs.size :: ((callEnvC fd s.heap.objs.size a).cells.map (·.2) ++ []))) { s with heap := h₁, toks := tk } ds vs :=
          (r.ext (W := fun b => b ∈ s.heap.objs.size :: ((callEnvC fd s.heap.objs.size a).cells.map (·.2) ++ [])) hnew).gr gr₁
        refine repL_zip r2 hl _ _ fun p v hm hp => ?_
        rcases hd.kinds p hp with q | q
        · exact .loc q (bindL_at q _ _ hnames hm)
        · obtain ⟨b, hb⟩ := Option.isSome_iff_exists.mp (cellsFrom_has fd.scope.names (s.heap.objs.size + 1) [] q)
          obtain ⟨oc, e, hdc⟩ := x.cell _ _ hb
          refine .cell (.inl q) hb e (hdc.trans ?_)
          have : bindC (callEnvC fd s.heap.objs.size a).kindOf (bindsOf ps vs) (fun _ => none) (Str.ofString p) = some v := bindC_at (by
            show fd.scope.names.lookup _ ≠ _
            rw [q]; decide) _ _ hnames hm
          exact congrArg _ this
    refine wpAny_mono (h.run _ _ V s.heap _ _ _ (hA.deeper _) (fun y hy => ?_) F) (fun f s' q => ?_) fun _ _ q => q.elim
    · have := cellsFrom_has fd.scope.names (s.heap.objs.size + 1) [] hy
      exact Option.isSome_iff_exists.mp this
    · obtain ⟨X', ρ', af, g, F', hf, hp⟩ := q
      refine ⟨F'.keep, g.gens, g.os, ?_⟩
      cases hf with
      | next => rcases hp with hp | ⟨_, rfl, _⟩
                · cases hp
                · exact .none
      | brk => rcases hp with hp | ⟨_, rfl, _⟩
               · cases hp
               · exact .none
      | cont => rcases hp with hp | ⟨_, rfl, _⟩
                · cases hp
                · exact .none
      | ret r' =>
        rcases hp with hp | ⟨_, _, hp⟩
        · cases hp; exact r'.weak fun _ q => .inl q
        · exact absurd rfl (hp _)
  · cases r with
    | error e => exact q.elim
    | ok f =>
      cases f with
      | ret v => exact fun ht => ⟨⟨q.1, ht, q.2.1, q.2.2.1⟩, q.2.2.2⟩
      | _ => exact q.elim

/-- the plain case: every way ends in a return of d -/
theorem FnR.of {c : Cx} {n : Nat} {a : Addr} {sc : Scope} {ps : List String} {body : List Stmt} {ds : List D} {d : D} (hd : IsDef c a sc ps body) (hl : ps.length = ds.length)
    (h : Tr c n sc (stoOf ps ds) body fun af _ => af = .ret d) : FnR c (n + 1) (.ref a) ds d := FnR.def hd hl (h.mono fun _ _ q => .inl q)

theorem FnR.mono {c : Cx} {n m : Nat} {f : Value} {ds : List D} {d : D} (h : FnR c n f ds d) (hm : n ≤ m) : FnR c m f ds d := .mk fun A V s vs hA hS r => h.run A V s vs (hA.mono hm) hS r

end Mine
namespace Mine

section
variable {c : Cx} {n : Nat} {sc : Scope} {k : Bool} {ρ : Sto}

/-- the arguments, the items of a display -/
structure EvL (c : Cx) (n : Nat) (sc : Scope) (k : Bool) (ρ : Sto) (es : List Expr) (ds : List D) : Prop where
  run : ∀ A env V0 h0 Cs X s pos, Room n A → Fm c sc env V0 h0 Cs X ρ s →
    wpAny c.M A (spliced (backTo pos (starEach es env))) (fun vs s' => Gr s s' ∧ RepL c (VK k V0 X) s' ds vs) NoE s
theorem EvL.nil : EvL c n sc k ρ [] [] := .mk fun A env V0 h0 Cs X s pos _ _ => wpAny_items_nil ⟨.refl s, .nil⟩
theorem EvL.cons {e : Expr} {es : List Expr} {d : D} {ds : List D} (h : Ev c n sc k ρ e d) (hs : EvL c n sc k ρ es ds) (hp : plainE e = true := by rfl) : EvL c n sc k ρ (e :: es) (d :: ds) :=
  .mk fun A env V0 h0 Cs X s pos hA F => wpAny_items_cons (wpAny_mono (h.run A env V0 h0 Cs X s hA F) (fun v s₁ q₁ => wpAny_mono (hs.run A env V0 h0 Cs X s₁ pos hA (F.gr q₁.1)) (fun vs s₂ q₂ =>
    ⟨q₁.1.trans q₂.1, .cons (q₁.2.gr q₂.1) q₂.2⟩) fun _ _ q => q) fun _ _ q => q) (starEach_cons hp)

/-- what may stand in front of a call's brackets -/
inductive Callee (c : Cx) : Value → Prop
  | builtin (id : String) : Callee c (.builtin id)
  | type (T : String) : Callee c (.type T)
  | func {a o fd} : c.base.get? a = some o → o.data = .func fd → Callee c (.ref a)

theorem noStar_all {es : List Expr} {env : Env} {pos : Pos} (h : es.all plainE = true) : (backTo pos (starEach es env)).any (·.1) = false := by
  induction es with
  | nil => rfl
  | cons e es ih =>
    simp only [List.all_cons, Bool.and_eq_true] at h
    rw [starEach_cons h.1]
    exact ih h.2
theorem evalArgs_of {M : Model} {A : Around} {E : Value → Shared → Prop} {s : Shared} {env : Env} {f : Value} {es : List Expr} {pos : Pos} {Q : Args → Shared → Prop} (hp : es.all plainE = true)
    (h : wpAny M A (spliced (backTo pos (starEach es env))) (fun vs s' => Q ⟨vs, []⟩ s') E s) : wpAny M A (evalArgs f true (backTo pos (starEach es env)) []) Q E s := by
  cases es with
  | nil =>
    unfold evalArgs
    show wpAny M A (spliced [] >>= _) Q E s
    refine wpAny_bind (wpAny_mono h (fun vs s' h' => ?_) fun _ _ x => x)
    refine wpAny_holding ?_
    exact wpAny_bind (wpAny_pure (wpAny_bind (wpAny_pure (wpAny_pure h'))))
  | cons e es =>
    simp only [List.all_cons, Bool.and_eq_true] at hp
    rw [starEach_cons hp.1] at h ⊢
    exact Calls.evalArgs_plain h

theorem Callee.wp {M : Model} {A : Around} {E : Value → Shared → Prop} {s : Shared} {env : Env} {f : Value} {es : List Expr} {pos : Pos} {first : List Value} {Q : Value → Shared → Prop} (hf : Callee c f) (hp : es.all plainE = true)
    (h : wpAny M A (spliced (backTo pos (starEach es env))) (fun vs s' => Keeps c.base s'.heap ∧ wpAny M A (call f (first ++ vs)) Q E s') E s) :
    wpAny M A (callWith pos f first (backTo pos (starEach es env)) []) Q E s := by
  cases hf with
  | builtin id => exact Calls.callWith_builtin (noStar_all hp) (evalArgs_of hp (wpAny_mono h (fun _ _ q => q.2) fun _ _ q => q))
  | type T => exact PySem.callWith_type (noStar_all hp) (evalArgs_of hp (wpAny_mono h (fun _ _ q => q.2) fun _ _ q => q))
  | func ho hd => exact Calls.callWith_function (evalArgs_of hp (wpAny_mono h (fun _ _ q => ⟨⟨q.1 _ _ ho, hd⟩, q.2⟩) fun _ _ q => q))

theorem Ev.call {f : Expr} {es : List Expr} {pos : Pos} {fv : Value} {ds : List D} {d : D} (hf : Ev c n sc true ρ f (.val fv)) (hc : Callee c fv) (ha : EvL c n sc k ρ es ds) (h : FnR c n fv ds d)
    (hp : es.all plainE = true := by rfl)
    (he : ∀ env : Env, eval (.Call f es [] pos) env = (do callWith pos (← eval f env) [] (backTo pos (starEach es env)) (backToKw pos (keywordEach [] env))) := by intro _; rfl) : Ev c n sc k ρ (.Call f es [] pos) d :=
  .mk fun A env V0 h0 Cs X s hA F => by
    rw [he]
    refine wpAny_bind (wpAny_mono (hf.run A env V0 h0 Cs X s hA F) (fun v s₁ q₁ => ?_) fun _ _ q => q)
    obtain ⟨g₁, r₁⟩ := q₁
    cases r₁
    refine hc.wp hp (wpAny_mono (ha.run A env V0 h0 Cs X s₁ pos hA (F.gr g₁)) (fun vs s₂ q₂ => ⟨((F.gr g₁).gr q₂.1).base.trans ((F.gr g₁).gr q₂.1).keep, ?_⟩) fun _ _ q => q)
    exact wp_gr (g₁.trans q₂.1) (h.run A _ s₂ vs hA ((F.st k).gr (g₁.trans q₂.1)) q₂.2)

/-- arguments that are looked at only -/
theorem Ev.callF {f : Expr} {es : List Expr} {pos : Pos} {fv : Value} {ds : List D} {d : D} (hf : Ev c n sc true ρ f (.val fv)) (hc : Callee c fv) (ha : EvL c n sc false ρ es ds) (h : FnR c n fv ds d) (hd : d.flat = true)
    (hp : es.all plainE = true := by rfl)
    (he : ∀ env : Env, eval (.Call f es [] pos) env = (do callWith pos (← eval f env) [] (backTo pos (starEach es env)) (backToKw pos (keywordEach [] env))) := by intro _; rfl) : Ev c n sc k ρ (.Call f es [] pos) d :=
  (Ev.call hf hc ha h hp he).lookAt hd

noncomputable def D.ty : D → Option String
  | .str _ => some "str"
  | .tstr _ => some "str"
  | .list _ => some "list"
  | .tuple _ => some "tuple"
  | .dict _ => some "dict"
  | .int _ => some "int"
  | .bool _ => some "bool"
  | _ => Option.none
theorem Rep.typeIs {V s d v T} (r : Rep c V s d v) (h : d.ty = some T) : s.TypeIs v T ∧ (∀ a, v = .ref a → ∃ ob, s.heap.get? a = some ob ∧ ob.dict = Option.none) := by
  cases r with
  | none => cases h
  | bool b => cases h; exact ⟨rfl, fun _ e => nomatch e⟩
  | int i t => cases h; exact ⟨rfl, fun _ e => nomatch e⟩
  | str x t => cases h; exact ⟨typeIs_str _ _ _, fun _ e => nomatch e⟩
  | tstr x t => cases h; exact ⟨typeIs_str _ _ _, fun _ e => nomatch e⟩
  | val v => cases h
  | range => cases h
  | list na ho hcl hd hdt r => cases h; exact ⟨⟨_, ho, hcl⟩, fun _ e => by cases e; exact ⟨_, ho, hd.1⟩⟩
  | tuple na ho hcl hd hdt r => cases h; exact ⟨⟨_, ho, hcl⟩, fun _ e => by cases e; exact ⟨_, ho, hd.1⟩⟩
  | dict na hsm ho hx hdt r => cases h; exact ⟨⟨_, ho, hx.1⟩, fun _ e => by cases e; exact ⟨_, ho, hx.2.1⟩⟩

theorem Ev.list {es : List Expr} {pos : Pos} {ds : List D} (h : EvL c n sc k ρ es ds) (hsz : ds.length ≤ sizeLine) : Ev c n sc k ρ (.List es pos) (.list ds) := .mk fun A env V0 h0 Cs X s hA F =>
  wpAny_List (wpAny_mono (h.run A env V0 h0 Cs X s pos hA F) (fun vs s₁ q => ⟨q.2.length ▸ hsz, q.1.trans (.push _), .list (fun q' => by
    obtain ⟨o, e⟩ := ((F.st k).gr q.1).live _ q'
    exact absurd (Heap.lt_size e) (Nat.lt_irrefl _)) (Heap.get?_push_size _ rfl) rfl ⟨rfl, rfl⟩ rfl (by simpa using q.2.gr (.push _))⟩) fun _ _ q => q)
theorem Ev.tuple {es : List Expr} {kk : Nat} {pos : Pos} {ds : List D} (h : EvL c n sc k ρ es ds) (hsz : ds.length ≤ sizeLine) : Ev c n sc k ρ (.Tuple es kk pos) (.tuple ds) := .mk fun A env V0 h0 Cs X s hA F =>
  wpAny_Tuple (wpAny_mono (h.run A env V0 h0 Cs X s pos hA F) (fun vs s₁ q => ⟨q.2.length ▸ hsz, q.1.trans (.push _), .tuple (fun q' => by
    obtain ⟨o, e⟩ := ((F.st k).gr q.1).live _ q'
    exact absurd (Heap.lt_size e) (Nat.lt_irrefl _)) (Heap.get?_push_size _ rfl) rfl ⟨rfl, rfl⟩ rfl (by simpa using q.2.gr (.push _))⟩) fun _ _ q => q)

theorem Ev.sub {value slice : Expr} {pos : Pos} {d₁ d₂ d : D} {T id : String} (h1 : Ev c n sc k ρ value d₁) (h2 : Ev c n sc k ρ slice d₂) (hT : d₁.ty = some T) (hl : typeLookup (.type T) "__getitem__" = pure (some (.builtin id))) (h : ItemR c d₁ d₂ d)
    (hs : ∀ o i, subscripted slice false o i = operate [o, i] (getItem o i) := by intro _ _; rfl) : Ev c n sc k ρ (.Subscript value slice pos) d := .mk fun A env V0 h0 Cs X s hA F =>
  Subscript_ (wpAny_mono (h1.run A env V0 h0 Cs X s hA F) (fun o s₁ q₁ => wpAny_mono (h2.run A env V0 h0 Cs X s₁ hA (F.gr q₁.1)) (fun i s₂ q₂ =>
    tail_any ((q₁.2.gr q₂.1).typeIs hT).1 hl (wp_gr (q₁.1.trans q₂.1) (h A _ s₂ o i hA.zero ((F.st k).gr (q₁.1.trans q₂.1)) (q₁.2.gr q₂.1) q₂.2)) (hs o i)) fun _ _ q => q) fun _ _ q => q)

end
end Mine
namespace Mine

/-- the signs of a written text -/
noncomputable def cs (x : String) : List Nat := x.toList.map Char.toNat
theorem ofString_S (x : String) : Str.ofString x = S (cs x) := Str.ofString_eq_toList x
theorem S_append (a b : List Nat) : S a ++ S b = S (a ++ b) := by
  show (⟨a.toArray ++ b.toArray⟩ : Str) = _
  simp
theorem S_length (a : List Nat) : (S a).length = a.length := by simp [Str.length]
theorem S_inj {a b : List Nat} (h : S a = S b) : a = b := by
  injection h with h; simpa using congrArg Array.toList h
theorem S_of (x : Str) : x = S x.cps.toList := by cases x; simp
noncomputable abbrev sd (l : List Nat) : D := .str (S l)

section
variable {c : Cx} {n : Nat} {sc : Scope} {k : Bool} {ρ : Sto}

theorem Ev.lit {x : String} {kk : Nat} {pos : Pos} : Ev c n sc k ρ (.Constant (.str (Str.ofString x)) kk pos) (sd (cs x)) := by
  have := Ev.str (c := c) (n := n) (sc := sc) (k := k) (ρ := ρ) (x := Str.ofString x) (kk := kk) (pos := pos)
  rw [ofString_S] at this ⊢; exact this
/- ints -/
theorem BinR.add {a b : Int} : BinR c .Add (.int a) (.int b) (.int (a + b)) := fun A V s v₁ v₂ _ _ r₁ r₂ => by
  cases r₁; cases r₂; exact wp_end (P.add_int ⟨fun _ _ e => e, rfl, rfl, fun _ => .int _ _⟩)
theorem BinR.sub {a b : Int} : BinR c .Sub (.int a) (.int b) (.int (a - b)) := fun A V s v₁ v₂ _ _ r₁ r₂ => by
  cases r₁; cases r₂; exact wp_end (P.sub_int ⟨fun _ _ e => e, rfl, rfl, fun _ => .int _ _⟩)
theorem BinR.fdiv {a b : Int} (hb : b ≠ 0) (hs : b.natAbs < 1073741824) : BinR c .FloorDiv (.int a) (.int b) (.int (a.fdiv b)) := fun A V s v₁ v₂ _ _ r₁ r₂ => by
  cases r₁; cases r₂; exact wp_end (floordiv_int hb ⟨fun _ _ e => e, rfl, rfl, fun _ => .int _ _⟩ (.inl (PyProof.noPylong_small hs)))
theorem BinR.fmod {a b : Int} (hb : b ≠ 0) : BinR c .Mod (.int a) (.int b) (.int (a.fmod b)) := fun A V s v₁ v₂ hA _ r₁ r₂ => by
  cases r₁; cases r₂; exact wp_end (mod_int_or hA.handled (fun h => absurd h hb) fun _ => ⟨fun _ _ e => e, rfl, rfl, fun _ => .int _ _⟩)
theorem CmpR.eqI {a b : Int} : CmpR c .Eq (.int a) (.int b) (decide (a = b)) := fun A V s v₁ v₂ _ _ r₁ r₂ => by
  cases r₁; cases r₂; exact P.eq_int ⟨.refl s, by by_cases h : a = b <;> simp [h]⟩
theorem CmpR.ltI {a b : Int} : CmpR c .Lt (.int a) (.int b) (decide (a < b)) := fun A V s v₁ v₂ _ _ r₁ r₂ => by
  cases r₁; cases r₂; exact P.lt_int ⟨.refl s, rfl⟩
theorem CmpR.leI {a b : Int} : CmpR c .LtE (.int a) (.int b) (decide (a ≤ b)) := fun A V s v₁ v₂ _ _ r₁ r₂ => by
  cases r₁; cases r₂; exact P.le_int ⟨.refl s, rfl⟩
/- texts -/
theorem BinR.cat {a b : List Nat} (hz : a.length + b.length ≤ 16777216) : BinR c .Add (sd a) (sd b) (sd (a ++ b)) := fun A V s v₁ v₂ _ _ r₁ r₂ => by
  cases r₁ with
  | str _ t => cases r₂ with
    | str _ u =>
      refine wp_end (P.add_str ?_)
      have e : S a ++ S b = S (a ++ b) := S_append a b
      by_cases h1 : ((S a).length == 0) = true
      · rw [if_pos h1]
        have : S b = S (a ++ b) := by rw [← e, Str.append_left_empty h1]
        exact ⟨fun _ _ e => e, rfl, rfl, fun _ => this ▸ .str _ _⟩
      · rw [if_neg h1]
        by_cases h2 : ((S b).length == 0) = true
        · rw [if_pos h2]
          have : S a = S (a ++ b) := by rw [← e, Str.append_right_empty h2]
          exact ⟨fun _ _ e => e, rfl, rfl, fun _ => this ▸ .str _ _⟩
        · rw [if_neg h2, e]
          exact ⟨by rw [S_length, List.length_append, sizeLine_eq]; exact hz, fun _ _ e => e, rfl, rfl, fun _ => .str _ _⟩
theorem CmpR.inS {a : Nat} {y b : List Nat} (hy : y = [a]) : CmpR c .In (sd y) (sd b) (decide (a ∈ b)) := fun A V s v₁ v₂ _ _ r₁ r₂ => by
  subst hy; cases r₁; cases r₂; exact P.in_str ⟨.refl s, by rw [StrLaws.found_one]⟩
theorem FnR.lenS {a : List Nat} (h : a.length ≤ 16777216) : FnR c n (.builtin "len") [sd a] (.int a.length) := .mk fun A V s vs _ _ r => by
  cases r with
  | cons r rs => cases rs; cases r; refine wp_end (P.len_str (by rw [S_length]; omega) ⟨fun _ _ e => e, rfl, rfl, fun _ => ?_⟩); rw [S_length]; exact .int _ _
theorem FnR.chr {i : Int} (h0 : 0 ≤ i) (h1 : i ≤ 1114111) : FnR c n (.builtin "chr") [.int i] (sd [i.toNat]) := .mk fun A V s vs _ _ r => by
  cases r with
  | cons r rs => cases rs; cases r; exact wp_end (chr_of_range h0 h1 ⟨fun _ _ e => e, rfl, rfl, fun _ => .str _ _⟩)

/- items -/
theorem ItemR.list {ds : List D} {i : Int} {d : D} (h0 : 0 ≤ i) (hd : ds[i.toNat]? = some d) (hi : i < 2 ^ 63 := by omega) : ItemR c (.list ds) (.int i) d := fun A V s v₁ v₂ _ _ r₁ r₂ => by
  cases r₂
  cases r₁ with
  | list na ho hcl hdc hdt r =>
    obtain ⟨v, hv, rv⟩ := r.get hd
    exact wpAny_getItem_list ⟨_, ho, hcl, _, hdt⟩ h0 hi (by simpa using hv) ⟨.refl s, rv⟩
theorem Ev.subL {value slice : Expr} {pos : Pos} {ds : List D} {i : Int} {d : D} (h1 : Ev c n sc k ρ value (.list ds)) (h2 : Ev c n sc k ρ slice (.int i)) (h : ItemR c (.list ds) (.int i) d)
    (hs : ∀ o i, subscripted slice false o i = operate [o, i] (getItem o i) := by intro _ _; rfl) : Ev c n sc k ρ (.Subscript value slice pos) d := Ev.sub h1 h2 rfl slot_list_getitem.lookup h hs
end
end Mine
namespace Mine

/-- every c is spelled z -/
noncomputable def rep (q : Nat) (z : List Nat) (l : List Nat) : List Nat := l.flatMap fun k => if k = q then z else [k]
theorem rep_append (q : Nat) (z a b : List Nat) : rep q z (a ++ b) = rep q z a ++ rep q z b := by simp [rep]
theorem rep_free (q : Nat) (z : List Nat) : ∀ l : List Nat, q ∉ l → rep q z l = l
  | [], _ => rfl
  | k :: r, h => by
    have h1 : k ≠ q := fun e => h (e ▸ .head _)
    have h2 : q ∉ r := fun e => h (.tail _ e)
    have := rep_free q z r h2
    simp only [rep] at this ⊢
    simp [h1, this]
theorem rep_one (q : Nat) (z : List Nat) : rep q z [q] = z := by simp [rep]
theorem rep_join (q : Nat) (z : List Nat) : ∀ parts : List Str, (∀ p ∈ parts, q ∉ p.cps.toList) → rep q z (Str.join ⟨#[q]⟩ parts).cps.toList = (Str.join (S z) parts).cps.toList
  | [], _ => rfl
  | [x], h => rep_free q z _ (h x (.head _))
  | x :: y :: r, h => by
    show rep q z (x ++ ⟨#[q]⟩ ++ Str.join ⟨#[q]⟩ (y :: r)).cps.toList = (x ++ S z ++ Str.join (S z) (y :: r)).cps.toList
    simp only [Str.cps_append, Array.toList_append, rep_append]
    rw [rep_join q z (y :: r) fun p hp => h p (.tail _ hp), rep_free q z _ (h x (.head _)), rep_one]
theorem replace_S (q : Nat) (z l : List Nat) : Txt.replace (S l) ⟨#[q]⟩ (S z) = S (rep q z l) := by
  rw [StrLaws.replace_one]
  have h1 := rep_join q z _ (StrLaws.split_free (S l) q)
  rw [StrLaws.join_split] at h1
  apply StrLaws.mk_of_toList
  rw [← h1]

section
variable {c : Cx} {n : Nat} {sc : Scope} {k : Bool} {ρ : Sto}

/-- text.replace with both texts written -/
theorem Ev.replace {o : Expr} {x z : String} {k1 k2 : Nat} {p1 p2 apos pos : Pos} {l : List Nat} {q : Nat} (h : Ev c n sc k ρ o (sd l)) (hq : cs x = [q]) (hxz : x ≠ z) (hz : l.length + (l.length + 1) * (cs z).length ≤ 16777216)
    (hline : (apos.endLine == pos.line) = true := by rfl) (hbase : ∀ env : Env, attributeBase o (Str.ofString "replace") env (eval o env) = eval o env := by intro _; rfl) :
    Ev c n sc k ρ (.Call (.Attribute o (Str.ofString "replace") apos) [.Constant (.str (Str.ofString x)) k1 p1, .Constant (.str (Str.ofString z)) k2 p2] [] pos) (sd (rep q (cs z) l)) := .mk fun A env V0 h0 Cs X s hA F => by
  refine wpAny_Call_method (hbase env) rfl hline PySem.F.plainAttrs_str PySem.F.slot_str_replace PySem.F.type_str_replace (wpAny_mono (h.run A env V0 h0 Cs X s hA F) (fun v s₁ q₁ => ?_) fun _ _ q => q)
  obtain ⟨g₁, r⟩ := q₁
  cases r with
  | str _ t =>
    refine ⟨typeIs_str _ _ _, (fun _ e => nomatch e), (Callee.builtin (c := c) "str.replace").wp rfl ?_⟩
    have ht : s₁.toks ≠ 0 := (F.gr g₁).tok
    refine wpAny_items_cons (wpAny_Constant_str (wpAny_items_cons (wpAny_Constant_str (wpAny_items_nil ⟨((F.gr g₁).base.trans (F.gr g₁).keep), ?_⟩))))
    have g2 : Gr s { s₁ with toks := s₁.toks + 1 + 1 } := g₁.trans (Gr.toks (by omega))
    refine wp_gr g2 (wp_end (SC.replace (s := { s₁ with toks := s₁.toks + 1 + 1 }) ht (Nat.succ_ne_zero _) (Nat.ne_of_lt (Nat.lt_succ_self _)) (ofString_ne hxz) ?_ fun t' k => ⟨fun _ _ e => e, rfl, rfl, fun _ => ?_⟩))
    · rw [ofString_S z, S_length, S_length]; exact hz
    · have e : Txt.replace (S l) (Str.ofString x) (Str.ofString z) = S (rep q (cs z) l) := by
        rw [ofString_S x, ofString_S z, hq]; exact replace_S q (cs z) l
      rw [e]; exact .str _ _

end
end Mine
namespace Mine

section
variable {c : Cx} {n : Nat} {sc : Scope} {k : Bool} {ρ : Sto}

theorem isStrOf_iff (c : Cx) {x : Str} {v : Value} : Value.isStrOf x v = true ↔ ∃ t, v = .str x t := by
  constructor
  · exact Value.isStrOf_shape
  · rintro ⟨t, rfl⟩; exact strKind_is c.prog c.w x t

theorem Fm.addV {env V0 h0 Cs X s s'} {a : Addr} (F : Fm c sc env V0 h0 Cs X ρ s) (hn : s.heap.get? a = none) (g : Gr s s') (hl : ∃ o, s'.heap.get? a = some o) : Fm c sc env (fun b => V0 b ∨ b = a) h0 Cs X ρ s' := by
  have F' := F.gr g
  refine ⟨F'.good, F'.scope, F'.kind, F'.globals, F'.builtins, F'.base, F'.keep, F'.tok, fun b q => ?_, F'.ccells, F'.new, F'.cells, F'.cinj, ?_⟩
  · rcases q with q | rfl
    · exact F'.live0 b q
    · refine ⟨hl, fun q => ?_⟩
      obtain ⟨_, _, _, _, _, h4, _, _⟩ := F.sto
      obtain ⟨o, e⟩ := h4 _ q
      rw [hn] at e; cases e
  · obtain ⟨m, fps, h1, h2, h3, h4, h6, h5⟩ := F.sto
    obtain ⟨_, _, _, _, _, h4', h6', _⟩ := F'.sto
    exact ⟨m, fps, h1.keeps g.keep, h2, h3, h4', h6', ((h5.ext (W := fun b => b = a) fun b q => q ▸ hn).gr g).weak fun b q => by
      rcases q with (q | q) | q
      · exact .inl (.inl q)
      · exact .inr q
      · exact .inl (.inr q)⟩

theorem RepD.find {V s} (x : List Nat) : ∀ {kvs : List (List Nat × D)} {es : List DictEntry}, RepD c V s kvs es →
    match kvs.lookup x with
    | some d => ∃ v, (es.find? fun e => Value.isStrOf (S x) e.key).map (·.val) = some v ∧ Rep c V s d v
    | none => (es.find? fun e => Value.isStrOf (S x) e.key).map (·.val) = none
  | _, _, .nil => rfl
  | _, _, .cons (k := y) (d := d) (t := t) (e := e) (kvs := kvs) (es := es) hk hh r rs => by
    have ih := rs.find x
    rw [List.lookup_cons]
    by_cases hy : x = y
    · subst hy
      simp only [beq_self_eq_true]
      refine ⟨e.val, ?_, r⟩
      have : Value.isStrOf (S x) e.key = true := (isStrOf_iff c).mpr ⟨t, hk⟩
      rw [List.find?_cons_of_pos (by simpa using this)]; rfl
    · have hb : (x == y) = false := by simpa using hy
      rw [hb]
      have : ¬ Value.isStrOf (S x) e.key = true := fun q => by
        obtain ⟨t', e'⟩ := (isStrOf_iff c).mp q
        rw [hk] at e'; injection e' with e'
        exact hy (S_inj e').symm
      rw [List.find?_cons_of_neg (by simpa using this)]
      exact ih
theorem RepD.keys {V s} : ∀ {kvs : List (List Nat × D)} {es : List DictEntry}, RepD c V s kvs es → ∀ e ∈ es, ∃ k, (strKind c.prog c.w).is k e.key = true ∧ e.hash = (strKind c.prog c.w).hash k
  | _, _, .nil, e, he => by cases he
  | _, _, .cons (k := y) (t := t) hk hh r rs, e, he => by
    rcases List.mem_cons.mp he with rfl | he
    · exact ⟨S y, by rw [hk]; exact strKind_is c.prog c.w _ _, hh⟩
    · exact rs.keys e he

theorem Rep.map {V s kvs a} (r : Rep c V s (.dict kvs) (.ref a)) : ∃ f, s.heap.MapOf (strKind c.prog c.w) a f ∧ (a == sysModules) = false ∧
    ∀ x : List Nat, match kvs.lookup x with | Option.some d => ∃ v, f (S x) = some v ∧ Rep c V s d v | Option.none => f (S x) = Option.none := by
  cases r with
  | @dict _ o es nn _ na hsm ho hx hdt r =>
    refine ⟨_, ⟨o, es, nn, ho, hx, hdt, fun e he => r.keys e (Array.mem_toList_iff.mpr he), fun _ => rfl⟩, hsm, fun x => ?_⟩
    have h := r.find x
    have e : findBy (strKind c.prog c.w).is es (S x) = (es.toList.find? fun e => Value.isStrOf (S x) e.key).map (·.val) := by
      obtain ⟨l⟩ := es
      unfold findBy
      rw [List.find?_toArray]; rfl
    rw [e]; exact h

theorem ItemR.dict {kvs : List (List Nat × D)} {x : List Nat} {d : D} (h : kvs.lookup x = some d) : ItemR c (.dict kvs) (sd x) d := fun A V s v₁ v₂ _ _ r₁ r₂ => by
  cases r₂ with
  | str _ t =>
    cases v₁ with
    | ref a =>
      obtain ⟨f, hm, hsm, hf⟩ := r₁.map
      have := hf x
      rw [h] at this
      obtain ⟨v, hv, rv⟩ := this
      exact wp_end (wpAny_getItem_of (strKind_is c.prog c.w _ t) hm hv ⟨fun _ _ e => e, rfl, rfl, fun ht => rv.gr (Gr.toks ht)⟩)
    | _ => cases r₁
theorem CmpR.inD {kvs : List (List Nat × D)} {x : List Nat} : CmpR c .In (sd x) (.dict kvs) (kvs.lookup x).isSome := fun A V s v₁ v₂ _ _ r₁ r₂ => by
  cases r₁ with
  | str _ t =>
    cases v₂ with
    | ref a =>
      obtain ⟨f, hm, hsm, hf⟩ := r₂.map
      have := hf x
      refine wp_end (wpAny_in_of (strKind_is c.prog c.w _ t) hsm hm ⟨fun _ _ e => e, rfl, rfl, fun _ => ?_⟩)
      cases h : kvs.lookup x with
      | some d => rw [h] at this; obtain ⟨v, hv, _⟩ := this; rw [hv]; rfl
      | none => rw [h] at this; rw [this]; rfl
    | _ => cases r₂
theorem Ev.subD {value slice : Expr} {pos : Pos} {kvs : List (List Nat × D)} {x : List Nat} {d : D} (h1 : Ev c n sc k ρ value (.dict kvs)) (h2 : Ev c n sc k ρ slice (sd x)) (h : kvs.lookup x = some d)
    (hs : ∀ o i, subscripted slice false o i = operate [o, i] (getItem o i) := by intro _ _; rfl) : Ev c n sc k ρ (.Subscript value slice pos) d := Ev.sub h1 h2 rfl slot_dict_getitem.lookup (ItemR.dict h) hs

/- a display of a table with written keys -/
inductive EvP (c : Cx) (n : Nat) (sc : Scope) (k : Bool) (ρ : Sto) : List (Option Expr) → List Expr → List (List Nat × D) → Prop
  | nil : EvP c n sc k ρ [] [] []
  | cons {ke ve x d ks vs kvs} : Ev c n sc k ρ ke (sd x) → Ev c n sc k ρ ve d → EvP c n sc k ρ ks vs kvs → EvP c n sc k ρ (some ke :: ks) (ve :: vs) ((x, d) :: kvs)

end

section
variable {c : Cx} {n : Nat} {sc : Scope} {k : Bool} {ρ : Sto}

/-- the trees of the pairs -/
noncomputable def pairTrees (pos : Pos) (env : Env) : List (Option Expr) → List Expr → List (Sem Value × Sem Value)
  | some ke :: ks, ve :: vs => (eval ke env, do let x ← eval ve env; standAt pos; pure x) :: pairTrees pos env ks vs
  | _, _ => []

theorem EvP.shape {ks vs kvs} (h : EvP c n sc k ρ ks vs kvs) (pos : Pos) (env : Env) :
    (evalEachOpt ks env).zip ((evalEach vs env).map fun v => do let x ← v; standAt pos; pure x) = (pairTrees pos env ks vs).map (fun p => (some p.1, p.2)) ∧ (pairTrees pos env ks vs).length = kvs.length := by
  induction h with
  | nil => exact ⟨rfl, rfl⟩
  | cons _ _ _ ih =>
    refine ⟨?_, by simp [pairTrees, ih.2]⟩
    simp only [pairTrees, List.map_cons]
    rw [← ih.1]
    rfl

theorem EvP.wp {ks vs kvs} (h : EvP c n sc k ρ ks vs kvs) : ∀ {A env V0 h0 Cs X s} (pos : Pos), Room n A → Fm c sc env V0 h0 Cs X ρ s →
    wpAny c.M A (evalPairs (pairTrees pos env ks vs)) (fun ps s' => Gr s s' ∧ ∃ kvv : List (Str × Value), Carries (strKind c.prog c.w) ps kvv ∧ kvv.map (·.1) = kvs.map (fun p => S p.1) ∧ RepL c (VK k V0 X) s' (kvs.map (·.2)) (kvv.map (·.2))) NoE s := by
  induction h with
  | nil => intro A env V0 h0 Cs X s pos _ _; exact evalPairs_nil ⟨.refl s, [], trivial, rfl, .nil⟩
  | cons h1 h2 _ ih =>
    intro A env V0 h0 Cs X s pos hA F
    refine evalPairs_cons (wpAny_mono (h1.run A env V0 h0 Cs X s hA F) (fun kv s₁ q₁ => ?_) fun _ _ q => q)
    refine wpAny_bind (wpAny_mono (h2.run A env V0 h0 Cs X s₁ hA (F.gr q₁.1)) (fun vv s₂ q₂ => wpAny_bind (wpAny_standAt (wpAny_pure ?_))) fun _ _ q => q)
    refine wpAny_mono (ih pos hA ((F.gr q₁.1).gr q₂.1)) (fun ps s₃ q₃ => ?_) fun _ _ q => q
    obtain ⟨g₃, kvv, hc, hk, hr⟩ := q₃
    obtain ⟨g₁, r₁⟩ := q₁
    cases r₁ with
    | str x t => exact ⟨(g₁.trans q₂.1).trans g₃, (S _, vv) :: kvv, ⟨strKind_is c.prog c.w _ t, rfl, hc⟩, by simp [hk], .cons (q₂.2.gr g₃) hr⟩

theorem merged_nodup {kvs : List (Str × Value)} : ∀ (acc : List (Str × Value)), ((acc ++ kvs).map (·.1)).Nodup → merged acc kvs = acc ++ kvs := by
  induction kvs with
  | nil => intro acc _; simp [merged]
  | cons p r ih =>
    intro acc h
    have hst : stored acc p.1 p.2 = acc ++ [p] := by
      unfold stored
      rw [if_neg]
      intro q
      obtain ⟨x, hx, e⟩ := List.any_eq_true.mp q
      have e' : x.1 = p.1 := by simpa using e
      rw [List.map_append, List.nodup_append] at h
      exact h.2.2 x.1 (List.mem_map_of_mem hx) p.1 (by simp) e'
    have := ih (acc ++ [p]) (by simpa using h)
    unfold merged at this ⊢
    rw [List.foldl_cons, hst, this]; simp

theorem repD_of {V s} : ∀ {es : List DictEntry} {kvv : List (Str × Value)} {kvs : List (List Nat × D)}, Pairs (strKind c.prog c.w) es kvv → (∀ e ∈ es, ∃ k, (strKind c.prog c.w).is k e.key = true ∧ e.hash = (strKind c.prog c.w).hash k) →
    kvv.map (·.1) = kvs.map (fun p => S p.1) → RepL c V s (kvs.map (·.2)) (kvv.map (·.2)) → RepD c V s kvs es
  | _, _, [], .nil, _, _, _ => .nil
  | _, _, (x, d) :: kvs, .cons (e := e) hk hv hp, hh, hn, hr => by
    simp only [List.map_cons, List.cons.injEq] at hn
    cases hr with
    | cons r rs =>
      obtain ⟨t, et⟩ := (isStrOf_iff c).mp hk
      obtain ⟨k', hk', hhash⟩ := hh e (.head _)
      obtain ⟨t', et'⟩ := (isStrOf_iff c).mp hk'
      rw [hn.1] at et
      rw [et] at et'
      injection et' with et'
      refine .cons et (by rw [hhash, ← et']; rfl) (hv ▸ r) (repD_of hp (fun e he => hh e (.tail _ he)) hn.2 rs)
  | _, _, [], .cons .., _, hn, _ => nomatch hn
  | _, _, _ :: _, .nil, _, hn, _ => nomatch hn

theorem Ev.dict {ks : List (Option Expr)} {vs : List Expr} {pos : Pos} {kvs : List (List Nat × D)} (h : EvP c n sc true ρ ks vs kvs) (hne : kvs ≠ []) (hlen : kvs.length ≤ 15) (hnd : (kvs.map (·.1)).Nodup) : Ev c n sc k ρ (.Dict ks vs pos) (.dict kvs) :=
  Ev.weak <| .mk fun A env V0 h0 Cs X s hA F => by
    have hsh := h.shape pos env
    refine wpAny_with_toks (Nat.le_refl _) (wpAny_Dict_pairs (knd := strKind c.prog c.w) hsh.1 (fun q => hne (List.length_eq_zero_iff.mp (by rw [← hsh.2, q]; rfl))) (by rw [hsh.2]; exact hlen) ?_)
    have g0 := Gr.push (s := s) { cls := .type "dict", data := .dict #[] }
    have hnone := get_size s.heap
    have hd0 : (s.heap.push { cls := .type "dict", data := .dict #[] }).get? s.heap.objs.size = some { cls := .type "dict", data := .dict #[] } := Heap.get?_push_size _ rfl
    refine wpAny_mono (h.wp pos hA (F.addV hnone g0 ⟨_, hd0⟩)) (fun ps s₁ q => ?_) fun _ _ q => fun _ => q
    obtain ⟨g, kvv, hc, hk, hr⟩ := q
    refine ⟨kvv, hc, ⟨_, #[], 0, g.keep _ _ hd0, ⟨rfl, rfl, rfl⟩, rfl, fun e he => by simp at he, .nil, .nil⟩, fun h' hdo hs' => fun ht => ?_⟩
    have hkeep : Keeps s.heap h' := fun b o e => (hs'.2 b fun q => by rw [q, hnone] at e; cases e).trans (g.keep _ _ (g0.keep _ _ e))
    have hndv : (kvv.map (·.1)).Nodup := by
      rw [hk]
      have : ∀ l : List (List Nat × D), (l.map (·.1)).Nodup → (l.map fun p => S p.1).Nodup := by
        intro l hl
        induction l with
        | nil => exact .nil
        | cons x l ih =>
          rw [List.map_cons, List.nodup_cons] at hl ⊢
          refine ⟨fun q => ?_, ih hl.2⟩
          obtain ⟨y, hy, e⟩ := List.mem_map.mp q
          exact hl.1 (List.mem_map.mpr ⟨y, hy, S_inj e⟩)
      exact this kvs hnd
    rw [merged_nodup [] (by simpa using hndv), List.nil_append] at hdo
    obtain ⟨o, es, ep, ho, hx, hdt, hkeys, hpairs, _⟩ := hdo
    have hlive := ((F.st true).live)
    have hvn : ¬ VK true V0 X s.heap.objs.size := fun q => by obtain ⟨o', e⟩ := hlive _ q; rw [hnone] at e; cases e
    have hsys : (s.heap.objs.size == sysModules) = false := by
      obtain ⟨_, _, _, e, _⟩ := (F.good.g.keeps F.base).keeps F.keep
      have := Heap.lt_size e
      have h3 : (3 : Nat) < s.heap.objs.size := this
      have : s.heap.objs.size ≠ (1 : Nat) := by omega
      simpa [sysModules] using this
    refine ⟨⟨hkeep, ht, g.gens, g.os⟩, .dict hvn hsys ho hx hdt (repD_of hpairs (fun e he => hkeys e (Array.mem_toList_iff.mp he)) hk ?_)⟩
    refine hr.calm ⟨Nat.le_add_right _ _, fun b o nb e _ => (hs'.2 b fun q => nb ⟨rfl, .inl (.inr q)⟩).trans e⟩ fun a q => ⟨rfl, q.2.imp .inl id⟩

/- text.partition -/
end
end Mine
namespace Mine

theorem code_comp {c : Cx} {A : Around} {s : Shared} {R : Result → Shared → Prop} {elt target iter : Expr} {ifs : List Expr} {scope : Scope} {pos : Pos} {it acc : Value} {env : Env} (I : Nat → Shared → Prop)
    (turn : ∀ n s, I n s → wpAny c.M A (pyNext it) (fun r s₁ => match r with
      | none => R (.ok .next) s₁
      | some v => wpAny c.M A (letOwnedTupleGo target it v) (fun _ s₁' => wpAny c.M A (assign target env v) (fun _ s₂ =>
          wpAny c.M A (forIn ifs true fun c r => if r = true then do let ok ← isTrue c env (eval c env); pure (ForInStep.yield ok) else pure (ForInStep.yield r)) (fun ok s₃ =>
            if ok = true then wpAny c.M A (eval elt env) (fun x s₄ => wpAny c.M A (call (.builtin "list.append") [acc, x]) (fun _ s₅ => ∃ m, m < n ∧ I m s₅) NoE s₄) NoE s₃
            else ∃ m, m < n ∧ I m s₃) NoE s₂) NoE s₁') NoE s₁) NoE s)
    (n : Nat) (h : I n s) : codeAny c.M A (.compLoop (.ListComp elt [⟨target, iter, ifs, 0⟩] scope pos) 0 it acc env) R s := by
  refine codeAny_loop rfl I (fun n s hI => ?_) n h
  show wpAny _ A ((compTurn (.ListComp elt [⟨target, iter, ifs, 0⟩] scope pos) 0 it acc env).onRaise (fun x => do noteFrame x env; theTreesLotGoes x)) _ _ s
  refine wpAny_noted ?_
  rw [compTurn_list]
  refine wpAny_bind (wpAny_standAt (wpAny_bind (wpAny_mono (turn n s hI) (fun r s₁ h₁ => ?_) fun _ _ h' => h'.elim)))
  cases r with
  | none => exact wpAny_pure h₁
  | some v =>
    refine wpAny_bind (wpAny_mono h₁ (fun _ s₁' h₁' => ?_) fun _ _ h' => h'.elim)
    refine wpAny_bind (wpAny_mono h₁' (fun _ s₂ h₂ => wpAny_bind (wpAny_mono h₂ (fun ok s₃ h₃ => ?_) fun _ _ h' => h'.elim)) fun _ _ h' => h'.elim)
    cases ok with
    | true =>
      rw [if_pos rfl] at h₃ ⊢
      refine wpAny_bind (wpAny_bind (wpAny_mono h₃ (fun x s₄ h₄ => wpAny_bind (wpAny_mono h₄ (fun _ s₅ h₅ => wpAny_pure (wpAny_pure ⟨rfl, h₅⟩)) fun _ _ h' => h'.elim)) fun _ _ h' => h'.elim))
    | false =>
      rw [if_neg Bool.false_ne_true] at h₃ ⊢
      exact wpAny_pure ⟨rfl, h₃⟩

theorem ItAt.self {c : Cx} {V s it ds} {A : Around} {E : Value → Shared → Prop} {Q : Value → Shared → Prop} (h : ItAt c V s it ds) (hq : Q (.ref it) s) : wpAny c.M A (pyIter (.ref it)) Q E s := by
  cases h with
  | list h => exact wpAny_pyIter_listiter h hq
  | tuple h => exact wpAny_pyIter_tupleiter h hq
  | range h => exact wpAny_pyIter_rangeiter h hq
  | ascii h => exact wpAny_pyIter_striter_ascii h hq
  | wide h => exact wpAny_pyIter_striter_wide h hq

theorem Obj.dict_mapSeq (o : Obj) (f) : (o.mapSeq f).dict = o.dict ∧ (o.mapSeq f).slots = o.slots := by
  obtain ⟨c, d, dt, sl⟩ := o; cases dt <;> exact ⟨rfl, rfl⟩

/-- a list with one more -/
theorem append_wp {prog : Program} {w : World} {A : Around} {E : Value → Shared → Prop} {s : Shared} {l : Addr} {o : Obj} {items : Array Value} {nn : Nat} {x : Value} {Q : Value → Shared → Prop} (ho : s.heap.get? l = some o) (hc : o.cls = .type "list") (hdc : o.dict = none ∧ o.slots = #[]) (hd : o.data = .seq items nn)
    (hQ : ∀ h' o' n', h'.get? l = some o' → o'.cls = .type "list" → (o'.dict = none ∧ o'.slots = #[]) → o'.data = .seq (items.push x) n' → Heap.SameBut l s.heap h' → Q .none { s with heap := h' }) (hsz : items.size ≤ 16777216) :
    wpAny (model prog w) A (call (.builtin "list.append") [.ref l, x]) Q E s := by
  have hT : s.TypeIs (.ref l) "list" := ⟨o, ho, hc⟩
  obtain ⟨n', hd'⟩ := Obj.data_mapSeq hd (·.push x)
  refine wpAny_call_entry slot_list_append hT entry_list_append ?_ (args_list_append _ _)
  show wpAny _ _ (updateSeq l (·.push x) >>= fun _ => ret .none) _ _ s
  refine wpAny_bind ?_
  refine wpAny_updateSeq ho hd (wpAny_pure ⟨.none, rfl, hQ _ _ n' (Heap.get?_update_self _ ho (Obj.isFreed_of_seq hd')) ((Obj.cls_mapSeq ..).trans hc) ⟨(Obj.dict_mapSeq ..).1.trans hdc.1, (Obj.dict_mapSeq ..).2.trans hdc.2⟩ hd' (Heap.SameBut.update ..)⟩) (by rw [sizeLine_eq]; exact hsz)

/-- the cells that a comprehension takes along -/
theorem closure_of {scope : Scope} {env : Env} (h : ∀ p ∈ scope.names, p.2 = .free → ∃ a, env.cells.lookup p.1 = some a) :
    ∃ cl, closureFor scope env = pure cl ∧ (∀ p ∈ scope.names, p.2 = .free → cl.lookup p.1 = env.cells.lookup p.1) ∧ (∀ x a, cl.lookup x = some a → env.cells.lookup x = some a) := by
  unfold closureFor
  have key : ∀ (names : List (Str × NameKind)) (acc : List (Str × Addr)), (∀ p ∈ names, p.2 = .free → ∃ a, env.cells.lookup p.1 = some a) → (∀ x a, acc.lookup x = some a → env.cells.lookup x = some a) →
      ∃ cl, (forIn names acc fun (x : Str × NameKind) (cs : List (Str × Addr)) => match x with
        | (name, kind) => if (kind == NameKind.free) = true then do let a ← cellOf env name; pure (ForInStep.yield ((name, a) :: cs)) else pure (ForInStep.yield cs) : Sem (List (Str × Addr))) = pure cl ∧
        (∀ p ∈ names, p.2 = .free → cl.lookup p.1 = env.cells.lookup p.1) ∧ (∀ x a, acc.lookup x = some a → cl.lookup x = some a) ∧ (∀ x a, cl.lookup x = some a → env.cells.lookup x = some a) := by
    intro names
    induction names with
    | nil => intro acc _ ha; exact ⟨acc, rfl, (fun p hp => nomatch hp), fun _ _ q => q, ha⟩
    | cons p r ih =>
      intro acc hn ha
      obtain ⟨name, kind⟩ := p
      rw [List.forIn_cons]
      by_cases hk : kind = .free
      · subst hk
        obtain ⟨a, he⟩ := hn _ (.head _) rfl
        have hc : cellOf env name = pure a := by unfold cellOf; rw [he]
        have hacc : ∀ x b, ((name, a) :: acc).lookup x = some b → env.cells.lookup x = some b := fun x b q => by
          rw [List.lookup_cons] at q
          by_cases hx : x = name
          · subst hx; simp only [beq_self_eq_true] at q; cases q; exact he
          · have : (x == name) = false := by simpa using hx
            rw [this] at q; exact ha x b q
        obtain ⟨cl, e, h1, h2, h3⟩ := ih ((name, a) :: acc) (fun p hp => hn p (.tail _ hp)) hacc
        refine ⟨cl, ?_, fun p hp hf => ?_, fun x b q => ?_, h3⟩
        · simp only [beq_self_eq_true, if_true, hc]
          exact e
        · rcases List.mem_cons.mp hp with rfl | hp
          · rw [he]; exact h2 name a (by simp [List.lookup_cons])
          · exact h1 p hp hf
        · by_cases hx : x = name
          · subst hx
            have hb := ha x b q
            rw [he] at hb; cases hb
            exact h2 x a (by simp [List.lookup_cons])
          · refine h2 x b ?_
            have : (x == name) = false := by simpa using hx
            rw [List.lookup_cons, this]; exact q
      · have hb : (kind == NameKind.free) = false := by simpa using hk
        obtain ⟨cl, e, h1, h2, h3⟩ := ih acc (fun p hp => hn p (.tail _ hp)) ha
        refine ⟨cl, ?_, fun p hp hf => ?_, h2, h3⟩
        · simp only [hb, Bool.false_eq_true, if_false]
          exact e
        · rcases List.mem_cons.mp hp with rfl | hp
          · exact absurd hf hk
          · exact h1 p hp hf
  obtain ⟨cl, e, h1, _, h3⟩ := key scope.names [] h fun _ _ q => by cases q
  refine ⟨cl, ?_, h1, h3⟩
  have := e
  simp only [bind_pure] 
  exact this

/-- a change at a place that nothing of the frame holds -/
theorem Fm.change {c sc env V0 h0 Cs X ρ s} {a : Addr} {h' : Heap} (F : Fm c sc env V0 h0 Cs X ρ s) (ha : V0 a) (hn : h0.get? a = none) (hs : Heap.SameBut a s.heap h') (hl : ∃ o, h'.get? a = some o)
    (hc : ∀ o v, s.heap.get? a = some o → o.data ≠ .cell v) : Fm c sc env V0 h0 Cs X ρ { s with heap := h' } := by
  have hx := (F.live0 a ha).2
  obtain ⟨m, fps, h1, h2, h3, h4, h6, h5⟩ := F.sto
  have hLX : env.locals ∈ X := h2 ▸ .head _
  have ne : ∀ b ∈ X, b ≠ a := fun b hb q => hx (q ▸ hb)
  refine ⟨F.good, F.scope, F.kind, F.globals, F.builtins, F.base, fun b o e => (hs.2 b fun q => by rw [q, hn] at e; cases e).trans (F.keep b o e), F.tok, fun b q => ⟨?_, (F.live0 b q).2⟩, F.ccells, F.new, F.cells, F.cinj,
    m, fps, h1.sameBut hs (ne _ hLX), h2, h3, fun b hb => let ⟨o, e⟩ := h4 b hb; ⟨o, (hs.2 b (ne b hb)).trans e⟩, fun p hp => ?_, ?_⟩
  · by_cases hb : b = a
    · subst hb; exact hl
    · obtain ⟨o, e⟩ := (F.live0 b q).1; exact ⟨o, (hs.2 b hb).trans e⟩
  · obtain ⟨v, o, e, hd⟩ := h6 p hp
    exact ⟨v, o, (hs.2 _ fun q => hc o v (q ▸ e) hd).trans e, hd⟩
  · refine h5.change (s := s) (s' := { s with heap := h' }) ⟨Nat.le_refl _, fun b o nb e _ => (hs.2 b fun q => nb (.inl (q ▸ ha))).trans e⟩ (fun b hb o e => (hs.2 b (ne b (h2 ▸ .tail _ (List.mem_append_right _ hb)))).trans e) (fun _ _ _ => rfl)
      fun p _ b o w _ e hw => (hs.2 b fun q => hc o w (q ▸ e) hw).trans e

/-- the same, and the place is forgotten -/
theorem Fm.changeOff {c sc env V0 h0 Cs X ρ s} {a : Addr} {h' : Heap} (F : Fm c sc env (fun b => V0 b ∨ b = a) h0 Cs X ρ s) (ha : ¬ V0 a) (hn : h0.get? a = none) (hs : Heap.SameBut a s.heap h')
    (hc : ∀ o v, s.heap.get? a = some o → o.data ≠ .cell v) : Fm c sc env V0 h0 Cs X ρ { s with heap := h' } := by
  have hx := (F.live0 a (.inr rfl)).2
  obtain ⟨m, fps, h1, h2, h3, h4, h6, h5⟩ := F.sto
  have hLX : env.locals ∈ X := h2 ▸ .head _
  have ne : ∀ b ∈ X, b ≠ a := fun b hb q => hx (q ▸ hb)
  refine ⟨F.good, F.scope, F.kind, F.globals, F.builtins, F.base, fun b o e => (hs.2 b fun q => by rw [q, hn] at e; cases e).trans (F.keep b o e), F.tok, fun b q => ⟨?_, (F.live0 b (.inl q)).2⟩, F.ccells, F.new, F.cells, F.cinj,
    m, fps, h1.sameBut hs (ne _ hLX), h2, h3, fun b hb => let ⟨o, e⟩ := h4 b hb; ⟨o, (hs.2 b (ne b hb)).trans e⟩, fun p hp => ?_, ?_⟩
  · obtain ⟨o, e⟩ := (F.live0 b (.inl q)).1; exact ⟨o, (hs.2 b fun q' => ha (q' ▸ q)).trans e⟩
  · obtain ⟨v, o, e, hd⟩ := h6 p hp
    exact ⟨v, o, (hs.2 _ fun q => hc o v (q ▸ e) hd).trans e, hd⟩
  · refine (h5.change (s := s) (s' := { s with heap := h' }) ⟨Nat.le_refl _, fun b o nb e _ => (hs.2 b fun q => nb (.inl (.inr q))).trans e⟩ (fun b hb o e => (hs.2 b (ne b (h2 ▸ .tail _ (List.mem_append_right _ hb)))).trans e) (fun _ _ _ => rfl)
      fun p _ b o w _ e hw => (hs.2 b fun q => hc o w (q ▸ e) hw).trans e).weak fun b q => q.imp .inl id

noncomputable def relab (sc scope : Scope) : Scope := { scope with names := scope.names.map fun (n, k) => if (k == .free && sc.kind == .function && sc.names.lookup n == some .cell) then (n, .cell) else (n, k) }

theorem relab_free {sc scope : Scope} {x : Str} : ∀ {names : List (Str × NameKind)}, names.lookup x = some .free →
    (names.map fun (n, k) => if (k == NameKind.free && sc.kind == .function && sc.names.lookup n == some .cell) then (n, NameKind.cell) else (n, k)).lookup x = some .cell ∨
    (names.map fun (n, k) => if (k == NameKind.free && sc.kind == .function && sc.names.lookup n == some .cell) then (n, NameKind.cell) else (n, k)).lookup x = some .free
  | [], h => by cases h
  | (y, k) :: r, h => by
    rw [List.lookup_cons] at h
    by_cases hy : x = y
    · subst hy
      simp only [beq_self_eq_true] at h
      cases h
      simp only [List.map_cons]
      split <;> simp [List.lookup_cons]
    · have hb : (x == y) = false := by simpa using hy
      rw [hb] at h
      have := relab_free (sc := sc) (scope := scope) h
      simp only [List.map_cons]
      split <;> simpa [List.lookup_cons, hb] using this

theorem relab_mem {sc scope : Scope} {x : Str} {k : NameKind} (hk : k = .cell ∨ k = .free) (hnc : ∀ p ∈ scope.names, p.2 ≠ .cell) (h : (relab sc scope).names.lookup x = some k) : (x, NameKind.free) ∈ scope.names := by
  have hm := mem_lookup h
  obtain ⟨p, hp, e⟩ := List.mem_map.mp hm
  obtain ⟨y, ky⟩ := p
  simp only at e
  split at e
  · rename_i hc
    simp only [Bool.and_eq_true, beq_iff_eq] at hc
    injection e with e1 e2
    subst e1
    rw [← hc.1.1]; exact hp
  · injection e with e1 e2
    subst e1 e2
    rcases hk with rfl | rfl
    · exact absurd rfl (hnc _ hp)
    · exact hp

/-- tests of a comprehension -/
structure TstI (c : Cx) (n : Nat) (sc : Scope) (ρ : Sto) (ifs : List Expr) (b : Bool) : Prop where
  run : ∀ A env V0 h0 Cs X s, Room n A → Fm c sc env V0 h0 Cs X ρ s →
    wpAny c.M A (forIn ifs true fun c r => if r = true then do let ok ← isTrue c env (eval c env); pure (ForInStep.yield ok) else pure (ForInStep.yield r)) (fun r s' => Gr s s' ∧ r = b) NoE s
theorem TstI.nil {c n sc ρ} : TstI c n sc ρ [] true := .mk fun A env V0 h0 Cs X s _ _ => wpAny_tests_nil ⟨.refl s, rfl⟩
theorem TstI.one {c n sc ρ e b} (h : Tst c n sc ρ e b) : TstI c n sc ρ [e] b := .mk fun A env V0 h0 Cs X s hA F => wpAny_tests_one (h.run A env V0 h0 Cs X s hA F)

/-- one turn of a comprehension -/
noncomputable def CItem (c : Cx) (n : Nat) (sc : Scope) (ρ : Sto) (tgt : Expr) (ifs : List Expr) (elt : Expr) (d : D) (r : Option D) : Prop :=
  ∃ ρ₁, TgtG false c sc tgt d ρ ρ₁ ∧ SubS ρ ρ₁ ∧ match r with
    | some x => TstI c n sc ρ₁ ifs true ∧ Ev c n sc true ρ₁ elt x
    | none => TstI c n sc ρ₁ ifs false

/-- what a comprehension sees of the names around -/
structure Capt (sc scope : Scope) (ρ ρi : Sto) : Prop where
  kind : scope.kind = .function
  nocell : ∀ p ∈ scope.names, p.2 ≠ .cell
  names : ∀ x ∈ scope.names, x.2 = .local → scope.names.lookup x.1 = some .local
  free : ∀ p ∈ scope.names, p.2 = .free → sc.names.lookup p.1 = some .cell ∨ sc.names.lookup p.1 = some .free
  sto : ∀ p ∈ ρi, ∃ d, p.2 = .val d ∧ ρ.lookup p.1 = some (.val d) ∧ scope.names.lookup (Str.ofString p.1) = some .free ∧ p.1 ≠ "__classdict__"

section
variable {c : Cx} {n : Nat} {sc : Scope} {k : Bool} {ρ : Sto}

theorem StoR.vals {env : Env} {V : Addr → Prop} {s : Shared} {m : Str → Option Value} : ∀ {ρ fps}, StoR c env V s m ρ fps → (∀ p ∈ ρ, ∃ d, p.2 = .val d) → fps = []
  | _, _, .nil, _ => rfl
  | _, _, .cons l r rs, h => by
    obtain ⟨d, e⟩ := h _ (.head _)
    simp only at e
    subst e
    cases r with
    | val r => rw [rs.vals fun p hp => h p (.tail _ hp)]; rfl

/-- where a comprehension has come to -/
structure CDone (c : Cx) (V : Addr → Prop) (s : Shared) (Dd C : Addr) (rs : List D) (s' : Shared) : Prop where
  keep : Keeps s.heap s'.heap
  tok : s.toks ≤ s'.toks
  gens : s'.gens = s.gens
  os : s'.os = s.os
  ns : ∃ m, s'.heap.Ns C m
  lst : ∃ o vs nn, s'.heap.get? Dd = some o ∧ o.cls = .type "list" ∧ (o.dict = none ∧ o.slots = #[]) ∧ o.data = .seq vs nn ∧ RepL c (fun a => V a ∨ a = Dd ∨ a = C) s' rs vs.toList

theorem ItAt.carry {V V' : Addr → Prop} {s s' : Shared} {it : Addr} {ds : List D} (h : ItAt c V s it ds) (hk : ∀ o, s.heap.get? it = some o → s'.heap.get? it = some o)
    (hl : ∀ l o, ¬ V l → s.heap.get? l = some o → ¬ V' l ∧ s'.heap.get? l = some o) (hr : ∀ {dd vv}, RepL c V s dd vv → RepL c V' s' dd vv) : ItAt c V' s' it ds := by
  cases h with
  | list i1 nl ho hc hd r => obtain ⟨oi, e1, e2⟩ := i1; exact .list ⟨oi, hk _ e1, e2⟩ (hl _ _ nl ho).1 (hl _ _ nl ho).2 hc hd (hr r)
  | tuple i1 nl ho hc hd r => obtain ⟨oi, e1, e2⟩ := i1; exact .tuple ⟨oi, hk _ e1, e2⟩ (hl _ _ nl ho).1 (hl _ _ nl ho).2 hc hd (hr r)
  | range i1 => exact .range (hk _ i1)
  | ascii i1 => obtain ⟨oi, e1, e2⟩ := i1; exact .ascii ⟨oi, hk _ e1, e2⟩
  | wide i1 => obtain ⟨oi, e1, e2⟩ := i1; exact .wide ⟨oi, hk _ e1, e2⟩

theorem comp_core {elt tgt iter : Expr} {ifs : List Expr} {scope : Scope} {pos p : Pos} {d₀ : D} {α : Type} {g : α → D} {ds : List α} {f : α → Option D} {ρi : Sto} {use : Option (Value → Sem Unit)} {A : Around} {env : Env} {V0 : Addr → Prop} {h0 : Heap} {Cs : List (Str × Addr)} {X : List Addr} {s : Shared}
    {Q : Value → Shared → Prop}
    (hA : Room n A) (F : Fm c sc env V0 h0 Cs X ρ s) (he : Ev c n sc true ρ iter d₀) (hit : IterR c d₀ (ds.map g)) (hc : Capt sc scope ρ ρi) (hz : ds.length ≤ 16777216)
    (item : ∀ d ∈ ds, CItem c n (relab sc scope) ρi tgt ifs elt (g d) (f d)) (hs : ∀ (env : Env) x, foldedSetIterable iter env x = pure x)
    (fin : ∀ Dd C s', s.heap.get? Dd = none → s.heap.get? C = none → Dd ≠ C → CDone c (Vol V0 X) s Dd C (ds.filterMap f) s' → compPost c.M A NoE use Q (.ref Dd) C (.ok .next) s') :
    wpAny c.M A (comprehension (.ListComp elt [⟨tgt, iter, ifs, 0⟩] scope pos) scope env p (newList []) false (eval iter env) use) Q NoE s := by
  obtain ⟨cl, hcl, hclf, hcle⟩ := closure_of (scope := scope) (env := env) fun p hp hf => F.ccells _ (hc.free p hp hf)
  refine wpAny_comprehension_free (use := use) rfl (hs env) hcl hc.kind hc.names (wpAny_mono (he.run A env V0 h0 Cs X s hA F) (fun xv s₁ q₁ => ?_) fun _ _ q => q)
  refine wpAny_mono (hit A _ s₁ xv hA.zero ((F.st true).gr q₁.1) q₁.2) (fun itv s₂ q₂ => ?_) fun _ _ q => q
  obtain ⟨g₂, it, rfl, hitn, hi⟩ := q₂
  have hV : VK true V0 X = Vol V0 X := by funext a; simp [VK]
  rw [hV] at hi
  have g12 := q₁.1.trans g₂
  have hits : s.heap.get? it = none := by
    cases e : s.heap.get? it with
    | none => rfl
    | some o => have := q₁.1.keep _ _ e; rw [hitn] at this; cases this
  -- the list to be filled
  refine wpAny_newObj_type (wpAny_newFunctionEnv hc.nocell (by intro y hy; simp at hy) (fun h₁ hns₁ hsb₁ => ?_) hc.kind)
  dsimp only at hns₁ hsb₁ ⊢
  have hDn : s₂.heap.get? s₂.heap.objs.size = none := get_size _
  generalize hH : s₂.heap.push { cls := .type "list", dict := none, data := .seq ([] : List Value).toArray } = H2 at hns₁ hsb₁ ⊢
  have hC : H2.objs.size = s₂.heap.objs.size + 1 := by rw [← hH, Heap.size_push]
  have hCn2 : s₂.heap.get? H2.objs.size = none := by
    cases e : s₂.heap.get? H2.objs.size with
    | none => rfl
    | some o => have := Heap.lt_size e; rw [hC] at this; exact absurd this (Nat.not_lt.mpr (Nat.le_succ _))
  have hDC : s₂.heap.objs.size ≠ H2.objs.size := by rw [hC]; exact Nat.ne_of_lt (Nat.lt_succ_self _)
  have hDh1 : h₁.get? s₂.heap.objs.size = some { cls := .type "list", dict := none, data := .seq ([] : List Value).toArray } := by
    refine (hsb₁.2 _ hDC).trans (Heap.get?_push_of_some _ ?_)
    rw [← hH]; exact Heap.get?_push_size _ rfl
  have hk1 : Keeps s₂.heap h₁ := fun b o e => (hsb₁.2 b fun q => by rw [q, hCn2] at e; cases e).trans (Heap.get?_push_of_some _ (hH ▸ Heap.get?_push_of_some _ e))
  generalize s₂.heap.objs.size = Dd at hDn hDC hDh1 ⊢
  generalize H2.objs.size = C at hns₁ hCn2 hDC ⊢
  have hDs : s.heap.get? Dd = none := by
    cases e : s.heap.get? Dd with
    | none => rfl
    | some o => have := g12.keep _ _ e; rw [hDn] at this; cases this
  have hCs' : s.heap.get? C = none := by
    cases e : s.heap.get? C with
    | none => rfl
    | some o => have := g12.keep _ _ e; rw [hCn2] at this; cases this
  -- the names inside
  have hF2 := F.gr g12
  have g23 : Gr s₂ { s₂ with heap := h₁, toks := s₂.toks + ([] : List (Str × Value)).length } := ⟨hk1, Nat.le_add_right _ _, rfl, rfl⟩
  have hDX : Dd ∉ X := fun q => by
    obtain ⟨_, _, _, _, _, h4, _, _⟩ := hF2.sto
    obtain ⟨o, e⟩ := h4 _ q; rw [hDn] at e; cases e
  have hCX : C ∉ X := fun q => by
    obtain ⟨_, _, _, _, _, h4, _, _⟩ := hF2.sto
    obtain ⟨o, e⟩ := h4 _ q; rw [hCn2] at e; cases e
  have hCV : ¬ V0 C := fun q => by obtain ⟨o, e⟩ := (hF2.live0 C q).1; rw [hCn2] at e; cases e
  have hDV : ¬ V0 Dd := fun q => by obtain ⟨o, e⟩ := (hF2.live0 Dd q).1; rw [hDn] at e; cases e
  let Vi : Addr → Prop := fun a => Vol V0 X a ∨ a = Dd
  have hCo : ∃ oC, h₁.get? C = some oC ∧ ∃ es ep, oC.data = .dict es ep := let ⟨o, es, ep, e, hd, _⟩ := hns₁; ⟨o, e, es, ep, hd⟩
  have Fi : Fm c (relab sc scope) (compEnvC scope cl C env) Vi s.heap [] [C] ρi { s₂ with heap := h₁, toks := s₂.toks + ([] : List (Str × Value)).length } := by
    refine ⟨F.good, ?_, hc.kind, F.globals, F.builtins, F.base.trans F.keep, g12.keep.trans hk1, (hF2.gr g23).tok, fun a q => ?_, fun x hx => ?_, fun a ha => ?_, (fun _ _ q => nomatch q), fun x y a hx hy => F.cinj _ _ _ (hcle _ _ hx) (hcle _ _ hy), ⟨_, [], hns₁, by simp [compEnvC], by simp, fun a ha => ?_, (fun p hp => nomatch hp), ?_⟩⟩
    · show relabel scope env = relab sc scope
      unfold relabel relab
      rw [← F.scope]; rfl
    · rcases q with q | rfl
      · refine ⟨?_, fun q' => ?_⟩
        · rcases q with q | q
          · obtain ⟨o, e⟩ := (hF2.live0 a q).1; exact ⟨o, hk1 _ _ e⟩
          · obtain ⟨_, _, _, _, _, h4, _, _⟩ := hF2.sto
            obtain ⟨o, e⟩ := h4 _ q; exact ⟨o, hk1 _ _ e⟩
        · rw [List.mem_singleton] at q'; subst q'
          exact q.elim hCV hCX
      · exact ⟨⟨_, hDh1⟩, fun q' => hDC (List.mem_singleton.mp q')⟩
    · have hm := hx.elim (fun h => relab_mem (.inl rfl) hc.nocell h) fun h => relab_mem (.inr rfl) hc.nocell h
      obtain ⟨a, ha⟩ := F.ccells _ (hc.free _ hm rfl)
      exact ⟨a, (hclf _ hm rfl).trans ha⟩
    · rw [List.mem_singleton] at ha; subst ha; exact hCs'
    · rw [List.mem_singleton] at ha; subst ha
      obtain ⟨o, e, _⟩ := hCo; exact ⟨o, e⟩
    · -- the captured names
      obtain ⟨m, fps, hn, hXX, hnd, hlv, hcel, hst⟩ := F.sto
      have key : ∀ (r : Sto), (∀ p ∈ r, p ∈ ρi) → StoR c (compEnvC scope cl C env) (Vol Vi [C]) { s₂ with heap := h₁, toks := s₂.toks + ([] : List (Str × Value)).length } (fun x => ([] : List (Str × Value)).reverse.lookup x) r [] := by
        intro r
        induction r with
        | nil => intro _; exact .nil
        | cons p r ih =>
          intro hp
          obtain ⟨x, sl⟩ := p
          obtain ⟨d, hd, hl, hfr, hcd⟩ := hc.sto _ (hp _ (.head _))
          simp only at hd hl hfr hcd
          subst hd
          obtain ⟨v, fp, lo, rp, _⟩ := hst.get hl
          cases rp with
          | val rp =>
            refine .cons (fp := []) (v := v) ?_ (.val ?_) (ih fun p hp' => hp p (.tail _ hp'))
            · have hm := mem_lookup hfr
              have hkk := hc.free _ hm rfl
              cases lo with
              | loc h1 _ =>
                have h1' : sc.names.lookup (Str.ofString x) = some .local := by rw [← F.scope]; exact h1
                rw [h1'] at hkk
                rcases hkk with q | q <;> cases q
              | @cell a o h1 h2 h3 h4 =>
                refine .cell (a := a) (o := o) ?_ ((hclf _ hm rfl).trans h2) (hk1 _ _ (g12.keep _ _ h3)) h4
                have hrl : (relabel scope env).names.lookup (Str.ofString x) = some .cell ∨ (relabel scope env).names.lookup (Str.ofString x) = some .free := relab_free (sc := env.scope) (scope := scope) hfr
                exact hrl.imp id fun q => ⟨q, hcd⟩
            · have r2 : Rep c (fun a => Vol V0 X a ∨ (a = Dd ∨ a = C)) s d v := rp.ext fun a q => by
                rcases q with rfl | rfl
                · exact hDs
                · exact hCs'
              refine (r2.gr (g12.trans g23)).weak fun a q => ?_
              rcases q with (q | q) | q
              · exact .inl q
              · exact .inr (.inl q)
              · exact .inr (.inr (List.mem_singleton.mp q))
      exact key ρi fun _ h => h
  -- the loop
  have hitX : it ∉ X := fun q => by
    obtain ⟨_, _, _, _, _, h4, _, _⟩ := F.sto
    obtain ⟨o, e⟩ := h4 _ q; rw [hits] at e; cases e
  have hitV : ¬ V0 it := fun q => by obtain ⟨o, e⟩ := (F.live0 it q).1; rw [hits] at e; cases e
  have hitalive : ∃ o, s₂.heap.get? it = some o := let ⟨o, _, _, e, _⟩ := hi.fields; ⟨o, e⟩
  have hitD : it ≠ Dd := fun q => by obtain ⟨o, e⟩ := hitalive; rw [q, hDn] at e; cases e
  have hitC : it ≠ C := fun q => by obtain ⟨o, e⟩ := hitalive; rw [q, hCn2] at e; cases e
  have loop : codeAny c.M A (.compLoop (.ListComp elt [⟨tgt, iter, ifs, 0⟩] scope pos) 0 (.ref it) (.ref Dd) (compEnvC scope cl C env)) (compPost c.M A NoE use Q (.ref Dd) C) { s₂ with heap := h₁, toks := s₂.toks + ([] : List (Str × Value)).length } := by
    refine code_comp (fun kk s' => ∃ done rest, ds = done ++ rest ∧ kk = rest.length ∧ Keeps s.heap s'.heap ∧ s'.gens = s.gens ∧ s'.os = s.os ∧ s.toks ≤ s'.toks ∧
      Fm c (relab sc scope) (compEnvC scope cl C env) Vi s.heap [] [C] ρi s' ∧ ItAt c (Vol Vi [C]) s' it (rest.map g) ∧
      (∃ o vs nn, s'.heap.get? Dd = some o ∧ o.cls = .type "list" ∧ (o.dict = none ∧ o.slots = #[]) ∧ o.data = .seq vs nn ∧ RepL c (Vol Vi [C]) s' (done.filterMap f) vs.toList)) ?_ ds.length ?_
    · rintro kk s' ⟨done, rest, rfl, rfl, hk, hg, hos, htk, F', hi', hl'⟩
      have hitCC : it ∉ [C] := fun q => hitC (List.mem_singleton.mp q)
      have hitVi : ¬ Vi it := fun q => q.elim (fun q => q.elim hitV hitX) hitD
      obtain ⟨o, vs, nn, hl1, hl2, hl3, hl4, hl5⟩ := hl'
      have step : ∀ s₃, ItStep it s' s₃ → Keeps s.heap s₃.heap ∧ s₃.gens = s.gens ∧ s₃.os = s.os ∧ s.toks ≤ s₃.toks ∧ Fm c (relab sc scope) (compEnvC scope cl C env) Vi s.heap [] [C] ρi s₃ ∧
          s₃.heap.get? Dd = some o ∧ RepL c (Vol Vi [C]) s₃ (done.filterMap f) vs.toList := fun s₃ t =>
        ⟨fun b o e => t.keep b o (fun q => by rw [q, hits] at e; cases e) (hk b o e), t.gens.trans hg, t.os.trans hos, Nat.le_trans htk t.tok, F'.it hi' hitCC hits hitVi t, t.keep _ _ (Ne.symm hitD) hl1, hl5.calm (t.calm hi' _) fun _ q => q⟩
      cases rest with
      | nil =>
        refine wpAny_mono (ItAt.stop hA.handled hi') (fun r s₃ q => ?_) fun _ _ q => q
        obtain ⟨rfl, t⟩ := q
        obtain ⟨k1, k2, k3, k4, F₃, k5, k6⟩ := step s₃ t
        obtain ⟨m₃, _, n₃, _⟩ := F₃.sto
        refine fin Dd C s₃ hDs hCs' hDC ⟨k1, k4, k2, k3, ⟨m₃, n₃⟩, o, vs, nn, k5, hl2, hl3, hl4, ?_⟩
        have := k6.weak (V' := fun a => Vol V0 X a ∨ a = Dd ∨ a = C) fun a q => by
          rcases q with q | q | q
          · exact .inl (.inl q)
          · exact .inl (.inr q)
          · exact .inr (List.mem_singleton.mpr q)
        simpa using this
      | cons d rest =>
        refine wpAny_mono (ItAt.next hi') (fun r s₃ q => ?_) fun _ _ q => q
        obtain ⟨v, rfl, rv, hi₃, t⟩ := q
        obtain ⟨k1, k2, k3, k4, F₃, k5, k6⟩ := step s₃ t
        obtain ⟨ρ₁, htg, hsub, hm⟩ := item d (List.mem_append_right _ (.head _))
        refine lotg hi₃ (wpAny_mono (htg.run A (compEnvC scope cl C env) Vi s.heap [] [C] s₃ v hA.zero (fun q => nomatch q) F₃ rv) (fun _ s₄ q => ?_) fun _ _ q => q)
        obtain ⟨X₄, g₄, F₄⟩ := q
        have alive : ∃ o, s₃.heap.get? it = some o := let ⟨o, _, _, e, _⟩ := hi₃.fields; ⟨o, e⟩
        -- behind the tests, and behind a value
        have fresh4 : ∀ b ∈ X₄, b = C ∨ s₃.heap.get? b = none := fun b hb => (g₄.new b hb).imp List.mem_singleton.mp id
        have hD4 : Dd ∉ [C] := fun q => hDC (List.mem_singleton.mp q)
        have hl4' : s₄.heap.get? Dd = some o := g₄.keep _ _ hD4 k5
        have back : ∀ s₅, Gr s₄ s₅ → Keeps s.heap s₅.heap ∧ s₅.gens = s.gens ∧ s₅.os = s.os ∧ s.toks ≤ s₅.toks ∧ Fm c (relab sc scope) (compEnvC scope cl C env) Vi s.heap [] [C] ρi s₅ ∧ ItAt c (Vol Vi [C]) s₅ it (rest.map g) ∧
            s₅.heap.get? Dd = some o ∧ RepL c (Vol Vi [C]) s₅ (done.filterMap f) vs.toList := fun s₅ g₅ => by
          obtain ⟨X₅, hX₅, F₅⟩ := Ent.sub (c := c) (sc := relab sc scope) hsub (compEnvC scope cl C env) Vi s.heap [] X₄ s₅ (F₄.gr g₅)
          have hfps : X₅ = [C] := by
            obtain ⟨_, fps, _, h2, _, _, _, h5⟩ := F₅.sto
            rw [h2, h5.vals fun p hp => let ⟨d, e, _⟩ := hc.sto p hp; ⟨d, e⟩]; rfl
          subst hfps
          have g45 : Stp [C] s₃ [C] s₅ := (g₄.trans (Stp.of_gr g₅)).sub' hX₅
          refine ⟨fun b o e => g₅.keep _ _ (g₄.keep b o (fun q => by rw [List.mem_singleton.mp q, hCs'] at e; cases e) (k1 b o e)), (g₅.gens.trans g₄.gens).trans k2, (g₅.os.trans g₄.os).trans k3, Nat.le_trans k4 (Nat.le_trans g₄.tok g₅.tok), F₅,
            hi₃.stp hitCC g45, g₅.keep _ _ hl4', k6.stp g45⟩
        cases hf : f d with
        | none =>
          rw [hf] at hm
          refine wpAny_mono (TstI.run hm A _ _ _ _ _ s₄ hA F₄) (fun ok s₅ q => ?_) fun _ _ q => q
          obtain ⟨g₅, rfl⟩ := q
          rw [if_neg Bool.false_ne_true]
          obtain ⟨j1, j2, j3, j4, j5, j6, j7, j8⟩ := back s₅ g₅
          exact ⟨_, Nat.lt_succ_self _, done ++ [d], rest, by simp, rfl, j1, j2, j3, j4, j5, j6, o, vs, nn, j7, hl2, hl3, hl4, by simpa [hf] using j8⟩
        | some r =>
          rw [hf] at hm
          refine wpAny_mono (hm.1.run A _ _ _ _ _ s₄ hA F₄) (fun ok s₅ q => ?_) fun _ _ q => q
          obtain ⟨g₅, rfl⟩ := q
          rw [if_pos rfl]
          refine wpAny_mono (hm.2.run A _ _ _ _ _ s₅ hA (F₄.gr g₅)) (fun x s₆ q => ?_) fun _ _ q => q
          obtain ⟨g₆, rx⟩ := q
          obtain ⟨j1, j2, j3, j4, j5, j6, j7, j8⟩ := back s₆ (g₅.trans g₆)
          refine append_wp j7 hl2 hl3 hl4 (fun h' o' n' a1 a2 a3 a4 a5 => ?_) ?_
          · have hcm : Calm (Vol Vi [C]) s₆ { s₆ with heap := h' } := ⟨Nat.le_refl _, fun b ob nb e _ => (a5.2 b fun q => nb (.inl (.inr q))).trans e⟩
            have hne : ∀ b ob, s.heap.get? b = some ob → b ≠ Dd := fun b ob e q => by rw [q, hDs] at e; cases e
            have hCX4 : C ∈ X₄ := by
              obtain ⟨_, _, _, h2, _⟩ := F₄.sto
              rw [h2]; exact .head _
            refine ⟨_, Nat.lt_succ_self _, done ++ [d], rest, by simp, rfl, fun b ob e => (a5.2 b (hne b ob e)).trans (j1 b ob e), j2, j3, j4, j5.change (.inr rfl) hDs a5 ⟨_, a1⟩ (fun ob w e hw => by rw [j7] at e; cases e; rw [hl4] at hw; cases hw), ?_, o', vs.push x, n', a1, a2, a3, a4, ?_⟩
            · have hnl : ∀ l : Addr, ¬ Vol Vi [C] l → l ≠ Dd := fun l nl q => nl (.inl (.inr q))
              exact j6.carry (fun o e => (a5.2 _ hitD).trans e) (fun l o nl e => ⟨nl, (a5.2 _ (hnl _ nl)).trans e⟩) fun r => r.calm hcm fun _ q => q
            · have rx' : Rep c (Vol Vi [C]) s₆ r x := rx.weak fun a q => ⟨rfl, q.imp id fun q => by rw [List.mem_singleton.mp q]; exact hCX4⟩
              have := (j8.append (.cons rx' .nil)).calm hcm fun _ q => q
              simpa [hf] using this
          · have := hl5.length
            have h2 := List.length_filterMap_le f done
            simp only [List.length_append, List.length_cons] at hz
            have h3 : vs.size = (done.filterMap f).length := by rw [this]; simp
            omega
    · refine ⟨[], ds, rfl, rfl, g12.keep.trans hk1, g12.gens, g12.os, Nat.le_trans g12.tok g23.tok, Fi, ?_, _, _, 0, hDh1, rfl, ⟨rfl, rfl⟩, rfl, .nil⟩
      have gi := g23
      have hv : ∀ l, ¬ Vol V0 X l → (∃ o, s₂.heap.get? l = some o) → ¬ Vol Vi [C] l := fun l nl hal q => by
        obtain ⟨o, e⟩ := hal
        rcases q with (q | q) | q
        · exact nl q
        · rw [q, hDn] at e; cases e
        · rw [List.mem_singleton.mp q, hCn2] at e; cases e
      have hrl : ∀ {dd vv}, RepL c (Vol V0 X) s₂ dd vv → RepL c (Vol Vi [C]) { s₂ with heap := h₁, toks := s₂.toks + ([] : List (Str × Value)).length } dd vv := fun r => by
        have r2 := r.ext (W := fun a => a = Dd ∨ a = C) fun a q => by
          rcases q with rfl | rfl
          · exact hDn
          · exact hCn2
        refine (r2.gr gi).weak fun a q => ?_
        rcases q with (q | q) | q
        · exact .inl q
        · exact .inr (.inl q)
        · exact .inr (.inr (List.mem_singleton.mp q))
      exact hi.carry (fun o e => hk1 _ _ e) (fun l o nl e => ⟨hv _ nl ⟨_, e⟩, hk1 _ _ e⟩) fun r => hrl r
  have hself : wpAny c.M A (pyIter (.ref it)) (fun it' s' => codeAny c.M A (.compLoop (.ListComp elt [⟨tgt, iter, ifs, 0⟩] scope pos) 0 it' (.ref Dd) (compEnvC scope cl C env)) (compPost c.M A NoE use Q (.ref Dd) C) s')
      (notedBy c.M A (compEnvC scope cl C env) fun x s' => compPost c.M A NoE use Q (.ref Dd) C (.error x) s') { s₂ with heap := h₁, toks := s₂.toks + ([] : List (Str × Value)).length } := by
    have hi1 : ItAt c Vol0 { s₂ with heap := h₁, toks := s₂.toks + ([] : List (Str × Value)).length } it (ds.map g) := by
      have w : ∀ {dd vv}, RepL c (Vol V0 X) s₂ dd vv → RepL c Vol0 { s₂ with heap := h₁, toks := s₂.toks + ([] : List (Str × Value)).length } dd vv := fun r => (r.gr g23).weak fun _ q => q.elim
      exact hi.carry (fun o e => hk1 _ _ e) (fun l o nl e => ⟨id, hk1 _ _ e⟩) fun r => w r
    exact hi1.self loop
  exact codeAny_compStart_list loop hself


theorem Ev.comp {elt tgt iter : Expr} {ifs : List Expr} {scope : Scope} {pos : Pos} {d₀ : D} {α : Type} {g : α → D} {ds : List α} (f : α → Option D) (ρi : Sto) (he : Ev c n sc true ρ iter d₀) (hit : IterR c d₀ (ds.map g)) (hc : Capt sc scope ρ ρi) (hz : ds.length ≤ 16777216)
    (item : ∀ d ∈ ds, CItem c n (relab sc scope) ρi tgt ifs elt (g d) (f d)) (hs : ∀ (env : Env) x, foldedSetIterable iter env x = pure x := by intro _ _; rfl) : Ev c n sc k ρ (.ListComp elt [⟨tgt, iter, ifs, 0⟩] scope pos) (.list (ds.filterMap f)) :=
  Ev.weak <| .mk fun A env V0 h0 Cs X s hA F => by
    rw [eval_ListComp]
    refine comp_core hA F he hit hc hz item hs fun Dd C s' hD hC hDC h => ?_
    obtain ⟨m, hm⟩ := h.ns
    obtain ⟨o, vs, nn, l1, l2, l3, l4, l5⟩ := h.lst
    have hlv := (F.st true).live
    refine ⟨m, hm, fun h' hs' => ⟨⟨fun b ob e => (hs'.2 b fun q => by rw [q, hC] at e; cases e).trans (h.keep b ob e), h.tok, h.gens, h.os⟩, .list (fun q => ?_) ((hs'.2 _ hDC).trans l1) l2 l3 l4 ?_⟩⟩
    · obtain ⟨o', e⟩ := hlv _ q; rw [hD] at e; cases e
    · exact l5.calm (s := s') (s' := { s' with heap := h' }) ⟨Nat.le_refl _, fun b ob nb e _ => (hs'.2 b fun q => nb (.inr (.inr q))).trans e⟩ fun a q => .inl q.2

/-- y = [..] : the store lies within the comprehension -/
theorem Sx.comp {elt tgt iter : Expr} {ifs : List Expr} {scope : Scope} {pos spos p : Pos} {y : String} {d₀ : D} {α : Type} {g : α → D} {ds : List α} (f : α → Option D) (ρi : Sto) (he : Ev c n sc true ρ iter d₀) (hit : IterR c d₀ (ds.map g)) (hc : Capt sc scope ρ ρi) (hz : ds.length ≤ 16777216)
    (item : ∀ d ∈ ds, CItem c n (relab sc scope) ρi tgt ifs elt (g d) (f d)) (hk : CanStore sc y)
    (hsw : ∀ env : Env, env.scope = sc → swapsWith (.ListComp elt [⟨tgt, iter, ifs, 0⟩] scope pos) (some (.Name (Str.ofString y) p)) spos.line env = pure true)
    (hs : ∀ (env : Env) x, foldedSetIterable iter env x = pure x := by intro _ _; rfl) :
    Sn c n sc ρ (.Assign [.Name (Str.ofString y) p] (.ListComp elt [⟨tgt, iter, ifs, 0⟩] scope pos) spos) (setS ρ y (.val (.list (ds.filterMap f)))) := .mk fun A env V0 h0 Cs X s hA hO F => by
  rw [exec_Assign_Name_used _ _ _ _ (hsw env F.scope)]
  refine wpAny_bind (wpAny_standAt (wpAny_bind ?_))
  show wpAny _ A (do let _ ← comprehension (.ListComp elt [⟨tgt, iter, ifs, 0⟩] scope pos) scope env _ (newList []) false (eval iter env) (some (PySem.assign (.Name (Str.ofString y) p) env))) _ _ s
  refine wpAny_bind (wpAny_mono (Q := fun _ s' => SPost c sc env V0 h0 Cs X s (fun af ρ' => af = .next ∧ ρ' = setS ρ y (.val (.list (ds.filterMap f)))) .next s') (E := NoE) ?_ (fun _ s' hq => wpAny_pure (wpAny_pure hq)) fun _ _ e => e)
  refine comp_core hA F he hit hc hz item hs fun Dd C s' hD hC hDC h => ?_
  obtain ⟨m, hm⟩ := h.ns
  obtain ⟨o, vs, nn, l1, l2, l3, l4, l5⟩ := h.lst
  have gr : Gr s s' := ⟨h.keep, h.tok, h.gens, h.os⟩
  obtain ⟨oC, es, ep, eC, dC, _⟩ := id hm
  have FC := F.addV hC gr ⟨oC, eC⟩
  have hlv := (F.st true).live
  show wpAny c.M A (PySem.assign (.Name (Str.ofString y) p) env (.ref Dd)) _ _ s'
  have rD : Rep c (VK true (fun b => V0 b ∨ b = C) X) s' (.list (ds.filterMap f)) (.ref Dd) := by
    refine .list (fun q => ?_) l1 l2 l3 l4 (l5.weak fun a q => ?_)
    · rcases q.2 with (q | q) | q
      · obtain ⟨o', e⟩ := hlv _ ⟨rfl, .inl q⟩; rw [hD] at e; cases e
      · exact hDC q
      · obtain ⟨o', e⟩ := hlv _ ⟨rfl, .inr q⟩; rw [hD] at e; cases e
    · rcases q.2 with (q | q) | q
      · exact .inl (.inl q)
      · exact .inr (.inr q)
      · exact .inl (.inr q)
  refine wpAny_assign_Name (wpAny_mono (FC.store (.refl s') (hO _) hk (RepS.ofRep rD) .nil fun _ ha => nomatch ha) (fun _ s'' q => ?_) fun _ _ q => q)
  obtain ⟨X', g, F''⟩ := q
  have hCX' : C ∉ X' := (F''.live0 C (.inr rfl)).2
  have hCX : C ∉ X := (FC.live0 C (.inr rfl)).2
  have eC'' : s''.heap.get? C = some oC := g.keep _ _ hCX eC
  refine ⟨m, (by obtain ⟨o1, es1, ep1, e1, r1⟩ := hm; rw [eC] at e1; cases e1; exact ⟨oC, es1, ep1, eC'', r1⟩), fun h' hs' => ?_⟩
  have hVC : ¬ V0 C := fun q => by obtain ⟨o', e⟩ := hlv _ ⟨rfl, .inl q⟩; rw [hC] at e; cases e
  have hn0 : h0.get? C = none := by
    cases e : h0.get? C with
    | none => rfl
    | some o => have := F.keep _ _ e; rw [hC] at this; cases this
  have F₃ := F''.changeOff hVC hn0 hs' (fun ob w e hw => by rw [eC''] at e; cases e; rw [dC] at hw; cases hw)
  have st := (Stp.of_gr (X := X) gr).trans g
  refine ⟨X', _, .next, ⟨fun b ob hb e => (hs'.2 b fun q => by rw [q, hC] at e; cases e).trans (st.keep b ob hb e), st.tok, st.gens, st.os, st.new, fun b hb ob e => ?_⟩, F₃, .next, rfl, rfl⟩
  obtain ⟨o', e'⟩ := st.live b hb ob e
  exact ⟨o', (hs'.2 b fun q => by rw [q, hC] at e; cases e).trans e'⟩

end
end Mine
namespace Mine

section
variable {c : Cx} {n : Nat} {sc : Scope} {k : Bool} {ρ : Sto}

theorem St.new {V s} (h : St c V s) : ¬ V s.heap.objs.size := fun q => by obtain ⟨o', e⟩ := h.live _ q; rw [get_size] at e; cases e

theorem FnR.range1 {b : Int} : FnR c n (.type "range") [.int b] (.range 0 b 1) := .mk fun A V s vs hA hS r => by
  cases r with
  | cons r rs => cases rs; cases r
                 exact wp_end (call_range_1 ⟨fun _ _ e => Heap.get?_push_of_some _ e, rfl, rfl, fun _ => .range hS.new (Heap.get?_push_size _ rfl)⟩)
theorem FnR.range2 {a b : Int} : FnR c n (.type "range") [.int a, .int b] (.range a b 1) := .mk fun A V s vs hA hS r => by
  cases r with
  | cons r rs => cases rs with
    | cons r' rs => cases rs; cases r; cases r'
                    exact wp_end (call_range_2 ⟨fun _ _ e => Heap.get?_push_of_some _ e, rfl, rfl, fun _ => .range hS.new (Heap.get?_push_size _ rfl)⟩)
theorem FnR.lenL {ds : List D} (h : ds.length ≤ 16777216) : FnR c n (.builtin "len") [.list ds] (.int ds.length) := .mk fun A V s vs _ _ r => by
  cases r with
  | cons r rs => cases rs; cases r with
    | @list a o vs nn _ na ho hcl hd hdt r =>
      have hl := r.length
      simp only [Array.length_toList] at hl
      refine wp_end (PySem.Calls.call_len_list ⟨o, ho, hcl, nn, hdt⟩ (by omega) ⟨fun _ _ e => e, rfl, rfl, fun _ => ?_⟩)
      rw [hl]; exact .int _ _

/-- range(b): 0, 1, .. -/
theorem range_ints (b : Nat) : (List.range (Builtin.Range.rangeSize 0 b 1).toNat).map (fun k : Nat => D.int (0 + k * 1)) = (List.range b).map fun k : Nat => D.int k := by
  have e : (Builtin.Range.rangeSize 0 b 1).toNat = b := by
    rw [rangeSize_one]; split <;> omega
  rw [e]
  refine List.map_congr_left fun k _ => ?_
  congr 1; omega
theorem range_small (b : Nat) (h : b ≤ 16777216) : Builtin.Range.small 0 b 1 = true := by
  have h1 : (Builtin.Range.rangeSize 0 b 1) = b := by
    rw [rangeSize_one]; split <;> omega
  have h2 : ∀ i : Int, -1 ≤ i → i ≤ 16777217 → Builtin.Range.rangeFitsLong i = true := fun i a b => by
    unfold Builtin.Range.rangeFitsLong
    simp; omega
  unfold Builtin.Range.small
  rw [h1, h2 0 (by omega) (by omega), h2 b (by omega) (by omega), h2 1 (by omega) (by omega)]
  simp only [Bool.and_self, Bool.true_and]
  rw [if_pos (by omega), h2 _ (by omega) (by omega)]
  simp
theorem IterR.range0 {b : Nat} (h : b ≤ 16777216) : IterR c (.range 0 b 1) ((List.range b).map fun k : Nat => D.int k) := by
  have := IterR.range (c := c) (range_small b h)
  rw [range_ints] at this; exact this

end
end Mine
namespace Mine

/-- the i-th statement of the text's top, a def -/
noncomputable def fnAt (p : Program) (i : Nat) : Scope × List Stmt := match p.main.body[i]? with
  | some (.FunctionDef _ _ body _ _ _ sc _ _ _) => (sc, body)
  | _ => (⟨.function, [], false, false, []⟩, [])
noncomputable def scAt (p : Program) (i : Nat) : Scope := (fnAt p i).1
noncomputable def bodyAt (p : Program) (i : Nat) : List Stmt := (fnAt p i).2

theorem intsAre_rep {c : Cx} {V : Addr → Prop} {s : Shared} : ∀ {vs ns}, IntsAre vs ns → RepL c V s (ns.map D.int) vs
  | _, _, .nil => .nil
  | _, _, .cons n t r => .cons (.int n t) (intsAre_rep r)

theorem head_end {l : OpenLaw} {w : World} {s₀ s₁ : Shared} {mg mb : Str → Option Value} {p : Program} {lw : List Str} {mean : ExcName → Option Value} {R : WRecords} {cl : Str → Option Addr} {t : Nat} {ns : List Int} {vs : List Value} {a fa : Addr} {as : List Addr}
    (T : Top p lw mean mg mb s₁.heap) (L : Laid R w s₀ s₁ [ofPy (PyData.list (ns.map PyData.int))] [.ref a] as) (hL : s₁.heap.IsList a vs.toArray) (hI : IntsAre vs ns) (hg : s₁.gens = #[]) (ht : s₀.toks = t) (h0 : 0 < t)
    (h : FnR ⟨l.row.prog, w, s₁.heap, mg, mb⟩ 40 (.ref fa) [.list (ns.map .int)] (.bool true)) :
    wpAny (model l.row.prog w) callerA (call (.ref fa) [.ref a]) (fun v s' => GoodWG l.row.claim cl mean [ofPy (PyData.list (ns.map PyData.int))] s₁ (.ok (.ret v)) s')
      (fun e s' => GoodWG l.row.claim cl mean [ofPy (PyData.list (ns.map PyData.int))] s₁ (.error e) s') s₁ := by
  have htk := Nat.lt_of_lt_of_le h0 (X.script_toks L ht)
  have ho := X.script_obj L hL
  refine wpAny_mono (h.run callerA Vol0 s₁ [.ref a] ⟨rfl, by decide, by decide⟩ ⟨⟨T.g, T.b, T.nolimit⟩, Keeps.refl _, Nat.ne_of_gt htk, fun _ q => q.elim⟩ (.cons (.list id ho rfl ⟨rfl, rfl⟩ rfl (intsAre_rep hI)) .nil)) (fun v s' q => ?_) fun _ _ q => q.elim
  obtain ⟨g, r⟩ := q
  have hpost : l.row.claim.post [ofPy (PyData.list (ns.map PyData.int))] (WData.bool true) [ofPy (PyData.list (ns.map PyData.int))] = true := by
    show (WShape.has [] (.bool true) .bool && WTm.holds [] (.eq .res (.lit (.bool true))) _) = true
    with_unfolding_all rfl
  cases r
  refine GoodW.toG ⟨.inl ⟨_, _, _, rfl, fun _ => rfl, .bool true, hpost, fun _ => ⟨.nil, fun _ ha => nomatch ha⟩⟩, g.keep, g.os, g.gens.trans hg⟩

/-- a def's facts from the written heap -/
theorem IsDef.of {c : Cx} {K : Frag} {a : Addr} {sc : Scope} {ps : List String} {body : List Stmt} {oc : Value} {od : Option Addr} {fd : FuncData} {osl : Array (Option Value)} (X : K.In c.base) (ho : K.lookup a = some ⟨oc, od, .func fd, osl⟩)
    (hb : fd.body = .stmts body) (hs : fd.scope = sc) (hc : fd.closure = []) (hg : fd.globals = mainGlobals) (hbl : fd.builtins = builtinsNs) (hcd : codeIn K fd.code fd.qualname = true)
    (hbind : ∀ vs : List Value, vs.length = ps.length → bindArgs fd ⟨vs, []⟩ = pure (bindsOf ps vs)) (kinds : ∀ p ∈ ps, CanStore sc p) (nodup : ps.Nodup) (cnd : ((cellsFrom 0 sc.names []).map (·.1)).Nodup) (co : sc.isCoroutine = false) (gen : sc.isGenerator = false) (kind : sc.kind = .function)
    (nofree : sc.names.all (fun p => p.2 != .free) = true) : IsDef c a sc ps body :=
  ⟨⟨_, fd, X _ _ ho, rfl, hb, hs, hc, hg, hbl, codeRec_of X hcd, hbind⟩, kinds, nodup, cnd, co, gen, kind, fun x q => by
    have := List.all_eq_true.mp nofree _ (mem_lookup q)
    simp at this⟩

end Mine
namespace Mine
section
variable {c : Cx} {n : Nat} {sc : Scope} {k : Bool} {ρ ρ' : Sto} {P P' : AF → Sto → Prop}

theorem Tst.ent {e : Expr} {b : Bool} (h : Ent c sc ρ ρ') (t : Tst c n sc ρ' e b) : Tst c n sc ρ e b := .mk fun A env V0 h0 Cs X s hA F =>
  let ⟨X', _, F'⟩ := h env V0 h0 Cs X s F
  t.run A env V0 h0 Cs X' s hA F'
theorem TgtG.ent {w : Bool} {tgt : Expr} {d : D} {ρ₁ : Sto} (h : Ent c sc ρ ρ') (t : TgtG w c sc tgt d ρ' ρ₁) : TgtG w c sc tgt d ρ ρ₁ := .mk fun A env V0 h0 Cs X s v hA hO F r =>
  let ⟨X', h1, F'⟩ := h env V0 h0 Cs X s F
  wpAny_mono (t.run A env V0 h0 Cs X' s v hA hO F' (r.weak fun a q => q.imp id (h1 a))) (fun _ s' q => let ⟨X₂, g, F₂⟩ := q; ⟨X₂, g.sub h1, F₂⟩) fun _ _ q => q
theorem Sx.post {st : Stmt} (h : Sx c n sc ρ st P) (hp : ∀ af ρ₁, P af ρ₁ → ∃ ρ₂, Ent c sc ρ₁ ρ₂ ∧ P' af ρ₂) : Sx c n sc ρ st P' := .mk fun A env V0 h0 Cs X s hA hO F =>
  wpAny_mono (h.run A env V0 h0 Cs X s hA hO F) (fun f s' q => by
    obtain ⟨X₂, ρ₁, af, a, b, d, p⟩ := q
    obtain ⟨ρ₂, e, p'⟩ := hp _ _ p
    obtain ⟨X₃, h3, F₃⟩ := e _ _ _ _ _ _ b
    refine ⟨X₃, ρ₂, af, a.sub' h3, F₃, ?_, p'⟩
    cases d with
    | next => exact .next
    | brk => exact .brk
    | cont => exact .cont
    | ret r => exact .ret (r.weak fun a q => q.imp id (h3 a))) fun _ _ q => q

/-- for x in ..: with the store as a function of what is done -/
theorem Sx.forS {α : Type} {g : α → D} {xs : List α} {tgt e : Expr} {body : List Stmt} {pos : Pos} {d₀ : D} (σ : List α → Sto) (he : Ev c n sc true ρ e d₀) (hit : IterR c d₀ (xs.map g)) (hI : SubS (σ []) ρ)
    (turn : ∀ done x rest, xs = done ++ x :: rest → ∃ ρ₁, TgtR c sc tgt (g x) (σ done) ρ₁ ∧ Tr c n sc ρ₁ body (Turn (SubS (σ (done ++ [x]))) P)) (fin : P .next (σ xs))
    (hs : ∀ (env : Env) x, foldedSetIterable e env x = pure x := by intro _ _; rfl) : Sx c n sc ρ (.For tgt e body [] pos) P := by
  refine Sx.post (P := fun af ρ' => (af = .next ∧ SubS (σ xs) ρ') ∨ P af ρ') (Sx.for (fun done ρ' => ∃ dx rest, xs = dx ++ rest ∧ done = dx.map g ∧ SubS (σ dx) ρ') he hit ⟨[], xs, rfl, rfl, hI⟩ ?_ ?_ hs) fun af ρ₁ q => ?_
  · intro done d rest ρ' e ⟨dx, rx, e1, e2, hsub⟩
    subst e2
    rw [e1, List.map_append] at e
    have := List.append_cancel_left e
    cases rx with
    | nil => cases this
    | cons x rx =>
      rw [List.map_cons] at this
      cases this
      obtain ⟨ρ₁, ht, hb⟩ := turn dx x rx e1
      refine ⟨ρ₁, ht.ent (Ent.sub hsub), hb.mono fun af ρ₂ q => ?_⟩
      cases af with
      | next => exact ⟨dx ++ [x], rx, by rw [e1]; simp, by simp, q⟩
      | cont => exact ⟨dx ++ [x], rx, by rw [e1]; simp, by simp, q⟩
      | brk => exact .inr q
      | ret d => exact .inr q
  · intro ρ' ⟨dx, rx, e1, e2, hsub⟩
    have : rx = [] := by
      have := congrArg List.length e2
      rw [e1] at this
      simp at this
      exact this
    subst this
    rw [List.append_nil] at e1
    subst e1
    exact .inl ⟨rfl, hsub⟩
  · rcases q with ⟨rfl, q⟩ | q
    · exact ⟨_, Ent.sub q, fin⟩
    · exact ⟨_, .refl _, q⟩

theorem Sx.whileS {α : Type} {t : Expr} {body : List Stmt} {pos : Pos} (σ : α → Sto) (inv : α → Prop) (μ : α → Nat) (a₀ : α) (h0 : inv a₀) (hI : SubS (σ a₀) ρ)
    (turn : ∀ a, inv a → ∃ b, Tst c n sc (σ a) t b ∧ (b = true → Tr c n sc (σ a) body (Turn (fun ρ' => ∃ a', μ a' < μ a ∧ inv a' ∧ SubS (σ a') ρ') P)) ∧ (b = false → P .next (σ a))) : Sx c n sc ρ (.While t body [] pos) P := by
  refine Sx.post (P := fun af ρ' => (af = .next ∧ ∃ a, P .next (σ a) ∧ SubS (σ a) ρ') ∨ P af ρ') (Sx.while (fun k ρ' => ∃ a, μ a = k ∧ inv a ∧ SubS (σ a) ρ') (μ a₀) ⟨a₀, rfl, h0, hI⟩ ?_) fun af ρ₁ q => ?_
  · rintro k ρ' ⟨a, rfl, ha, hsub⟩
    obtain ⟨b, h1, h2, h3⟩ := turn a ha
    refine ⟨b, h1.ent (Ent.sub hsub), fun e => Tr.ent (Ent.sub hsub) ((h2 e).mono fun af ρ₂ q => ?_), fun e => .inl ⟨rfl, a, h3 e, hsub⟩⟩
    cases af with
    | next => obtain ⟨a', l, i, s⟩ := q; exact ⟨_, l, a', rfl, i, s⟩
    | cont => obtain ⟨a', l, i, s⟩ := q; exact ⟨_, l, a', rfl, i, s⟩
    | brk => exact .inr q
    | ret d => exact .inr q
  · rcases q with ⟨rfl, a, p, q⟩ | q
    · exact ⟨_, Ent.sub q, p⟩
    · exact ⟨_, .refl _, q⟩

/-- a list built of ints, none left out -/
theorem filterMap_some {α β : Type} (r : α → β) (l : List α) : l.filterMap (fun x => some (r x)) = l.map r := by
  induction l with
  | nil => rfl
  | cons x l ih => simp
theorem swaps_local {elt : Expr} {gs : List Comprehension} {scope : Scope} {cp p : Pos} {y : Str} {line : Nat} (h : sc.names.lookup y = some .local) (hf : sc.kind = .function) (hl : (p.line == cp.line) = true)
    (hn : (scope.names.any fun (n, k) => n == y && (k == .local || k == .cell)) = false) (env : Env) (he : env.scope = sc) :
    swapsWith (.ListComp elt gs scope cp) (some (.Name y p)) line env = pure true := by
  have hk : (env.kindOf y == some .local) = true := by
    show (env.scope.names.lookup y == some .local) = true
    rw [he, h]; rfl
  have hb : (env.blockKind == .function) = true := by
    show ((if env.scope.kind.isAnnotationScope then ScopeKind.function else env.scope.kind) == .function) = true
    rw [he, hf]; rfl
  show (pure _ : Sem Bool) = pure true
  simp only [hk, hb, hn, Expr.pos, hl]
  rfl

noncomputable def capOk (sc scope : Scope) : Bool := scope.kind == .function && scope.names.all (fun p => p.2 != .cell) && scope.names.all (fun p => p.2 != .local || scope.names.lookup p.1 == some .local) &&
  scope.names.all (fun p => p.2 != .free || sc.names.lookup p.1 == some .cell || sc.names.lookup p.1 == some .free)
inductive CapS (scope : Scope) (ρ : Sto) : Sto → Prop
  | nil : CapS scope ρ []
  | cons {x : String} {d : D} {ρi : Sto} : ρ.lookup x = some (.val d) → scope.names.lookup (Str.ofString x) = some .free → x ≠ "__classdict__" → CapS scope ρ ρi → CapS scope ρ ((x, .val d) :: ρi)
theorem CapS.all {scope : Scope} {ρi : Sto} (h : CapS scope ρ ρi) : ∀ p ∈ ρi, ∃ d, p.2 = .val d ∧ ρ.lookup p.1 = some (.val d) ∧ scope.names.lookup (Str.ofString p.1) = some .free ∧ p.1 ≠ "__classdict__" := by
  induction h with
  | nil => intro p hp; cases hp
  | cons a b e r ih =>
    intro p hp
    cases hp with
    | head => exact ⟨_, rfl, a, b, e⟩
    | tail _ hp => exact ih p hp
theorem Capt.of {scope : Scope} {ρi : Sto} (hs : CapS scope ρ ρi) (hb : capOk sc scope = true) : Capt sc scope ρ ρi := by
  unfold capOk at hb
  simp only [Bool.and_eq_true, List.all_eq_true, bne_iff_ne, Bool.or_eq_true, beq_iff_eq] at hb
  obtain ⟨⟨⟨h1, h2⟩, h3⟩, h4⟩ := hb
  refine ⟨h1, fun p hp => by simpa using h2 p hp, fun p hp q => ?_, fun p hp q => ?_, hs.all⟩
  · rcases h3 p hp with h | h
    · exact absurd q (by simpa using h)
    · exact h
  · rcases h4 p hp with (h | h) | h
    · exact absurd q (by simpa using h)
    · exact .inl h
    · exact .inr h

section
variable {elt tgt iter t : Expr} {scope : Scope} {pos spos p : Pos} {y : String} {d₀ : D} {α : Type} {g : α → D} {ds : List α}
theorem Ev.compM (r : α → D) (ρi : Sto) (he : Ev c n sc true ρ iter d₀) (hit : IterR c d₀ (ds.map g)) (hc : Capt sc scope ρ ρi) (hz : ds.length ≤ 16777216)
    (item : ∀ x ∈ ds, ∃ ρ₁, TgtG false c (relab sc scope) tgt (g x) ρi ρ₁ ∧ SubS ρi ρ₁ ∧ Ev c n (relab sc scope) true ρ₁ elt (r x)) (hs : ∀ (env : Env) x, foldedSetIterable iter env x = pure x := by intro _ _; rfl) :
    Ev c n sc k ρ (.ListComp elt [⟨tgt, iter, [], 0⟩] scope pos) (.list (ds.map r)) := by
  rw [← filterMap_some]
  exact Ev.comp (fun x => some (r x)) ρi he hit hc hz (fun x hx => let ⟨ρ₁, h1, h2, h3⟩ := item x hx; ⟨ρ₁, h1, h2, .nil, h3⟩) hs
theorem filterMap_if (q : α → Bool) (r : α → D) : ∀ l : List α, l.filterMap (fun x => if q x = true then some (r x) else Option.none) = (l.filter q).map r
  | [] => rfl
  | x :: l => by
    rw [List.filterMap_cons, List.filter_cons, filterMap_if q r l]
    cases q x <;> rfl
theorem Ev.compF (q : α → Bool) (r : α → D) (ρi : Sto) (he : Ev c n sc true ρ iter d₀) (hit : IterR c d₀ (ds.map g)) (hc : Capt sc scope ρ ρi) (hz : ds.length ≤ 16777216)
    (item : ∀ x ∈ ds, ∃ ρ₁, TgtG false c (relab sc scope) tgt (g x) ρi ρ₁ ∧ SubS ρi ρ₁ ∧ Tst c n (relab sc scope) ρ₁ t (q x) ∧ (q x = true → Ev c n (relab sc scope) true ρ₁ elt (r x))) (hs : ∀ (env : Env) x, foldedSetIterable iter env x = pure x := by intro _ _; rfl) :
    Ev c n sc k ρ (.ListComp elt [⟨tgt, iter, [t], 0⟩] scope pos) (.list ((ds.filter q).map r)) := by
  rw [← filterMap_if]
  refine Ev.comp (fun x => if q x = true then some (r x) else Option.none) ρi he hit hc hz (fun x hx => ?_) hs
  obtain ⟨ρ₁, h1, h2, h3, h4⟩ := item x hx
  refine ⟨ρ₁, h1, h2, ?_⟩
  cases e : q x with
  | true => rw [e] at h3; exact ⟨.one h3, h4 e⟩
  | false => rw [e] at h3; exact .one h3
theorem Sx.compM (r : α → D) (ρi : Sto) (he : Ev c n sc true ρ iter d₀) (hit : IterR c d₀ (ds.map g)) (hc : Capt sc scope ρ ρi) (hz : ds.length ≤ 16777216)
    (item : ∀ x ∈ ds, ∃ ρ₁, TgtG false c (relab sc scope) tgt (g x) ρi ρ₁ ∧ SubS ρi ρ₁ ∧ Ev c n (relab sc scope) true ρ₁ elt (r x)) (hk : sc.names.lookup (Str.ofString y) = some .local) (hf : sc.kind = .function) (hl : (p.line == pos.line) = true)
    (hn : (scope.names.any fun (n, k) => n == Str.ofString y && (k == .local || k == .cell)) = false) (hs : ∀ (env : Env) x, foldedSetIterable iter env x = pure x := by intro _ _; rfl) :
    Sn c n sc ρ (.Assign [.Name (Str.ofString y) p] (.ListComp elt [⟨tgt, iter, [], 0⟩] scope pos) spos) (setS ρ y (.val (.list (ds.map r)))) := by
  rw [← filterMap_some]
  exact Sx.comp (fun x => some (r x)) ρi he hit hc hz (fun x hx => let ⟨ρ₁, h1, h2, h3⟩ := item x hx; ⟨ρ₁, h1, h2, .nil, h3⟩) (.inl hk) (swaps_local hk hf hl hn) hs
end

theorem Ev.to {e : Expr} {d d' : D} (h : Ev c n sc k ρ e d) (q : d = d') : Ev c n sc k ρ e d' := q ▸ h
theorem Tst.to {e : Expr} {b b' : Bool} (h : Tst c n sc ρ e b) (q : b = b') : Tst c n sc ρ e b' := q ▸ h
theorem IsDef.callee {a : Addr} {ps : List String} {body : List Stmt} (h : IsDef c a sc ps body) : Callee c (.ref a) := by
  obtain ⟨o, fd, h1, h2, _⟩ := h.ex
  exact .func h1 h2

end
end Mine
namespace Mine
section
variable {c : Cx} {n : Nat} {sc : Scope} {k : Bool} {ρ ρ' : Sto} {P P' : AF → Sto → Prop} {env : Env} {V0 : Addr → Prop} {h0 : Heap} {Cs : List (Str × Addr)} {X : List Addr} {s s₁ : Shared} {A : Around}

/-- a name's own list, opened -/
structure Opn (c : Cx) (env : Env) (V0 : Addr → Prop) (Cs : List (Str × Addr)) (X : List Addr) (ρ : Sto) (x : String) (sl : List Slot) (a : Addr) (fpi fps' : List Addr) (s : Shared) : Prop where
  ns : ∃ m, s.heap.Ns env.locals m ∧ Loc env s m x (.ref a) ∧ StoR c env (Vol V0 X) s m (delS x ρ) fps'
  lst : ∃ vs nn, s.heap.get? a = some { cls := .type "list", data := .seq vs nn } ∧ RepSL c (Vol V0 X) s sl vs.toList fpi
  nd : (env.locals :: (Cs.map (·.2) ++ ((a :: fpi) ++ fps'))).Nodup
  sub : ∀ b ∈ env.locals :: (Cs.map (·.2) ++ ((a :: fpi) ++ fps')), b ∈ X

theorem Fm.opn {x : String} {sl : List Slot} (F : Fm c sc env V0 h0 Cs X ρ s) (h : ρ.lookup x = some (.own sl)) : ∃ a fpi fps', Opn c env V0 Cs X ρ x sl a fpi fps' s := by
  obtain ⟨m, fps, h1, h2, h3, h4, h6, h5⟩ := F.sto
  obtain ⟨v, fp, fps', rest, l, rx, r, hp⟩ := h5.take h
  cases rx with
  | @own a o vs nn _ fpi ho hcl hd hdt rs =>
    have hx1 : (env.locals :: (Cs.map (·.2) ++ fps)).Nodup := h2 ▸ h3
    have hpm : (rest ++ (env.locals :: (Cs.map (·.2) ++ ((a :: fpi) ++ fps')))).Perm (env.locals :: (Cs.map (·.2) ++ fps)) := by
      refine List.perm_middle.trans (List.Perm.cons _ ?_)
      exact (List.perm_append_comm_assoc rest _ _).trans (hp.append_left _)
    refine ⟨a, fpi, fps', ⟨m, h1, l, r⟩, ⟨vs, nn, ?_, rs⟩, (List.nodup_append.mp (hpm.nodup_iff.mpr hx1)).2.1, fun b hb => h2 ▸ hpm.subset (List.mem_append_right _ hb)⟩
    rw [← obj_eq hcl hd hdt]; exact ho

theorem RepSL.gr {V : Addr → Prop} {s' : Shared} {sl v fp} (r : RepSL c V s sl v fp) (g : Gr s s') : RepSL c V s' sl v fp := r.calm (g.calm V) (fun _ q => q) fun _ _ _ e => g.keep _ _ e

theorem Opn.gr {x : String} {sl : List Slot} {a : Addr} {fpi fps' : List Addr} {s' : Shared} (O : Opn c env V0 Cs X ρ x sl a fpi fps' s) (g : Gr s s') : Opn c env V0 Cs X ρ x sl a fpi fps' s' := by
  obtain ⟨m, h1, h2, h3⟩ := O.ns
  obtain ⟨vs, nn, h4, h5⟩ := O.lst
  exact ⟨⟨m, h1.keeps g.keep, h2.calm (fun _ => rfl) fun _ _ _ _ e _ => g.keep _ _ e, h3.gr g⟩, ⟨vs, nn, g.keep _ _ h4, h5.gr g⟩, O.nd, O.sub⟩

theorem Opn.aX {x : String} {sl : List Slot} {a : Addr} {fpi fps' : List Addr} (O : Opn c env V0 Cs X ρ x sl a fpi fps' s) : a ∈ X := O.sub a (.tail _ (List.mem_append_right _ (.head _)))

/-- the list is turned, and all is said again -/
theorem Opn.close {x : String} {sl sl' : List Slot} {a : Addr} {fpi fps' : List Addr} {h' : Heap} {vs' : Array Value} {n' tk : Nat} (F : Fm c sc env V0 h0 Cs X ρ s) (O : Opn c env V0 Cs X ρ x sl a fpi fps' s) (hs : Heap.SameBut a s.heap h') (htk : s.toks ≤ tk)
    (ho : h'.get? a = some { cls := .type "list", data := .seq vs' n' }) (hr : RepSL c (Vol V0 X) { s with heap := h', toks := tk } sl' vs'.toList fpi) :
    ∃ X', Stp X s X' { s with heap := h', toks := tk } ∧ Fm c sc env V0 h0 Cs X' (setS ρ x (.own sl')) { s with heap := h', toks := tk } := by
  obtain ⟨m, h1, h2, h3⟩ := O.ns
  obtain ⟨vs, nn, h4, h5⟩ := O.lst
  have haX := O.aX
  have hnd := List.nodup_cons.mp O.nd
  have hnd2 := List.nodup_append.mp hnd.2
  have haL : env.locals ≠ a := fun q => hnd.1 (q ▸ List.mem_append_right _ (.head _))
  have haC : ∀ p ∈ Cs, p.2 ≠ a := fun p hp q => hnd2.2.2 _ (List.mem_map_of_mem hp) a (.head _) q
  have hcm : Calm (Vol V0 X) s { s with heap := h', toks := tk } := calm_at hs (.inr haX) htk
  have hv : ∀ b, Vol V0 (env.locals :: (Cs.map (·.2) ++ ((a :: fpi) ++ fps'))) b → Vol V0 X b := fun b q => q.imp id (O.sub b)
  have ha0 : ∀ b o, h0.get? b = some o → b ≠ a := fun b o e q => by rw [q, F.new _ haX] at e; cases e
  have haf : a ∉ fpi ∧ a ∉ fps' := by
    have := List.nodup_cons.mp hnd2.2.1
    exact ⟨fun q => this.1 (List.mem_append_left _ q), fun q => this.1 (List.mem_append_right _ q)⟩
  have halive : ∀ b o, s.heap.get? b = some o → ∃ o', h'.get? b = some o' := fun b o e => by
    by_cases q : b = a
    · exact ⟨_, q ▸ ho⟩
    · exact ⟨o, (hs.2 b q).trans e⟩
  obtain ⟨_, _, _, _, _, hlv, hcl, _⟩ := F.sto
  refine ⟨_, ⟨fun b o hb e => (hs.2 b fun q => hb (q ▸ haX)).trans e, htk, rfl, rfl, fun b hb => .inl (O.sub b hb), fun b _ o e => halive b o e⟩,
    ⟨F.good, F.scope, F.kind, F.globals, F.builtins, F.base, fun b o e => (hs.2 b (ha0 b o e)).trans (F.keep b o e), fun e => F.tok (Nat.le_zero.mp (e ▸ htk)), (fun b q => ?_), F.ccells, fun b hb => F.new b (O.sub b hb), F.cells, F.cinj,
      ⟨m, _, h1.sameBut hs haL, rfl, O.nd, fun b hb => ?_, fun p hp => ?_, .cons (v := .ref a) ?_ (.own ho rfl ⟨rfl, rfl⟩ rfl (hr.calm (Gr.calm (.refl _) _) hv fun _ _ _ e => e)) ?_⟩⟩⟩
  · obtain ⟨⟨o, e⟩, hx⟩ := F.live0 b q
    exact ⟨halive b o e, fun q' => hx (O.sub b q')⟩
  · obtain ⟨o, e⟩ := hlv b (O.sub b hb); exact halive b o e
  · obtain ⟨v₀, q⟩ := hcl p hp; exact ⟨v₀, q.sameBut hs (haC p hp)⟩
  · refine h2.calm (fun _ => rfl) fun b o w _ e hw => (hs.2 b fun q => ?_).trans e
    rw [q, h4] at e; cases e; cases hw
  · refine StoR.weak hv (h3.change hcm (fun b hb o e => (hs.2 b fun q => haf.2 (q ▸ hb)).trans e) (fun _ _ _ => rfl) fun p hp b o w _ e hw => (hs.2 b fun q => ?_).trans e)
    rw [q, h4] at e; cases e; cases hw

theorem RepSL.snoc {V : Addr → Prop} {s : Shared} {d : D} {v : Value} (rv : Rep c V s d v) : ∀ {sl vs fp}, RepSL c V s sl vs fp → RepSL c V s (sl ++ [.val d]) (vs ++ [v]) fp
  | _, _, _, .nil => .cons (fp := []) (fps := []) (.val rv) .nil
  | _, _, _, .cons (fp := fp) r rs => .cons r (RepSL.snoc rv rs)
theorem RepSL.length {V : Addr → Prop} {s : Shared} : ∀ {sl vs fp}, RepSL c V s sl vs fp → sl.length = vs.length
  | _, _, _, .nil => rfl
  | _, _, _, .cons _ rs => by simp [rs.length]
theorem RepSL.get {V : Addr → Prop} {s : Shared} {d : D} : ∀ {sl vs fp} {i : Nat}, RepSL c V s sl vs fp → sl[i]? = some (.val d) → ∃ v, vs[i]? = some v ∧ Rep c V s d v
  | _, _, _, _, .nil, h => by simp at h
  | _, _, _, 0, .cons r _, h => by
    simp at h; subst h
    cases r with
    | val r => exact ⟨_, rfl, r⟩
  | _, _, _, i + 1, .cons _ rs, h => by
    obtain ⟨v, h1, h2⟩ := rs.get (i := i) (by simpa using h)
    exact ⟨v, by simpa using h1, h2⟩
theorem RepL.slots {V : Addr → Prop} {s : Shared} : ∀ {ds vs}, RepL c V s ds vs → RepSL c V s (ds.map .val) vs []
  | _, _, .nil => .nil
  | _, _, .cons r rs => .cons (fp := []) (fps := []) (.val r) rs.slots

theorem Opn.load {x : String} {sl : List Slot} {a : Addr} {fpi fps' : List Addr} {E : Value → Shared → Prop} {Q : Value → Shared → Prop} {p : Pos} (F : Fm c sc env V0 h0 Cs X ρ s) (O : Opn c env V0 Cs X ρ x sl a fpi fps' s) (hx : x ≠ "__debug__") (h : Q (.ref a) s) :
    wpAny c.M A (eval (.Name (Str.ofString x) p) env) Q E s := by
  obtain ⟨m, h1, h2, h3⟩ := O.ns
  exact wpAny_Name (h2.load (by rw [F.scope]; exact F.kind) h1 h) (ofString_ne hx)

/-- x.append(e) -/
theorem Sx.append {x : String} {e : Expr} {p ap pos epos : Pos} {sl : List Slot} {d : D} (hx : ρ.lookup x = some (.own sl)) (h : Ev c n sc true ρ e d) (hz : sl.length ≤ 16777216) (hp : plainE e = true := by rfl) (hline : (ap.endLine == pos.line) = true := by rfl) (hxd : x ≠ "__debug__" := by decide)
    (hbase : ∀ env : Env, attributeBase (.Name (Str.ofString x) p) (Str.ofString "append") env (eval (.Name (Str.ofString x) p) env) = eval (.Name (Str.ofString x) p) env := by intro _; rfl)
    (hs : ∀ env : Env, swapsWith (.Call (.Attribute (.Name (Str.ofString x) p) (Str.ofString "append") ap) [e] [] pos) none epos.line env = pure false := by intro _; rfl) :
    Sn c n sc ρ (.Expr (.Call (.Attribute (.Name (Str.ofString x) p) (Str.ofString "append") ap) [e] [] pos) epos) (setS ρ x (.own (sl ++ [.val d]))) := .mk fun A env V0 h0 Cs X s hA hO F => by
  obtain ⟨a, fpi, fps', O⟩ := F.opn hx
  have hi : interactive env = false := by
    unfold interactive
    rw [F.scope, F.kind]; rfl
  refine wpAny_Expr ?_ hi (hs env)
  refine wpAny_Call_method (T := "list") (id := "list.append") (hbase env) ?_ hline PySem.F.plainAttrs_list PySem.F.slot_list_append PySem.F.type_list_append ?_
  · rw [starEach_cons hp]; rfl
  refine O.load F hxd ?_
  obtain ⟨vs, nn, h4, h5⟩ := O.lst
  refine ⟨⟨_, h4, rfl⟩, fun b hb => by cases hb; exact ⟨_, h4, rfl⟩, (Callee.builtin (c := c) "list.append").wp (first := [.ref a]) (by simp [hp]) ?_⟩
  refine wpAny_items_cons (wpAny_mono (h.run A env V0 h0 Cs X s hA F) (fun v s₁ q₁ => wpAny_items_nil ⟨(F.gr q₁.1).base.trans (F.gr q₁.1).keep, ?_⟩) fun _ _ q => q.elim) (starEach_cons hp)
  obtain ⟨vs, nn, h4, h5⟩ := (O.gr q₁.1).lst
  have hl := h5.length
  refine append_wp h4 rfl ⟨rfl, rfl⟩ rfl (fun h' o' n' e1 e2 e3 e4 e5 => ?_) (by simp at hl; omega)
  have hcm : Calm (Vol V0 X) s₁ { s₁ with heap := h' } := calm_at (tk := s₁.toks) e5 (.inr O.aX) (Nat.le_refl _)
  have hnd := (List.nodup_append.mp (List.nodup_cons.mp O.nd).2).2.1
  have haf : a ∉ fpi := fun q => (List.nodup_cons.mp hnd).1 (List.mem_append_left _ q)
  obtain ⟨X', g, F'⟩ := (O.gr q₁.1).close (F.gr q₁.1) (sl' := sl ++ [.val d]) (tk := s₁.toks) e5 (Nat.le_refl _) (by rw [← obj_eq e2 e3 e4]; exact e1) (by
    rw [Array.toList_push]
    exact ((RepSL.snoc (q₁.2.weak fun _ q => ⟨rfl, q⟩) h5).calm hcm (fun _ q => q) fun b hb o e => (e5.2 b fun q => haf (q ▸ hb)).trans e))
  exact ⟨X', _, .next, (Stp.of_gr q₁.1).trans g, F', .next, rfl, rfl⟩

/-- a fresh list that may be turned -/
theorem EvS.list {es : List Expr} {pos : Pos} {ds : List D} (h : EvL c n sc true ρ es ds) (hsz : ds.length ≤ sizeLine) : EvS c n sc ρ (.List es pos) (.own (ds.map .val)) := .mk fun A env V0 h0 Cs X s hA F =>
  wpAny_List (wpAny_mono (h.run A env V0 h0 Cs X s pos hA F) (fun vs s₁ q => ⟨q.2.length ▸ hsz, q.1.trans (.push _), [s₁.heap.objs.size], .own (Heap.get?_push_size _ rfl) rfl ⟨rfl, rfl⟩ rfl (RepL.slots (by
    have r := (q.2.gr (.push { cls := .type "list", data := .seq vs.toArray }))
    have r2 : RepL c (fun a => VK true V0 X a ∨ a = s₁.heap.objs.size) s₁ ds vs := q.2.ext fun a e => e ▸ get_size _
    refine (r2.gr (.push { cls := .type "list", data := .seq vs.toArray })).weak fun a e => ?_
    rcases e with e | e
    · exact .inl ⟨rfl, .inl e⟩
    · rcases List.mem_append.mp e with e | e
      · exact .inl ⟨rfl, .inr e⟩
      · exact .inr (List.mem_singleton.mp e))), by simp, fun a ha => by
    rw [List.mem_singleton.mp ha]
    cases e : s.heap.get? s₁.heap.objs.size with
    | none => rfl
    | some o => have := q.1.keep _ _ e; rw [get_size] at this; cases this⟩) fun _ _ q => q)

end
end Mine
namespace Mine

section
variable {c : Cx} {n : Nat} {sc : Scope} {k : Bool} {ρ ρ' : Sto}

theorem repL_strs {V : Addr → Prop} {s : Shared} {ls : List (List Nat)} : ∀ {vs : List Value}, RepL c V s (ls.map sd) vs → ∃ l : List (Str × Tok), vs = strValues l ∧ l.map (·.1) = ls.map S := by
  induction ls with
  | nil => intro vs r; cases r; exact ⟨[], rfl, rfl⟩
  | cons x ls ih =>
    intro vs r
    cases r with
    | cons r rs =>
      obtain ⟨l, h1, h2⟩ := ih rs
      cases r with
      | str _ t => exact ⟨(S x, t) :: l, by rw [h1]; rfl, by rw [List.map_cons, h2]; rfl⟩
end
end Mine
namespace Mine
section
variable {c : Cx} {n : Nat} {sc : Scope} {k : Bool} {ρ ρ' : Sto}

theorem Room.below {A : Around} (h : Room n A) : A.units < cLine := by have := h.units; omega

theorem strsAt {V : Addr → Prop} {s : Shared} {ls : List (List Nat)} : ∀ {vs : List Value}, RepL c V s (ls.map sd) vs → ∀ j (h1 : j < ls.length) (h2 : j < vs.length), ∃ t, vs[j] = .str (S ls[j]) t := by
  induction ls with
  | nil => intro vs r j h1; cases h1
  | cons x ls ih =>
    intro vs r j h1 h2
    cases r with
    | cons r rs =>
      cases j with
      | zero => cases r with | str _ t => exact ⟨t, rfl⟩
      | succ j => exact ih rs j (Nat.lt_of_succ_lt_succ h1) (Nat.lt_of_succ_lt_succ h2)

theorem S_beq (a b : List Nat) : (S a == S b) = decide (a = b) := by
  by_cases h : a = b
  · simp [h]
  · simp [h]

theorem all_eq {a b : List (List Nat)} (h : a.length = b.length) : (List.range a.length).all (fun j => decide (a.getD j [] = b.getD j [])) = decide (a = b) := by
  rw [Bool.eq_iff_iff, decide_eq_true_eq, List.all_eq_true]
  constructor
  · intro q
    refine List.ext_getElem h fun j h1 h2 => ?_
    have := q j (List.mem_range.mpr h1)
    rw [decide_eq_true_eq, List.getD_eq_getElem?_getD, List.getD_eq_getElem?_getD, List.getElem?_eq_getElem h1, List.getElem?_eq_getElem h2] at this
    exact this
  · rintro rfl j _; simp

/-- lists of texts, compared -/
theorem eqLS_aux {a b : List (List Nat)} {A : Around} {V : Addr → Prop} {s : Shared} {v₁ v₂ : Value} (hA : Room 0 A) (r₁ : Rep c V s (.list (a.map sd)) v₁) (r₂ : Rep c V s (.list (b.map sd)) v₂) :
    SeqAt.RcAt A s v₁ v₂ (decide (a = b)) ∧ SeqAt.RcNeAt A s v₁ v₂ (!decide (a = b)) := by
  cases r₁ with
  | @list x o vs nn _ na ho hcl hd hdt r₁ => cases r₂ with
    | @list y o2 ws nn2 _ na2 ho2 hcl2 hd2 hdt2 r₂ =>
      have l1 := r₁.length
      have l2 := r₂.length
      simp only [Array.length_toList, List.length_map] at l1 l2
      have i1 : s.heap.IsList x vs := ⟨o, ho, hcl, nn, hdt⟩
      have i2 : s.heap.IsList y ws := ⟨o2, ho2, hcl2, nn2, hdt2⟩
      by_cases h : a.length = b.length
      · have hsz : vs.size = ws.size := by omega
        have he : ∀ j (h1 : j < vs.size) (h2 : j < ws.size), SeqAt.EqAt A.in1 s vs[j] ws[j] (decide (a.getD j [] = b.getD j [])) := fun j h1 h2 => by
          obtain ⟨t, e1⟩ := strsAt r₁ j (by omega) (by simpa using h1)
          obtain ⟨u, e2⟩ := strsAt r₂ j (by omega) (by simpa using h2)
          rw [Array.getElem_toList] at e1 e2
          rw [e1, e2]
          have e3 := SeqAt.EqAt.str_str (A := A.in1) (s := s) (S a[j]) t (S b[j]) u
          rw [S_beq] at e3
          have g1 : a.getD j [] = a[j] := by rw [List.getD_eq_getElem?_getD, List.getElem?_eq_getElem (by omega)]; rfl
          have g2 : b.getD j [] = b[j] := by rw [List.getD_eq_getElem?_getD, List.getElem?_eq_getElem (by omega)]; rfl
          rw [g1, g2]; exact e3
        have h1 := SeqAt.RcAt.lists i1 i2 hsz hA.below he
        have h2 := SeqAt.RcNeAt.lists i1 i2 hsz hA.below he
        rw [← l1, all_eq h] at h1 h2
        exact ⟨h1, h2⟩
      · have hne : (vs.size != ws.size) = true := by simp; omega
        have h1 := SeqAt.RcAt.lists_lengths i1 i2 hne hA.below
        have h2 := SeqAt.RcNeAt.lists_lengths i1 i2 hne hA.below
        have : decide (a = b) = false := decide_eq_false fun q => h (by rw [q])
        rw [this]; exact ⟨h1, h2⟩
theorem CmpR.neLS {a b : List (List Nat)} : CmpR c .NotEq (.list (a.map sd)) (.list (b.map sd)) (decide (a ≠ b)) := fun A V s v₁ v₂ hA _ r₁ r₂ =>
  (eqLS_aux hA r₁ r₂).2 c.prog c.w _ _ ⟨.refl s, by rw [decide_not]⟩

/-- is the list empty? -/
theorem eqNil_aux {ds : List D} {A : Around} {V : Addr → Prop} {s : Shared} {v₁ v₂ : Value} (hA : Room 0 A) (r₁ : Rep c V s (.list ds) v₁) (r₂ : Rep c V s (.list []) v₂) :
    SeqAt.RcAt A s v₁ v₂ ds.isEmpty ∧ SeqAt.RcNeAt A s v₁ v₂ (!ds.isEmpty) := by
  cases r₁ with
  | @list x o vs nn _ na ho hcl hd hdt r₁ => cases r₂ with
    | @list y o2 ws nn2 _ na2 ho2 hcl2 hd2 hdt2 r₂ =>
      have l1 := r₁.length
      have l2 := r₂.length
      simp only [Array.length_toList, List.length_nil] at l1 l2
      have i1 : s.heap.IsList x vs := ⟨o, ho, hcl, nn, hdt⟩
      have i2 : s.heap.IsList y ws := ⟨o2, ho2, hcl2, nn2, hdt2⟩
      cases ds with
      | nil =>
        have hsz : vs.size = ws.size := by simp at l1; omega
        have he : ∀ j (h1 : j < vs.size) (h2 : j < ws.size), SeqAt.EqAt A.in1 s vs[j] ws[j] true := fun j h1 h2 => by omega
        have h1 := SeqAt.RcAt.lists (e := fun _ => true) i1 i2 hsz hA.below he
        have h2 := SeqAt.RcNeAt.lists (e := fun _ => true) i1 i2 hsz hA.below he
        have : (List.range vs.size).all (fun _ => true) = true := by simp
        rw [this] at h1 h2; exact ⟨h1, h2⟩
      | cons d r =>
        have hne : (vs.size != ws.size) = true := by simp at l1 ⊢; omega
        exact ⟨SeqAt.RcAt.lists_lengths i1 i2 hne hA.below, SeqAt.RcNeAt.lists_lengths i1 i2 hne hA.below⟩
theorem CmpR.neNil {ds : List D} : CmpR c .NotEq (.list ds) (.list []) (!ds.isEmpty) := fun A V s v₁ v₂ hA _ r₁ r₂ => (eqNil_aux hA r₁ r₂).2 c.prog c.w _ _ ⟨.refl s, rfl⟩

/-- a text in a list of texts -/
theorem inLS_aux {a : List (List Nat)} {x : List Nat} {V : Addr → Prop} {s : Shared} {vs : Array Value} {t : Tok} (A : Around) (r : RepL c V s (a.map sd) vs.toList) :
    (∀ y, y ∈ vs → SeqAt.EqAt A s y (.str (S x) t) (match y with | .str z _ => z == S x | _ => false)) ∧ vs.any (fun y => match y with | .str z _ => z == S x | _ => false) = decide (x ∈ a) := by
  obtain ⟨l, h1, h2⟩ := repL_strs r
  have hv : vs = (strValues l).toArray := by rw [← h1]
  subst hv
  constructor
  · intro y hy
    obtain ⟨p, hp, rfl⟩ := List.mem_map.mp (List.mem_toArray.mp hy)
    exact SeqAt.EqAt.str_str _ _ _ _
  · rw [List.any_toArray, strValues, List.any_map, Bool.eq_iff_iff, List.any_eq_true, decide_eq_true_eq]
    have hmem : x ∈ a ↔ S x ∈ a.map S := ⟨fun h => List.mem_map_of_mem h, fun h => by
      obtain ⟨z, hz, e⟩ := List.mem_map.mp h
      rw [← S_inj e]; exact hz⟩
    rw [hmem, ← h2]
    constructor
    · rintro ⟨p, hp, e⟩
      exact List.mem_map.mpr ⟨p, hp, by simpa using e⟩
    · intro h
      obtain ⟨p, hp, e⟩ := List.mem_map.mp h
      exact ⟨p, hp, by simp [e]⟩
theorem CmpR.ninLS {a : List (List Nat)} {x : List Nat} : CmpR c .NotIn (sd x) (.list (a.map sd)) (decide (x ∉ a)) := fun A V s v₁ v₂ hA _ r₁ r₂ => by
  cases r₁ with
  | str _ t => cases r₂ with
    | @list y o ws nn _ na ho hcl hd hdt r =>
      obtain ⟨h1, h2⟩ := inLS_aux (x := x) (t := t) A.in1 r
      exact SeqAt.notIn_listAt _ ⟨o, ho, hcl, nn, hdt⟩ h1 ⟨.refl s, by rw [h2, decide_not]⟩

end
end Mine
namespace Mine

/-- an escape's table: signs and what is written for them, in the order of its replaces -/
noncomputable abbrev Tab := List (Nat × List Nat)
noncomputable def escT (t : Tab) (l : List Nat) : List Nat := t.foldl (fun acc p => rep p.1 p.2 acc) l
noncomputable def wrT (t : Tab) (k : Nat) : List Nat := (t.lookup k).getD [k]
/-- no later sign stands in what is written -/
noncomputable def okT : Tab → Bool
  | [] => true
  | p :: r => r.all (fun q => !p.2.contains q.1 && q.1 != p.1) && okT r

theorem escT_free : ∀ (t : Tab) (z : List Nat), (∀ q ∈ t, q.1 ∉ z) → escT t z = z
  | [], _, _ => rfl
  | p :: r, z, h => by
    show escT r (rep p.1 p.2 z) = z
    rw [rep_free _ _ _ (h p (.head _))]
    exact escT_free r z fun q hq => h q (.tail _ hq)
theorem escT_append (t : Tab) : ∀ (a b : List Nat), escT t (a ++ b) = escT t a ++ escT t b := by
  induction t with
  | nil => intro a b; rfl
  | cons p r ih => intro a b; show escT r (rep p.1 p.2 (a ++ b)) = _; rw [rep_append]; exact ih _ _
theorem escT_nil (t : Tab) : escT t [] = [] := by
  induction t with
  | nil => rfl
  | cons p r ih => exact ih
theorem escT_one : ∀ (t : Tab), okT t = true → ∀ k, escT t [k] = wrT t k
  | [], _, k => rfl
  | p :: r, h, k => by
    unfold okT at h
    rw [Bool.and_eq_true, List.all_eq_true] at h
    show escT r (rep p.1 p.2 [k]) = _
    unfold wrT
    rw [List.lookup_cons]
    by_cases hk : k = p.1
    · subst hk
      rw [rep_one, beq_self_eq_true]
      refine escT_free r p.2 fun q hq => ?_
      have := h.1 q hq
      simp at this; exact this.1
    · have : (k == p.1) = false := by simpa using hk
      rw [this, rep_free _ _ _ (by simpa using fun e => hk e.symm)]
      exact escT_one r h.2 k
theorem escT_eq {t : Tab} (h : okT t = true) (l : List Nat) : escT t l = l.flatMap (wrT t) := by
  induction l with
  | nil => exact escT_nil t
  | cons x l ih => rw [List.flatMap_cons, ← ih, ← escT_one t h, ← escT_append]; rfl
theorem wrT_len {t : Tab} {m : Nat} (h : t.all (fun p => decide (p.2.length ≤ m)) = true) (hm : 1 ≤ m) (k : Nat) : (wrT t k).length ≤ m := by
  unfold wrT
  cases e : t.lookup k with
  | none => exact hm
  | some z => have := List.all_eq_true.mp h _ (mem_lookup e); simpa using this
theorem flatMap_len {w : Nat → List Nat} {m : Nat} (h : ∀ k, (w k).length ≤ m) : ∀ l : List Nat, (l.flatMap w).length ≤ l.length * m
  | [] => by simp
  | x :: l => by
    have := flatMap_len h l
    have := h x
    rw [List.flatMap_cons, List.length_append, List.length_cons, Nat.add_mul]
    omega

noncomputable def tAt : Tab := [(38, cs "&amp;"), (60, cs "&lt;"), (62, cs "&gt;"), (34, cs "&quot;"), (13, cs "&#13;"), (10, cs "&#10;"), (9, cs "&#09;")]
noncomputable def tCc : Tab := [(38, cs "&amp;"), (60, cs "&lt;"), (62, cs "&gt;"), (13, cs "&#xD;")]
noncomputable def tAc : Tab := [(38, cs "&amp;"), (60, cs "&lt;"), (34, cs "&quot;"), (9, cs "&#x9;"), (10, cs "&#xA;"), (13, cs "&#xD;")]

theorem escT_len {t : Tab} (h : okT t = true) (h2 : t.all (fun p => decide (p.2.length ≤ 6)) = true) (l : List Nat) : (escT t l).length ≤ l.length * 6 := by
  rw [escT_eq h]; exact flatMap_len (wrT_len h2 (by decide)) l

section
variable {c : Cx} {n : Nat} {sc : Scope}
/-- if 'c' in text: text = text.replace('c', '..') -/
theorem Sx.esc {x z : String} {q : Nat} {l : List Nat} {k0 k1 k2 : Nat} {p0 p1 p2 p3 p4 p5 p6 p7 p8 p9 ap : Pos} (hq : cs x = [q]) (hxz : x ≠ z) (hk : CanStore sc "text") (hz : l.length + (l.length + 1) * (cs z).length ≤ 16777216)
    (hline : (ap.endLine == p7.line) = true := by rfl) 
    (hs : ∀ env : Env, env.scope = sc → swapsWith (.Call (.Attribute (.Name (Str.ofString "text") p4) (Str.ofString "replace") ap) [.Constant (.str (Str.ofString x)) k1 p5, .Constant (.str (Str.ofString z)) k2 p6] [] p7) (some (.Name (Str.ofString "text") p3)) p8.line env = pure false := by intro _ _; rfl) :
    Sn c n sc [("text", .val (sd l))] (.If (.Compare (.Constant (.str (Str.ofString x)) k0 p0) [.In] [.Name (Str.ofString "text") p1] p2)
      [.Assign [.Name (Str.ofString "text") p3] (.Call (.Attribute (.Name (Str.ofString "text") p4) (Str.ofString "replace") ap) [.Constant (.str (Str.ofString x)) k1 p5, .Constant (.str (Str.ofString z)) k2 p6] [] p7) p8] [] p9)
      [("text", .val (sd (rep q (cs z) l)))] := by
  refine Sx.ite (b := decide (q ∈ l)) (Tst.cmp Ev.lit (Ev.name rfl) (CmpR.inS hq)) (fun h => Tr.last (Sx.assign (Ev.replace (Ev.name rfl) hq hxz hz hline) hk hs)) fun h => Tr.nil ⟨rfl, ?_⟩
  rw [rep_free _ _ _ (by simpa using h)]
/-- one step of an escape: t₀ is done -/
theorem Tr.escStep {x z : String} {q : Nat} {t₀ : Tab} {l : List Nat} {rest : List Stmt} {P : AF → Sto → Prop} {k0 k1 k2 : Nat} {p0 p1 p2 p3 p4 p5 p6 p7 p8 p9 ap : Pos} (hl : l.length ≤ 100000) (hq : cs x = [q]) (hxz : x ≠ z) (hk : CanStore sc "text") (ht : okT t₀ = true) (ht2 : t₀.all (fun p => decide (p.2.length ≤ 6)) = true) (hzl : (cs z).length ≤ 6)
    (h : Tr c n sc [("text", .val (sd (escT (t₀ ++ [(q, cs z)]) l)))] rest P) (hline : (ap.endLine == p7.line) = true := by rfl) 
    (hs : ∀ env : Env, env.scope = sc → swapsWith (.Call (.Attribute (.Name (Str.ofString "text") p4) (Str.ofString "replace") ap) [.Constant (.str (Str.ofString x)) k1 p5, .Constant (.str (Str.ofString z)) k2 p6] [] p7) (some (.Name (Str.ofString "text") p3)) p8.line env = pure false := by intro _ _; rfl) :
    Tr c n sc [("text", .val (sd (escT t₀ l)))] (.If (.Compare (.Constant (.str (Str.ofString x)) k0 p0) [.In] [.Name (Str.ofString "text") p1] p2)
      [.Assign [.Name (Str.ofString "text") p3] (.Call (.Attribute (.Name (Str.ofString "text") p4) (Str.ofString "replace") ap) [.Constant (.str (Str.ofString x)) k1 p5, .Constant (.str (Str.ofString z)) k2 p6] [] p7) p8] [] p9 :: rest) P := by
  have h1 := escT_len ht ht2 l
  refine Tr.step (Sx.esc hq hxz hk ?_ hline hs) ?_
  · have : ((escT t₀ l).length + 1) * (cs z).length ≤ ((escT t₀ l).length + 1) * 6 := Nat.mul_le_mul_left _ hzl
    omega
  · have e : escT (t₀ ++ [(q, cs z)]) l = rep q (cs z) (escT t₀ l) := by simp [escT]
    rw [← e]; exact h
theorem escFn {a : Addr} {body : List Stmt} {t : Tab} {l : List Nat} (hd : IsDef c a sc ["text"] body) (ht : okT t = true) (h : Tr c n sc [("text", .val (sd (escT [] l)))] body fun af _ => af = .ret (sd (escT t l))) : FnR c (n + 1) (.ref a) [sd l] (sd (l.flatMap (wrT t))) := by
  rw [← escT_eq ht]
  exact FnR.of hd rfl h

theorem ds_vals {α : Type} (g : α → D) : ∀ l : List α, Slot.ds (l.map fun x => .val (g x)) = l.map g
  | [] => rfl
  | x :: l => by rw [List.map_cons, List.map_cons, ← ds_vals g l]; rfl
/-- a sign for a number, none of the surrogates -/
noncomputable def chrOf (h : Int) : Nat := (if h.fmod 1112064 < 55296 then h.fmod 1112064 else h.fmod 1112064 + 2048).toNat
theorem chrOf_ok (h : Int) : (0 : Int) ≤ chrOf h ∧ (chrOf h : Int) ≤ 1114111 ∧ (chrOf h : Int) = if h.fmod 1112064 < 55296 then h.fmod 1112064 else h.fmod 1112064 + 2048 := by
  have hmc : (0 : Int) ≤ h.fmod 1112064 ∧ h.fmod 1112064 < 1112064 := ⟨Int.fmod_nonneg_of_pos _ (by decide), Int.fmod_lt_of_pos _ (by decide)⟩
  unfold chrOf; split <;> omega
/-- chr(code if code < 55296 else code + 2048), with code named -/
theorem Ev.chrIf {k : Bool} {ρ : Sto} {h : Int} {k1 k2 : Nat} {p1 p2 p3 p4 p5 p6 p7 p8 p9 p10 : Pos} (hc : c.mg (Str.ofString "chr") = Option.none ∧ c.mb (Str.ofString "chr") = some (.builtin "chr")) (hl : ρ.lookup "code" = some (.val (.int (h.fmod 1112064))))
    (hk : sc.names.lookup (Str.ofString "chr") = some .globalImplicit := by rfl) :
    Ev c n sc k ρ (.Call (.Name (Str.ofString "chr") p1) [.IfExp (.Compare (.Name (Str.ofString "code") p2) [.Lt] [.Constant (.int 55296) k1 p3] p4) (.Name (Str.ofString "code") p5) (.BinOp (.Name (Str.ofString "code") p6) .Add (.Constant (.int 2048) k2 p7) p8) p9] [] p10) (sd [chrOf h]) := by
  obtain ⟨h1, h2, h3⟩ := chrOf_ok h
  refine Ev.call (ds := [.int (Mine.chrOf h)]) (Ev.blt hc.1 hc.2 hk) (.builtin _) (EvL.cons (Ev.ite (Tst.cmp (Ev.name hl) Ev.int CmpR.ltI) (fun q => ?_) fun q => ?_) EvL.nil) (FnR.chr h1 h2)
  · rw [h3, if_pos (by simpa using q)]; exact Ev.name hl
  · rw [h3, if_neg (by simpa using q)]; exact Ev.bin (Ev.name hl) Ev.int BinR.add

theorem bindOne {fd : FuncData} {p : String} (h : ∀ v : Value, bindArgs fd ⟨[v], []⟩ = pure [(Str.ofString p, v)]) : ∀ vs : List Value, vs.length = [p].length → bindArgs fd ⟨vs, []⟩ = pure (bindsOf [p] vs)
  | [v], _ => h v
theorem bindTwo {fd : FuncData} {p q : String} (h : ∀ v w : Value, bindArgs fd ⟨[v, w], []⟩ = pure [(Str.ofString p, v), (Str.ofString q, w)]) : ∀ vs : List Value, vs.length = [p, q].length → bindArgs fd ⟨vs, []⟩ = pure (bindsOf [p, q] vs)
  | [v, w], _ => h v w
theorem blt_of {K : Frag} {h : Heap} {p : Program} {lw : List Str} {mean : ExcName → Option Value} {mg mb : Str → Option Value} (X : K.In h) (T : Top p lw mean mg mb h) {x : String} {v : Value} (e : nsIn K mainGlobals (Str.ofString x) = some none) (b : bootBuiltins (Str.ofString x) = some v) (hx : x ≠ "__name__") :
    mg (Str.ofString x) = none ∧ mb (Str.ofString x) = some v :=
  ⟨mg_none_of X T.g e, (T.builtins _ fun q => hx (ofString_inj q)).trans b⟩
end
end Mine
namespace Mine
section
variable {c : Cx} {n : Nat} {sc : Scope} {k : Bool} {ρ ρ' : Sto}

end
end Mine
namespace Mine

/-- signs and the tails of their references; a sign may have several -/
noncomputable abbrev Tl := List (Nat × List Nat)
structure GoodTl (tb : Tl) : Prop where
  inj : ∀ p ∈ tb, ∀ q ∈ tb, p.2 = q.2 → p = q
  semi : ∀ p ∈ tb, ∃ nm, p.2 = nm ++ [59] ∧ 59 ∉ nm
  noamp : ∀ p ∈ tb, 38 ∉ p.2

section
variable {tb : Tl} (G : GoodTl tb)
include G
end
end Mine
namespace Mine
section
variable {c : Cx} {n : Nat} {sc : Scope} {k : Bool} {ρ ρ' : Sto} {env : Env} {V0 : Addr → Prop} {h0 : Heap} {Cs : List (Str × Addr)} {X : List Addr} {s s₁ : Shared} {A : Around}

end
end Mine
namespace Mine

/-- a piece of code that reads, and then turns the object at Dd alone -/
noncomputable def BodyPost (Dd : Addr) (s s' : Shared) : Prop :=
  ∃ s₅ h' tk, Gr s s₅ ∧ Heap.SameBut Dd s₅.heap h' ∧ s₅.toks ≤ tk ∧ (∃ o, h'.get? Dd = some o) ∧ (∀ o w, s₅.heap.get? Dd = some o → o.data ≠ .cell w) ∧ s' = { s₅ with heap := h', toks := tk }

theorem Fm.toks {c sc env V0 h0 Cs X ρ s} {tk : Nat} (F : Fm c sc env V0 h0 Cs X ρ s) (h : s.toks ≤ tk) : Fm c sc env V0 h0 Cs X ρ { s with toks := tk } := F.gr (Gr.toks h)

/-- the loop of a comprehension over what it fills (at Dd) -/
theorem comp_loopG {c : Cx} {n : Nat} {sci : Scope} {envi : Env} {Vi : Addr → Prop} {h0 : Heap} {Csi : List (Str × Addr)} {Xi : List Addr} {ρi : Sto} {w : Bool} {α β : Type} {g : α → D} {ds : List α} {f : α → Option β} {Acc : List β → Shared → Prop}
    {tgt : Expr} {ifs : List Expr} {it Dd : Addr} {body : (Shared → Prop) → Shared → Prop} {cd : Code} {A : Around} {R : Result → Shared → Prop} {s : Shared}
    (bmono : ∀ P P' s, body P s → (∀ s', P s' → P' s') → body P' s) (hA : Room n A) (hXi : Xi = envi.locals :: (Csi.map (·.2) ++ [])) (hρ : ∀ p ∈ ρi, ∃ d, p.2 = .val d) (hO : w = true → Own sci Csi)
    (hDV : Vi Dd) (hD0 : h0.get? Dd = none) (hit0 : h0.get? it = none) (hitX : it ∉ Xi) (hitV : ¬ Vi it) (hDX : Dd ∉ Xi)
    (hcode : ∀ I : Nat → Shared → Prop, (∀ n s, I n s → wpAny c.M A (pyNext (.ref it)) (fun r s₁ => match r with
      | none => R (.ok .next) s₁
      | some v => wpAny c.M A (letOwnedTupleGo tgt (.ref it) v) (fun _ s₁' => wpAny c.M A (assign tgt envi v) (fun _ s₂ =>
          wpAny c.M A (forIn ifs true fun c r => if r = true then do let ok ← isTrue c envi (eval c envi); pure (ForInStep.yield ok) else pure (ForInStep.yield r)) (fun ok s₃ =>
            if ok = true then body (fun s₅ => ∃ m, m < n ∧ I m s₅) s₃
            else ∃ m, m < n ∧ I m s₃) NoE s₂) NoE s₁') NoE s₁) NoE s) → ∀ n, I n s → codeAny c.M A cd R s)
    (F : Fm c sci envi Vi h0 Csi Xi ρi s) (hi : ItAt c (Vol Vi Xi) s it (ds.map g)) (hacc : Acc [] s)
    (acalm : ∀ rs s s', Acc rs s → Calm (Vol Vi Xi) s s' → (∀ o, s.heap.get? Dd = some o → s'.heap.get? Dd = some o) → Acc rs s')
    (alive : ∀ rs s, Acc rs s → ∃ o, s.heap.get? Dd = some o)
    (item : ∀ done d rest, ds = done ++ d :: rest → ∃ ρ₁, TgtG w c sci tgt (g d) ρi ρ₁ ∧ SubS ρi ρ₁ ∧ match f d with
      | some b => TstI c n sci ρ₁ ifs true ∧ ∀ X s, (∀ a ∈ Xi, a ∈ X) → Fm c sci envi Vi h0 Csi X ρ₁ s → Acc (done.filterMap f) s → body (fun s' => BodyPost Dd s s' ∧ Acc (done.filterMap f ++ [b]) s') s
      | none => TstI c n sci ρ₁ ifs false)
    (fin : ∀ s', Keeps h0 s'.heap → s.toks ≤ s'.toks → s'.gens = s.gens → s'.os = s.os → (∃ m, s'.heap.Ns envi.locals m) → Acc (ds.filterMap f) s' → R (.ok .next) s') : codeAny c.M A cd R s := by
  have hitD : it ≠ Dd := fun q => hitV (q ▸ hDV)
  refine hcode (fun kk s' => ∃ done rest, ds = done ++ rest ∧ kk = rest.length ∧ s'.gens = s.gens ∧ s'.os = s.os ∧ s.toks ≤ s'.toks ∧
      Fm c sci envi Vi h0 Csi Xi ρi s' ∧ ItAt c (Vol Vi Xi) s' it (rest.map g) ∧ Acc (done.filterMap f) s') ?_ ds.length ⟨[], ds, rfl, rfl, rfl, rfl, Nat.le_refl _, F, hi, hacc⟩
  rintro kk s' ⟨done, rest, rfl, rfl, hg, hos, htk, F', hi', hl'⟩
  have step : ∀ s₃, ItStep it s' s₃ → s₃.gens = s.gens ∧ s₃.os = s.os ∧ s.toks ≤ s₃.toks ∧ Fm c sci envi Vi h0 Csi Xi ρi s₃ ∧ Acc (done.filterMap f) s₃ := fun s₃ t =>
    ⟨t.gens.trans hg, t.os.trans hos, Nat.le_trans htk t.tok, F'.it hi' hitX hit0 hitV t, acalm _ _ _ hl' (t.calm hi' _) fun o e => t.keep _ _ (Ne.symm hitD) e⟩
  cases rest with
  | nil =>
    refine wpAny_mono (ItAt.stop hA.handled hi') (fun r s₃ q => ?_) fun _ _ q => q
    obtain ⟨rfl, t⟩ := q
    obtain ⟨k2, k3, k4, F₃, k6⟩ := step s₃ t
    obtain ⟨m₃, _, n₃, _⟩ := F₃.sto
    refine fin s₃ F₃.keep k4 k2 k3 ⟨m₃, n₃⟩ ?_
    simpa using k6
  | cons d rest =>
    refine wpAny_mono (ItAt.next hi') (fun r s₃ q => ?_) fun _ _ q => q
    obtain ⟨v, rfl, rv, hi₃, t⟩ := q
    obtain ⟨k2, k3, k4, F₃, k6⟩ := step s₃ t
    obtain ⟨ρ₁, htg, hsub, hm⟩ := item done d rest rfl
    refine lotg hi₃ (wpAny_mono (htg.run A envi Vi h0 Csi Xi s₃ v hA.zero hO F₃ rv) (fun _ s₄ q => ?_) fun _ _ q => q)
    obtain ⟨X₄, g₄, F₄⟩ := q
    have hsX : ∀ a ∈ Xi, a ∈ X₄ := fun a ha => by
      obtain ⟨_, fps, _, h2, _⟩ := F₄.sto
      rw [hXi, List.append_nil] at ha
      rw [h2]
      rcases List.mem_cons.mp ha with q | q
      · exact q ▸ .head _
      · exact .tail _ (List.mem_append_left _ q)
    have acc4 : Acc (done.filterMap f) s₄ := acalm _ _ _ k6 ⟨g₄.tok, fun b o nb e _ => g₄.keep b o (fun q => nb (.inr q)) e⟩ fun o e => g₄.keep _ _ hDX e
    have accG : ∀ s₅, Gr s₄ s₅ → Acc (done.filterMap f) s₅ := fun s₅ g₅ => acalm _ _ _ acc4 (g₅.calm _) fun o e => g₅.keep _ _ e
    have back : ∀ s₅, Gr s₄ s₅ → s₅.gens = s.gens ∧ s₅.os = s.os ∧ s.toks ≤ s₅.toks ∧ Fm c sci envi Vi h0 Csi Xi ρi s₅ ∧ ItAt c (Vol Vi Xi) s₅ it (rest.map g) := fun s₅ g₅ => by
      obtain ⟨X₅, hX₅, F₅⟩ := Ent.sub (c := c) (sc := sci) hsub envi Vi h0 Csi X₄ s₅ (F₄.gr g₅)
      have hfps : X₅ = Xi := by
        obtain ⟨_, fps, _, h2, _, _, _, h5⟩ := F₅.sto
        rw [h2, h5.vals hρ, hXi]
      subst hfps
      have g45 : Stp X₅ s₃ X₅ s₅ := (g₄.trans (Stp.of_gr g₅)).sub' hX₅
      exact ⟨(g₅.gens.trans g₄.gens).trans k2, (g₅.os.trans g₄.os).trans k3, Nat.le_trans k4 (Nat.le_trans g₄.tok g₅.tok), F₅, hi₃.stp hitX g45⟩
    cases hf : f d with
    | none =>
      rw [hf] at hm
      refine wpAny_mono (TstI.run hm A _ _ _ _ _ s₄ hA F₄) (fun ok s₅ q => ?_) fun _ _ q => q
      obtain ⟨g₅, rfl⟩ := q
      rw [if_neg Bool.false_ne_true]
      obtain ⟨j2, j3, j4, j5, j6⟩ := back s₅ g₅
      exact ⟨_, Nat.lt_succ_self _, done ++ [d], rest, by simp, rfl, j2, j3, j4, j5, j6, by simpa [hf] using accG s₅ g₅⟩
    | some b =>
      rw [hf] at hm
      refine wpAny_mono (hm.1.run A _ _ _ _ _ s₄ hA F₄) (fun ok s₅ q => ?_) fun _ _ q => q
      obtain ⟨g₅, rfl⟩ := q
      rw [if_pos rfl]
      refine bmono _ _ _ (hm.2 X₄ s₅ hsX (F₄.gr g₅) (accG s₅ g₅)) fun s₆ q => ?_
      obtain ⟨⟨s₇, h', tk, g₇, a5, htk7, hal, hcell, rfl⟩, hac⟩ := q
      obtain ⟨j2, j3, j4, j5, j6⟩ := back s₇ (g₅.trans g₇)
      have F8 := (j5.change hDV hD0 a5 hal hcell).toks (tk := tk) htk7
      refine ⟨_, Nat.lt_succ_self _, done ++ [d], rest, by simp, rfl, j2, j3, Nat.le_trans j4 htk7, F8, ?_, by simpa [hf] using hac⟩
      have hcm : Calm (Vol Vi Xi) s₇ { s₇ with heap := h', toks := tk } := ⟨htk7, fun b ob nb e _ => (a5.2 b fun q => nb (.inl (q ▸ hDV))).trans e⟩
      exact j6.carry (fun o e => (a5.2 _ hitD).trans e) (fun l o nl e => ⟨nl, (a5.2 l fun q : l = Dd => nl (.inl (q ▸ hDV))).trans e⟩) fun r => r.calm hcm fun _ q => q

/-- how a comprehension stands ahead of its loop -/
structure CSet (c : Cx) (sci : Scope) (envi : Env) (V0 : Addr → Prop) (X : List Addr) (s : Shared) (ρi : Sto) (ob : Obj) (ds : List D) (w : Bool) (Dd it : Addr) (Csi : List (Str × Addr)) (s₃ : Shared) : Prop where
  dn : s.heap.get? Dd = none
  cn : s.heap.get? envi.locals = none
  dc : Dd ≠ envi.locals
  itn : s.heap.get? it = none
  itX : it ∉ envi.locals :: (Csi.map (·.2) ++ [])
  itV : ¬ (Vol V0 X it ∨ it = Dd)
  dX : Dd ∉ envi.locals :: (Csi.map (·.2) ++ [])
  own : w = true → Own sci Csi
  fm : Fm c sci envi (fun a => Vol V0 X a ∨ a = Dd) s.heap Csi (envi.locals :: (Csi.map (·.2) ++ [])) ρi s₃
  at' : ItAt c (Vol (fun a => Vol V0 X a ∨ a = Dd) (envi.locals :: (Csi.map (·.2) ++ []))) s₃ it ds
  acc : s₃.heap.get? Dd = some ob
  tok : s.toks ≤ s₃.toks
  gens : s₃.gens = s.gens
  os : s₃.os = s.os
  sys : (Dd == sysModules) = false

/-- the head of a comprehension without cells of its own -/
theorem comp_setF {c : Cx} {n : Nat} {sc scope : Scope} {ρ ρi : Sto} {e tgt iter : Expr} {ifs : List Expr} {pos : Pos} {d₀ : D} {ds : List D} {use : Option (Value → Sem Unit)} {A : Around} {env : Env} {V0 : Addr → Prop} {h0 : Heap} {Cs : List (Str × Addr)} {X : List Addr} {s : Shared}
    {Q : Value → Shared → Prop} {newAcc : Sem Value} {ob : Obj} {w : Bool}
    (hA : Room n A) (F : Fm c sc env V0 h0 Cs X ρ s) (he : Ev c n sc true ρ iter d₀) (hit : IterR c d₀ ds) (hc : Capt sc scope ρ ρi) (hw : w = true → Own (relab sc scope) []) (hs : ∀ (env : Env) x, foldedSetIterable iter env x = pure x)
    (hcl : clausesOf e = [⟨tgt, iter, ifs, 0⟩]) (hfr : ob.isFreed = false)
    (hnew : ∀ (Q : Value → Shared → Prop) (s : Shared), Q (.ref s.heap.objs.size) { s with heap := s.heap.push ob } → wpAny c.M A newAcc Q NoE s)
    (hstart : ∀ (it acc : Value) (env : Env) (R : Result → Shared → Prop) (s : Shared), codeAny c.M A (.compLoop e 0 it acc env) R s →
      wpAny c.M A (pyIter it) (fun it' s' => codeAny c.M A (.compLoop e 0 it' acc env) R s') (notedBy c.M A env fun x s' => R (.error x) s') s → codeAny c.M A (.compStart e 0 it acc env) R s)
    (loop : ∀ Dd it envi Csi s₃, CSet c (relab sc scope) envi V0 X s ρi ob ds w Dd it Csi s₃ → codeAny c.M A (.compLoop e 0 (.ref it) (.ref Dd) envi) (compPost c.M A NoE use Q (.ref Dd) envi.locals) s₃) :
    wpAny c.M A (comprehension e scope env pos newAcc false (eval iter env) use) Q NoE s := by
  obtain ⟨cl, hclo, hclf, hcle⟩ := closure_of (scope := scope) (env := env) fun p hp hf => F.ccells _ (hc.free p hp hf)
  refine wpAny_comprehension_free (use := use) hcl (hs env) hclo hc.kind hc.names (wpAny_mono (he.run A env V0 h0 Cs X s hA F) (fun xv s₁ q₁ => ?_) fun _ _ q => q)
  refine wpAny_mono (hit A _ s₁ xv hA.zero ((F.st true).gr q₁.1) q₁.2) (fun itv s₂ q₂ => ?_) fun _ _ q => q
  obtain ⟨g₂, it, rfl, hitn, hi⟩ := q₂
  have hV : VK true V0 X = Vol V0 X := by funext a; simp [VK]
  rw [hV] at hi
  have g12 := q₁.1.trans g₂
  have hits : s.heap.get? it = none := by
    cases e : s.heap.get? it with
    | none => rfl
    | some o => have := q₁.1.keep _ _ e; rw [hitn] at this; cases this
  refine hnew _ _ (wpAny_newFunctionEnv hc.nocell (by intro y hy; simp at hy) (fun h₁ hns₁ hsb₁ => ?_) hc.kind)
  dsimp only at hns₁ hsb₁ ⊢
  have hsys : (s₂.heap.objs.size == sysModules) = false := by
    obtain ⟨_, _, _, e, _⟩ := ((F.good.g.keeps F.base).keeps F.keep).keeps g12.keep
    have := Heap.lt_size e
    have h3 : (3 : Nat) < s₂.heap.objs.size := this
    have : s₂.heap.objs.size ≠ (1 : Nat) := by omega
    simpa [sysModules] using this
  have hDn : s₂.heap.get? s₂.heap.objs.size = none := get_size _
  generalize hH : s₂.heap.push ob = H2 at hns₁ hsb₁ ⊢
  have hC : H2.objs.size = s₂.heap.objs.size + 1 := by rw [← hH, Heap.size_push]
  have hCn2 : s₂.heap.get? H2.objs.size = none := by
    cases e : s₂.heap.get? H2.objs.size with
    | none => rfl
    | some o => have := Heap.lt_size e; rw [hC] at this; exact absurd this (Nat.not_lt.mpr (Nat.le_succ _))
  have hDC : s₂.heap.objs.size ≠ H2.objs.size := by rw [hC]; exact Nat.ne_of_lt (Nat.lt_succ_self _)
  have hDh1 : h₁.get? s₂.heap.objs.size = some ob := by
    refine (hsb₁.2 _ hDC).trans (Heap.get?_push_of_some _ ?_)
    rw [← hH]; exact Heap.get?_push_size _ hfr
  have hk1 : Keeps s₂.heap h₁ := fun b o e => (hsb₁.2 b fun q => by rw [q, hCn2] at e; cases e).trans (Heap.get?_push_of_some _ (hH ▸ Heap.get?_push_of_some _ e))
  generalize s₂.heap.objs.size = Dd at hDn hDC hDh1 hsys ⊢
  generalize H2.objs.size = C at hns₁ hCn2 hDC ⊢
  have hDs : s.heap.get? Dd = none := by
    cases e : s.heap.get? Dd with
    | none => rfl
    | some o => have := g12.keep _ _ e; rw [hDn] at this; cases this
  have hCs' : s.heap.get? C = none := by
    cases e : s.heap.get? C with
    | none => rfl
    | some o => have := g12.keep _ _ e; rw [hCn2] at this; cases this
  have hF2 := F.gr g12
  have g23 : Gr s₂ { s₂ with heap := h₁, toks := s₂.toks + ([] : List (Str × Value)).length } := ⟨hk1, Nat.le_add_right _ _, rfl, rfl⟩
  have hDX : Dd ∉ X := fun q => by
    obtain ⟨_, _, _, _, _, h4, _, _⟩ := hF2.sto
    obtain ⟨o, e⟩ := h4 _ q; rw [hDn] at e; cases e
  have hCX : C ∉ X := fun q => by
    obtain ⟨_, _, _, _, _, h4, _, _⟩ := hF2.sto
    obtain ⟨o, e⟩ := h4 _ q; rw [hCn2] at e; cases e
  have hCV : ¬ V0 C := fun q => by obtain ⟨o, e⟩ := (hF2.live0 C q).1; rw [hCn2] at e; cases e
  have hDV : ¬ V0 Dd := fun q => by obtain ⟨o, e⟩ := (hF2.live0 Dd q).1; rw [hDn] at e; cases e
  let Vi : Addr → Prop := fun a => Vol V0 X a ∨ a = Dd
  have hCo : ∃ oC, h₁.get? C = some oC ∧ ∃ es ep, oC.data = .dict es ep := let ⟨o, es, ep, e, hd, _⟩ := hns₁; ⟨o, e, es, ep, hd⟩
  have Fi : Fm c (relab sc scope) (compEnvC scope cl C env) Vi s.heap [] [C] ρi { s₂ with heap := h₁, toks := s₂.toks + ([] : List (Str × Value)).length } := by
    refine ⟨F.good, ?_, hc.kind, F.globals, F.builtins, F.base.trans F.keep, g12.keep.trans hk1, (hF2.gr g23).tok, fun a q => ?_, fun x hx => ?_, fun a ha => ?_, (fun _ _ q => nomatch q), fun x y a hx hy => F.cinj _ _ _ (hcle _ _ hx) (hcle _ _ hy), ⟨_, [], hns₁, by simp [compEnvC], by simp, fun a ha => ?_, (fun p hp => nomatch hp), ?_⟩⟩
    · show relabel scope env = relab sc scope
      unfold relabel relab
      rw [← F.scope]; rfl
    · rcases q with q | rfl
      · refine ⟨?_, fun q' => ?_⟩
        · rcases q with q | q
          · obtain ⟨o, e⟩ := (hF2.live0 a q).1; exact ⟨o, hk1 _ _ e⟩
          · obtain ⟨_, _, _, _, _, h4, _, _⟩ := hF2.sto
            obtain ⟨o, e⟩ := h4 _ q; exact ⟨o, hk1 _ _ e⟩
        · rw [List.mem_singleton] at q'; subst q'
          exact q.elim hCV hCX
      · exact ⟨⟨_, hDh1⟩, fun q' => hDC (List.mem_singleton.mp q')⟩
    · have hm := hx.elim (fun h => relab_mem (.inl rfl) hc.nocell h) fun h => relab_mem (.inr rfl) hc.nocell h
      obtain ⟨a, ha⟩ := F.ccells _ (hc.free _ hm rfl)
      exact ⟨a, (hclf _ hm rfl).trans ha⟩
    · rw [List.mem_singleton] at ha; subst ha; exact hCs'
    · rw [List.mem_singleton] at ha; subst ha
      obtain ⟨o, e, _⟩ := hCo; exact ⟨o, e⟩
    · obtain ⟨m, fps, hn, hXX, hnd, hlv, hcel, hst⟩ := F.sto
      have key : ∀ (r : Sto), (∀ p ∈ r, p ∈ ρi) → StoR c (compEnvC scope cl C env) (Vol Vi [C]) { s₂ with heap := h₁, toks := s₂.toks + ([] : List (Str × Value)).length } (fun x => ([] : List (Str × Value)).reverse.lookup x) r [] := by
        intro r
        induction r with
        | nil => intro _; exact .nil
        | cons p r ih =>
          intro hp
          obtain ⟨x, sl⟩ := p
          obtain ⟨d, hd, hl, hfr, hcd⟩ := hc.sto _ (hp _ (.head _))
          simp only at hd hl hfr hcd
          subst hd
          obtain ⟨v, fp, lo, rp, _⟩ := hst.get hl
          cases rp with
          | val rp =>
            refine .cons (fp := []) (v := v) ?_ (.val ?_) (ih fun p hp' => hp p (.tail _ hp'))
            · have hm := mem_lookup hfr
              have hkk := hc.free _ hm rfl
              cases lo with
              | loc h1 _ =>
                have h1' : sc.names.lookup (Str.ofString x) = some .local := by rw [← F.scope]; exact h1
                rw [h1'] at hkk
                rcases hkk with q | q <;> cases q
              | @cell a o h1 h2 h3 h4 =>
                refine .cell (a := a) (o := o) ?_ ((hclf _ hm rfl).trans h2) (hk1 _ _ (g12.keep _ _ h3)) h4
                have hrl : (relabel scope env).names.lookup (Str.ofString x) = some .cell ∨ (relabel scope env).names.lookup (Str.ofString x) = some .free := relab_free (sc := env.scope) (scope := scope) hfr
                exact hrl.imp id fun q => ⟨q, hcd⟩
            · have r2 : Rep c (fun a => Vol V0 X a ∨ (a = Dd ∨ a = C)) s d v := rp.ext fun a q => by
                rcases q with rfl | rfl
                · exact hDs
                · exact hCs'
              refine (r2.gr (g12.trans g23)).weak fun a q => ?_
              rcases q with (q | q) | q
              · exact .inl q
              · exact .inr (.inl q)
              · exact .inr (.inr (List.mem_singleton.mp q))
      exact key ρi fun _ h => h
  have hitX : it ∉ X := fun q => by
    obtain ⟨_, _, _, _, _, h4, _, _⟩ := F.sto
    obtain ⟨o, e⟩ := h4 _ q; rw [hits] at e; cases e
  have hitV : ¬ V0 it := fun q => by obtain ⟨o, e⟩ := (F.live0 it q).1; rw [hits] at e; cases e
  have hitalive : ∃ o, s₂.heap.get? it = some o := let ⟨o, _, _, e, _⟩ := hi.fields; ⟨o, e⟩
  have hitD : it ≠ Dd := fun q => by obtain ⟨o, e⟩ := hitalive; rw [q, hDn] at e; cases e
  have hitC : it ≠ C := fun q => by obtain ⟨o, e⟩ := hitalive; rw [q, hCn2] at e; cases e
  have hAt : ItAt c (Vol Vi [C]) { s₂ with heap := h₁, toks := s₂.toks + ([] : List (Str × Value)).length } it ds := by
    have hv : ∀ l, ¬ Vol V0 X l → (∃ o, s₂.heap.get? l = some o) → ¬ Vol Vi [C] l := fun l nl hal q => by
      obtain ⟨o, e⟩ := hal
      rcases q with (q | q) | q
      · exact nl q
      · rw [q, hDn] at e; cases e
      · rw [List.mem_singleton.mp q, hCn2] at e; cases e
    have hrl : ∀ {dd vv}, RepL c (Vol V0 X) s₂ dd vv → RepL c (Vol Vi [C]) { s₂ with heap := h₁, toks := s₂.toks + ([] : List (Str × Value)).length } dd vv := fun r => by
      have r2 := r.ext (W := fun a => a = Dd ∨ a = C) fun a q => by
        rcases q with rfl | rfl
        · exact hDn
        · exact hCn2
      refine (r2.gr g23).weak fun a q => ?_
      rcases q with (q | q) | q
      · exact .inl q
      · exact .inr (.inl q)
      · exact .inr (.inr (List.mem_singleton.mp q))
    exact hi.carry (fun o e => hk1 _ _ e) (fun l o nl e => ⟨hv _ nl ⟨_, e⟩, hk1 _ _ e⟩) fun r => hrl r
  have L := loop Dd it (compEnvC scope cl C env) [] { s₂ with heap := h₁, toks := s₂.toks + ([] : List (Str × Value)).length }
    ⟨hDs, hCs', hDC, hits, fun q => hitC (List.mem_singleton.mp q), fun q => q.elim (fun q => q.elim hitV hitX) hitD, fun q => hDC (List.mem_singleton.mp q), hw, Fi, hAt, hDh1, Nat.le_trans g12.tok g23.tok, g12.gens, g12.os, hsys⟩
  refine hstart _ _ _ _ _ L ?_
  have hi1 : ItAt c Vol0 { s₂ with heap := h₁, toks := s₂.toks + ([] : List (Str × Value)).length } it ds := by
    have w : ∀ {dd vv}, RepL c (Vol V0 X) s₂ dd vv → RepL c Vol0 { s₂ with heap := h₁, toks := s₂.toks + ([] : List (Str × Value)).length } dd vv := fun r => (r.gr g23).weak fun _ q => q.elim
    exact hi.carry (fun o e => hk1 _ _ e) (fun l o nl e => ⟨id, hk1 _ _ e⟩) fun r => w r
  exact hi1.self L
end Mine
namespace Mine

end Mine
namespace Mine
section
variable {c : Cx} {n : Nat} {sc : Scope} {k : Bool} {ρ : Sto}

end
end Mine
namespace Mine

section
variable {c : Cx} {n : Nat} {sc : Scope} {k : Bool} {ρ : Sto}
/-- texts in their order -/
noncomputable def leL (a b : List Nat) : Bool := !decide (b < a)
noncomputable def srt (l : List (List Nat)) : List (List Nat) := l.mergeSort leL
theorem leL_trans (a b c : List Nat) (h1 : leL a b = true) (h2 : leL b c = true) : leL a c = true := by
  simp only [leL, Bool.not_eq_true', decide_eq_false_iff_not, List.not_lt] at h1 h2 ⊢
  exact List.le_trans h1 h2
theorem leL_total (a b : List Nat) : (leL a b || leL b a) = true := by
  simp only [leL, Bool.or_eq_true, Bool.not_eq_true', decide_eq_false_iff_not, List.not_lt]
  exact List.le_total a b
theorem leL_anti {a b : List Nat} (h1 : leL a b = true) (h2 : leL b a = true) : a = b := by
  simp only [leL, Bool.not_eq_true', decide_eq_false_iff_not, List.not_lt] at h1 h2
  exact List.le_antisymm h1 h2
theorem srt_eq {l l' : List (List Nat)} (hp : l'.Perm l) (hs : l'.Pairwise fun a b => leL a b = true) : l' = srt l :=
  List.Perm.eq_of_pairwise (fun a b _ _ h1 h2 => leL_anti h1 h2) hs (List.pairwise_mergeSort leL_trans leL_total l) (hp.trans (List.mergeSort_perm l leL).symm)
theorem srt_perm {l l' : List (List Nat)} (hp : l'.Perm l) : srt l' = srt l := srt_eq ((List.mergeSort_perm _ _).trans hp) (List.pairwise_mergeSort leL_trans leL_total l')
theorem risingS_pairwise : ∀ (p : Str) (l : List Str), risingS p l = true → (p :: l).Pairwise fun a b => leL a.cps.toList b.cps.toList = true
  | p, [], _ => by simp
  | p, x :: r, h => by
    have h' : (!Spec.ltCps x.cps.toList p.cps.toList && risingS x r) = true := h
    rw [Bool.and_eq_true] at h'
    have ih := risingS_pairwise x r h'.2
    have hpx : leL p.cps.toList x.cps.toList = true := by unfold leL; rw [← ltCps_eq]; exact h'.1
    refine List.pairwise_cons.mpr ⟨fun b hb => ?_, ih⟩
    rcases List.mem_cons.mp hb with rfl | hb
    · exact hpx
    · exact leL_trans _ _ _ hpx (List.rel_of_pairwise_cons ih hb)
theorem sortedS_pairwise : ∀ l : List Str, sortedS l = true → l.Pairwise fun a b => leL a.cps.toList b.cps.toList = true
  | [], _ => .nil
  | x :: r, h => risingS_pairwise x r h
theorem strsAre_of {V : Addr → Prop} {s : Shared} : ∀ {ls : List (List Nat)} {vs : List Value}, RepL c V s (ls.map sd) vs → StrsAre vs (ls.map S)
  | [], _, .nil => .nil
  | l :: ls, _, .cons r rs => by
    cases r with
    | str _ t => exact .cons _ _ (strsAre_of rs)
theorem rep_of_strs {V : Addr → Prop} {s : Shared} : ∀ {ss : List Str} {vs : List Value}, StrsAre vs ss → RepL c V s (ss.map fun x => sd x.cps.toList) vs
  | _, _, .nil => .nil
  | _, _, .cons y t r => .cons (by show Rep c V s (.str (S y.cps.toList)) _; rw [← S_of]; exact .str _ _) (rep_of_strs r)

/-- list.sort of texts -/
theorem sort_wp {A : Around} {E : Value → Shared → Prop} {s : Shared} {x : Value} {vs : List Value} {ls : List (List Nat)} {Q : Value → Shared → Prop} (hS : StrsAre vs (ls.map S)) (h64 : vs.length < 64)
    (hcol : ∀ R : List Value → Shared → Prop, (∀ h' tk, Keeps s.heap h' → R vs { s with heap := h', toks := tk }) → wpAny c.M A.in1 (collect x) R E s)
    (hQ : ∀ h' tk a o us m, Keeps s.heap h' → s.heap.get? a = none → h'.get? a = some o → o.cls = .type "list" → (o.dict = none ∧ o.slots = #[]) → o.data = .seq us m → StrsAre us.toList ((srt ls).map S) → Q (.ref a) { s with heap := h', toks := tk }) :
    wpAny c.M A (call (.builtin "sorted") [x]) Q E s := by
  refine Calls.call_function_entry kind_sorted plain_sorted entry_sorted (args_sorted1 _) ?_
  unfold Builtin.«sorted»
  refine wpAny_bind (m := checkCount "sorted" 1 1 _) (wpAny_pure ?_)
  refine wpAny_bind (hcol _ fun h₁ tk hk₁ => ?_)
  refine wpAny_bind (wpAny_newList ?_)
  have hoL : (h₁.push (seqObj "list" vs.toArray 0)).get? h₁.objs.size = some (seqObj "list" vs.toArray 0) := Heap.get?_push_size _ rfl
  show wpAny _ _ _ _ _ { s with heap := h₁.push (seqObj "list" vs.toArray 0), toks := tk }
  refine wpAny_bind (wpAny_holding (wpAny_call_entry slot_list_sort ⟨_, hoL, rfl⟩ entry_list_sort (list_sort_treeK strKind_oneLt hoL hS.keysOf (fun v₁ v₂ rest e => keyKind_strs (by rw [← e]; exact hS)) h64 fun st' a1 a2 => ⟨_, rfl, ?_⟩) (args_list_sort _)))
  refine wpAny_pure ⟨_, rfl, ?_⟩
  obtain ⟨ss', h1, h2, h3⟩ := sorted_out_str hS a1 a2
  obtain ⟨e, he⟩ := sortedHeap_at (out := (arrOf st').map (·.2)) hoL
  have hnone : s.heap.get? h₁.objs.size = none := by
    cases q : s.heap.get? h₁.objs.size with
    | none => rfl
    | some o => exact absurd (Heap.lt_size (hk₁ _ _ q)) (Nat.lt_irrefl _)
  refine hQ _ _ _ _ _ _ (fun b o q => ?_) hnone he rfl ⟨rfl, rfl⟩ rfl ?_
  · have hb := hk₁ _ _ q
    have hlt := Heap.lt_size hb
    rw [sortedHeap_old (Nat.ne_of_lt hlt) (by rw [Heap.size_push]; exact Nat.lt_succ_of_lt hlt)]
    exact Heap.get?_push_of_some _ hb
  · have e2 : ss'.map (fun x => x.cps.toList) = srt ls := by
      refine srt_eq ?_ ?_
      · have := h2.map fun x : Str => x.cps.toList
        rw [List.map_map] at this
        have e3 : ls.map ((fun x : Str => x.cps.toList) ∘ S) = ls := by
          conv => rhs; rw [← List.map_id ls]
          exact List.map_congr_left fun l _ => by simp
        rw [e3] at this; exact this
      · exact List.pairwise_map.mpr (sortedS_pairwise ss' h3)
    rw [← e2, List.map_map]
    have e4 : ss'.map (S ∘ fun x : Str => x.cps.toList) = ss' := by
      conv => rhs; rw [← List.map_id ss']
      exact List.map_congr_left fun x _ => (S_of x).symm
    rw [e4]; exact h1

theorem FnR.sortedL {ls : List (List Nat)} (h64 : ls.length < 64) : FnR c n (.builtin "sorted") [.list (ls.map sd)] (.list ((srt ls).map sd)) := .mk fun A V s vs hA hS r => by
  cases r with
  | cons r rs => cases rs; cases r with
    | @list a o us m _ na ho hcl hd hdt r =>
      have hlen : us.toList.length = ls.length := by rw [← r.length]; simp
      have hl : s.heap.IsList a us.toList.toArray := ⟨o, ho, hcl, m, by simpa using hdt⟩
      refine wp_end (sort_wp (c := c) (strsAre_of r) (by omega) (fun R hR => collect_list hl (hR _ s.toks fun b o' e => ?_) (by rw [sizeLine_eq]; omega)) fun h' tk a' o' us' m' hk hn ho' hc' hd' hdt' hSt => ⟨hk, rfl, rfl, fun _ => .list (fun q => ?_) ho' hc' hd' hdt' ?_⟩)
      · exact (Heap.get?_update_other _ _ (fun q => absurd (Heap.lt_size e) (by rw [← q]; exact Nat.lt_irrefl _))).trans (Heap.get?_push_of_some _ e)
      · obtain ⟨o2, e2⟩ := hS.live _ q; rw [hn] at e2; cases e2
      · have := rep_of_strs (c := c) (V := V) (s := { s with heap := h', toks := tk }) hSt
        rw [List.map_map] at this
        have e4 : (srt ls).map ((fun x : Str => sd x.cps.toList) ∘ S) = (srt ls).map sd := List.map_congr_left fun x _ => by simp
        rw [e4] at this; exact this

end
end Mine
namespace Mine
section
variable {c : Cx} {n : Nat} {sc : Scope} {k : Bool} {ρ : Sto}

end
end Mine
namespace Mine

end Mine
namespace Mine

end Mine
namespace Mine
section
variable {c : Cx} {n : Nat} {sc : Scope} {k : Bool} {ρ : Sto}

end
end Mine
namespace Mine
section
variable {c : Cx} {n : Nat} {sc : Scope} {k : Bool} {ρ ρ' : Sto} {P P' : AF → Sto → Prop} {env : Env} {V0 : Addr → Prop} {h0 : Heap} {Cs : List (Str × Addr)} {X : List Addr} {s s₁ : Shared} {A : Around}

/-- an own list, or one in it, is turned, and all is said again -/
theorem Opn.close2 {x : String} {sl sl' : List Slot} {a b : Addr} {fpi fps' : List Addr} {h' : Heap} {vs' : Array Value} {n' tk : Nat} (F : Fm c sc env V0 h0 Cs X ρ s) (O : Opn c env V0 Cs X ρ x sl a fpi fps' s) (hb : b ∈ a :: fpi) (hbo : ∃ ob xs nn, s.heap.get? b = some ob ∧ ob.data = .seq xs nn) (hbn : ∃ o', h'.get? b = some o')
    (hs : Heap.SameBut b s.heap h') (htk : s.toks ≤ tk)
    (ho : h'.get? a = some { cls := .type "list", data := .seq vs' n' }) (hr : RepSL c (Vol V0 X) { s with heap := h', toks := tk } sl' vs'.toList fpi) :
    ∃ X', Stp X s X' { s with heap := h', toks := tk } ∧ Fm c sc env V0 h0 Cs X' (setS ρ x (.own sl')) { s with heap := h', toks := tk } := by
  obtain ⟨m, h1, h2, h3⟩ := O.ns
  obtain ⟨ob, xs, nn, hob, hdb⟩ := hbo
  have hbX : b ∈ X := O.sub b (.tail _ (List.mem_append_right _ (List.mem_append_left _ hb)))
  have hnd := List.nodup_cons.mp O.nd
  have hnd2 := List.nodup_append.mp hnd.2
  have haL : env.locals ≠ b := fun q => hnd.1 (q ▸ List.mem_append_right _ (List.mem_append_left _ hb))
  have haC : ∀ p ∈ Cs, p.2 ≠ b := fun p hp q => hnd2.2.2 _ (List.mem_map_of_mem hp) b (List.mem_append_left _ hb) q
  have hcm : Calm (Vol V0 X) s { s with heap := h', toks := tk } := calm_at hs (.inr hbX) htk
  have hv : ∀ b, Vol V0 (env.locals :: (Cs.map (·.2) ++ ((a :: fpi) ++ fps'))) b → Vol V0 X b := fun b q => q.imp id (O.sub b)
  have ha0 : ∀ d o, h0.get? d = some o → d ≠ b := fun d o e q => by rw [q, F.new _ hbX] at e; cases e
  have haf : b ∉ fps' := fun q => (List.nodup_append.mp hnd2.2.1).2.2 b hb b q rfl
  have halive : ∀ d o, s.heap.get? d = some o → ∃ o', h'.get? d = some o' := fun d o e => by
    by_cases q : d = b
    · exact q ▸ hbn
    · exact ⟨o, (hs.2 d q).trans e⟩
  obtain ⟨_, _, _, _, _, hlv, hcl, _⟩ := F.sto
  refine ⟨_, ⟨fun d o hd e => (hs.2 d fun q => hd (q ▸ hbX)).trans e, htk, rfl, rfl, fun d hd => .inl (O.sub d hd), fun d _ o e => halive d o e⟩,
    ⟨F.good, F.scope, F.kind, F.globals, F.builtins, F.base, fun d o e => (hs.2 d (ha0 d o e)).trans (F.keep d o e), fun e => F.tok (Nat.le_zero.mp (e ▸ htk)), (fun d q => ?_), F.ccells, fun d hd => F.new d (O.sub d hd), F.cells, F.cinj,
      ⟨m, _, h1.sameBut hs haL, rfl, O.nd, fun d hd => ?_, fun p hp => ?_, .cons (v := .ref a) ?_ (.own ho rfl ⟨rfl, rfl⟩ rfl (hr.calm (Gr.calm (.refl _) _) hv fun _ _ _ e => e)) ?_⟩⟩⟩
  · obtain ⟨⟨o, e⟩, hx⟩ := F.live0 d q
    exact ⟨halive d o e, fun q' => hx (O.sub d q')⟩
  · obtain ⟨o, e⟩ := hlv d (O.sub d hd); exact halive d o e
  · obtain ⟨v₀, q⟩ := hcl p hp; exact ⟨v₀, q.sameBut hs (haC p hp)⟩
  · refine h2.calm (fun _ => rfl) fun d o w _ e hw => (hs.2 d fun q => ?_).trans e
    rw [q, hob] at e; cases e; rw [hdb] at hw; cases hw
  · refine StoR.weak hv (h3.change hcm (fun d hd o e => (hs.2 d fun q => haf (q ▸ hd)).trans e) (fun _ _ _ => rfl) fun p hp d o w _ e hw => (hs.2 d fun q => ?_).trans e)
    rw [q, hob] at e; cases e; rw [hdb] at hw; cases hw

/-- the own list at a place of an own list -/
theorem RepSL.inner {V : Addr → Prop} {s : Shared} {inner : List Slot} : ∀ {sl vs fp} {j : Nat}, RepSL c V s sl vs fp → fp.Nodup → sl[j]? = some (.own inner) →
    ∃ b ws nn fpj, vs[j]? = some (.ref b) ∧ b ∈ fp ∧ s.heap.get? b = some { cls := .type "list", data := .seq ws nn } ∧ RepSL c V s inner ws.toList fpj ∧ (b :: fpj).Nodup ∧ (∀ x ∈ fpj, x ∈ fp) ∧
      ∀ (s' : Shared) (inner' : List Slot) (ws' : Array Value) (nn' : Nat), Calm V s s' → (∀ x ∈ fp, x ≠ b → ∀ o, s.heap.get? x = some o → s'.heap.get? x = some o) → s'.heap.get? b = some { cls := .type "list", data := .seq ws' nn' } → RepSL c V s' inner' ws'.toList fpj → RepSL c V s' (sl.set j (.own inner')) vs fp
  | _, _, _, _, .nil, _, h => by simp at h
  | _, _, _, 0, .cons (fp := fp0) (fps := fps) r rs, hn, h => by
    simp at h; subst h
    cases r with
    | @own a o vs nn _ fpi ho hcl hd hdt rs' =>
      have hn1 := List.nodup_append.mp hn
      refine ⟨a, vs, nn, fpi, rfl, List.mem_append_left _ (.head _), by rw [← obj_eq hcl hd hdt]; exact ho, rs', hn1.1, fun x hx => List.mem_append_left _ (.tail _ hx), fun s' inner' ws' nn' hc hk hb hr => ?_⟩
      refine .cons (.own hb rfl ⟨rfl, rfl⟩ rfl hr) (rs.calm hc (fun _ q => q) fun x hx o e => hk x (List.mem_append_right _ hx) (fun q => ?_) o e)
      exact hn1.2.2 a (.head _) x hx q.symm
  | _, _, _, j + 1, .cons (fp := fp0) (fps := fps) r rs, hn, h => by
    have hn1 := List.nodup_append.mp hn
    obtain ⟨b, ws, nn, fpj, h1, h2, h3, h4, h5, h6, h7⟩ := rs.inner (j := j) hn1.2.1 (by simpa using h)
    refine ⟨b, ws, nn, fpj, by simpa using h1, List.mem_append_right _ h2, h3, h4, h5, fun x hx => List.mem_append_right _ (h6 x hx), fun s' inner' ws' nn' hc hk hb hr => ?_⟩
    refine .cons (r.calm hc (fun _ q => q) fun x hx o e => hk x (List.mem_append_left _ hx) (fun q => ?_) o e) (h7 s' inner' ws' nn' hc (fun x hx => hk x (List.mem_append_right _ hx)) hb hr)
    exact hn1.2.2 x hx b h2 q

/-- x[i].append(e), both own lists -/
theorem Sx.append2 {x : String} {ie e : Expr} {p sp ap pos epos : Pos} {sl inner : List Slot} {j : Nat} {d : D} (hx : ρ.lookup x = some (.own sl)) (hi : Ev c n sc true ρ ie (.int j)) (hj : sl[j]? = some (.own inner)) (h : Ev c n sc true ρ e d) (hz : inner.length ≤ 16777216) (hzo : sl.length ≤ 16777216) (hp : plainE e = true := by rfl) (hline : (ap.endLine == pos.line) = true := by rfl) (hxd : x ≠ "__debug__" := by decide)
    (hbase : ∀ env : Env, attributeBase (.Subscript (.Name (Str.ofString x) p) ie sp) (Str.ofString "append") env (eval (.Subscript (.Name (Str.ofString x) p) ie sp) env) = eval (.Subscript (.Name (Str.ofString x) p) ie sp) env := by intro _; rfl)
    (hsub : ∀ o i, subscripted ie false o i = operate [o, i] (getItem o i) := by intro _ _; rfl)
    (hs : ∀ env : Env, swapsWith (.Call (.Attribute (.Subscript (.Name (Str.ofString x) p) ie sp) (Str.ofString "append") ap) [e] [] pos) none epos.line env = pure false := by intro _; rfl) :
    Sn c n sc ρ (.Expr (.Call (.Attribute (.Subscript (.Name (Str.ofString x) p) ie sp) (Str.ofString "append") ap) [e] [] pos) epos) (setS ρ x (.own (sl.set j (.own (inner ++ [.val d]))))) := .mk fun A env V0 h0 Cs X s hA hO F => by
  obtain ⟨a, fpi, fps', O⟩ := F.opn hx
  have hint : interactive env = false := by
    unfold interactive
    rw [F.scope, F.kind]; rfl
  have hjl : j < sl.length := (List.getElem?_eq_some_iff.mp hj).1
  refine wpAny_Expr ?_ hint (hs env)
  refine wpAny_Call_method (T := "list") (id := "list.append") (hbase env) ?_ hline PySem.F.plainAttrs_list PySem.F.slot_list_append PySem.F.type_list_append ?_
  · rw [starEach_cons hp]; rfl
  have hnd : fpi.Nodup := (List.nodup_cons.mp (List.nodup_append.mp (List.nodup_append.mp (List.nodup_cons.mp O.nd).2).2.1).1).2
  refine Subscript_ (O.load F hxd (wpAny_mono (hi.run A env V0 h0 Cs X s hA F) (fun iv s₁ q₁ => ?_) fun _ _ q => q))
  obtain ⟨g₁, r₁⟩ := q₁
  cases r₁
  obtain ⟨vs, nn, h4, h5⟩ := (O.gr g₁).lst
  obtain ⟨b, ws, nb, fpj, i1, i2, i3, i4, i5, i6, i7⟩ := h5.inner hnd hj
  refine tail_any ⟨_, h4, rfl⟩ slot_list_getitem.lookup ?_ (hsub _ _)
  refine wpAny_getItem_list ⟨_, h4, rfl, _, rfl⟩ (by omega) (by omega) (by rw [Int.toNat_natCast]; rw [← Array.getElem?_toList]; exact i1) ?_
  refine ⟨⟨_, i3, rfl⟩, fun y hy => by cases hy; exact ⟨_, i3, rfl⟩, (Callee.builtin (c := c) "list.append").wp (first := [.ref b]) (by simp [hp]) ?_⟩
  refine wpAny_items_cons (wpAny_mono (h.run A env V0 h0 Cs X s₁ hA (F.gr g₁)) (fun v s₂ q₂ => wpAny_items_nil ⟨(F.gr (g₁.trans q₂.1)).base.trans (F.gr (g₁.trans q₂.1)).keep, ?_⟩) fun _ _ q => q.elim) (starEach_cons hp)
  have g2 := g₁.trans q₂.1
  have O2 := O.gr g2
  obtain ⟨vs2, nn2, h42, h52⟩ := O2.lst
  obtain ⟨b2, ws2, nb2, fpj2, k1, k2, k3, k4, k5, k6, k7⟩ := h52.inner hnd hj
  have hb2 : b2 = b := by
    have e1 := q₂.1.keep _ _ h4
    rw [e1] at h42
    cases h42
    rw [i1] at k1; cases k1; rfl
  subst hb2
  have hl := k4.length
  refine append_wp k3 rfl ⟨rfl, rfl⟩ rfl (fun h' o' n' e1 e2 e3 e4 e5 => ?_) (by simp at hl; omega)
  have hbX : b2 ∈ X := O.sub b2 (.tail _ (List.mem_append_right _ (List.mem_append_left _ (.tail _ k2))))
  have hcm : Calm (Vol V0 X) s₂ { s₂ with heap := h' } := calm_at (tk := s₂.toks) e5 (.inr hbX) (Nat.le_refl _)
  have hab : a ≠ b2 := fun q => (List.nodup_cons.mp (List.nodup_append.mp (List.nodup_append.mp (List.nodup_cons.mp O.nd).2).2.1).1).1 (q ▸ k2)
  obtain ⟨X', g, F'⟩ := O2.close2 (F.gr g2) (b := b2) (sl' := sl.set j (.own (inner ++ [.val d]))) (tk := s₂.toks) (.tail _ k2) ⟨_, _, _, k3, rfl⟩ ⟨_, e1⟩ e5 (Nat.le_refl _) ((e5.2 a hab).trans h42)
    (k7 { s₂ with heap := h' } (inner ++ [.val d]) (ws2.push v) n' hcm (fun y hy hne o e => (e5.2 y hne).trans e) (by rw [← obj_eq e2 e3 e4]; exact e1) (by
      rw [Array.toList_push]
      exact ((RepSL.snoc (q₂.2.weak fun _ q => ⟨rfl, q⟩) k4).calm hcm (fun _ q => q) fun y hy o e => (e5.2 y fun q => (List.nodup_cons.mp k5).1 (q ▸ hy)).trans e)))
  exact ⟨X', _, .next, (Stp.of_gr g2).trans g, F', .next, rfl, rfl⟩

theorem RepSL.app {V : Addr → Prop} {s : Shared} {ds : List D} {us : List Value} (r : RepL c V s ds us) : ∀ {sl vs fp}, RepSL c V s sl vs fp → RepSL c V s (sl ++ ds.map .val) (vs ++ us) fp
  | _, _, _, .nil => r.slots
  | _, _, _, .cons r0 rs => .cons r0 (RepSL.app r rs)

/-- x.extend(e) -/
theorem Sx.extend {x : String} {e : Expr} {p ap pos epos : Pos} {sl : List Slot} {ds : List D} (hx : ρ.lookup x = some (.own sl)) (h : Ev c n sc true ρ e (.list ds)) (hz : sl.length + ds.length ≤ 16777216) (hp : plainE e = true := by rfl) (hline : (ap.endLine == pos.line) = true := by rfl) (hxd : x ≠ "__debug__" := by decide)
    (hbase : ∀ env : Env, attributeBase (.Name (Str.ofString x) p) (Str.ofString "extend") env (eval (.Name (Str.ofString x) p) env) = eval (.Name (Str.ofString x) p) env := by intro _; rfl)
    (hs : ∀ env : Env, swapsWith (.Call (.Attribute (.Name (Str.ofString x) p) (Str.ofString "extend") ap) [e] [] pos) none epos.line env = pure false := by intro _; rfl) :
    Sn c n sc ρ (.Expr (.Call (.Attribute (.Name (Str.ofString x) p) (Str.ofString "extend") ap) [e] [] pos) epos) (setS ρ x (.own (sl ++ ds.map .val))) := .mk fun A env V0 h0 Cs X s hA hO F => by
  obtain ⟨a, fpi, fps', O⟩ := F.opn hx
  have hi : interactive env = false := by
    unfold interactive
    rw [F.scope, F.kind]; rfl
  refine wpAny_Expr ?_ hi (hs env)
  refine wpAny_Call_method (T := "list") (id := "list.extend") (hbase env) ?_ hline PySem.F.plainAttrs_list PySem.F.slot_list_extend PySem.F.type_list_extend ?_
  · rw [starEach_cons hp]; rfl
  refine O.load F hxd ?_
  obtain ⟨vs, nn, h4, h5⟩ := O.lst
  refine ⟨⟨_, h4, rfl⟩, fun b hb => by cases hb; exact ⟨_, h4, rfl⟩, (Callee.builtin (c := c) "list.extend").wp (first := [.ref a]) (by simp [hp]) ?_⟩
  refine wpAny_items_cons (wpAny_mono (h.run A env V0 h0 Cs X s hA F) (fun v s₁ q₁ => wpAny_items_nil ⟨(F.gr q₁.1).base.trans (F.gr q₁.1).keep, ?_⟩) fun _ _ q => q.elim) (starEach_cons hp)
  obtain ⟨g₁, r₁⟩ := q₁
  obtain ⟨vs, nn, h4, h5⟩ := (O.gr g₁).lst
  have hl := h5.length
  cases r₁ with
  | @list b o us m _ na ho hcl hd hdt r =>
    have hlr := r.length
    have hob : s₁.heap.get? b = some { cls := .type "list", dict := none, data := .seq us m, slots := #[] } := by rw [← obj_eq hcl hd hdt]; exact ho
    have hsz : vs.size + us.size ≤ sizeLine := by rw [sizeLine_eq]; simp at hl hlr; omega
    refine call_meets PySem.F.slot_list_extend ⟨_, h4, rfl⟩ PySem.F.entry_list_extend (PySem.F.args_list_extend_2 _ _) (AutoSeq1.list_extend_list_list_0 a vs nn b us m (extend_door hsz) (Nat.le_trans (Nat.le_add_right _ _) hsz) (Nat.le_succ_of_le hsz)) ⟨h4, hob, ?_⟩
    have e5 : Heap.SameBut a s₁.heap (s₁.heap.update a (Obj.mapSeq fun x => x ++ us)) := Heap.SameBut.update ..
    have e1 : (s₁.heap.update a (Obj.mapSeq fun x => x ++ us)).get? a = some { cls := .type "list", data := .seq (vs ++ us) (if (vs ++ us).size == vs.size then nn else nn + 1) } := by
      rw [Heap.get?_update_self _ h4 (by rw [mapSeq_app]; rfl), mapSeq_app]
    have hcm : Calm (Vol V0 X) s₁ { s₁ with heap := s₁.heap.update a (Obj.mapSeq fun x => x ++ us) } := calm_at (tk := s₁.toks) e5 (.inr O.aX) (Nat.le_refl _)
    have hnd := (List.nodup_append.mp (List.nodup_cons.mp O.nd).2).2.1
    have haf : a ∉ fpi := fun q => (List.nodup_cons.mp hnd).1 (List.mem_append_left _ q)
    obtain ⟨X', g, F'⟩ := (O.gr g₁).close (F.gr g₁) (sl' := sl ++ ds.map .val) (tk := s₁.toks) e5 (Nat.le_refl _) e1 (by
      rw [Array.toList_append]
      exact ((RepSL.app (r.weak fun _ q => ⟨rfl, q⟩) h5).calm hcm (fun _ q => q) fun b hb o e => (e5.2 b fun q => haf (q ▸ hb)).trans e))
    exact ⟨X', _, .next, (Stp.of_gr g₁).trans g, F', .next, rfl, rfl⟩

/-- an item of an own list -/
theorem Ev.itemOwn {x : String} {ie : Expr} {p pos : Pos} {sl : List Slot} {j : Nat} {d : D} (hx : ρ.lookup x = some (.own sl)) (hi : Ev c n sc true ρ ie (.int j)) (hj : sl[j]? = some (.val d)) (hz : sl.length ≤ 16777216) (hxd : x ≠ "__debug__" := by decide)
    (hsub : ∀ o i, subscripted ie false o i = operate [o, i] (getItem o i) := by intro _ _; rfl) : Ev c n sc k ρ (.Subscript (.Name (Str.ofString x) p) ie pos) d := Ev.weak <| .mk fun A env V0 h0 Cs X s hA F => by
  obtain ⟨a, fpi, fps', O⟩ := F.opn hx
  have hjl : j < sl.length := (List.getElem?_eq_some_iff.mp hj).1
  refine Subscript_ (O.load F hxd (wpAny_mono (hi.run A env V0 h0 Cs X s hA F) (fun iv s₁ q₁ => ?_) fun _ _ q => q))
  obtain ⟨g₁, r₁⟩ := q₁
  cases r₁
  obtain ⟨vs, nn, h4, h5⟩ := (O.gr g₁).lst
  obtain ⟨v, hv, rv⟩ := h5.get hj
  refine tail_any ⟨_, h4, rfl⟩ slot_list_getitem.lookup ?_ (hsub _ _)
  refine wpAny_getItem_list ⟨_, h4, rfl, _, rfl⟩ (by omega) (by omega) (by rw [Int.toNat_natCast]; rw [← Array.getElem?_toList]; exact hv) ⟨g₁, rv.weak fun _ q => q.2⟩
end
end Mine
namespace Mine

/-- a heap without some places -/
noncomputable def hide (h : Heap) : List Addr → Heap
  | [] => h
  | a :: r => (hide h r).update a fun o => { o with data := .freed }
theorem hide_off {h : Heap} {b : Addr} : ∀ {l : List Addr}, b ∉ l → (hide h l).get? b = h.get? b
  | [], _ => rfl
  | a :: r, hb => by
    have h1 : a ≠ b := fun q => hb (q ▸ .head _)
    show ((hide h r).update a _).get? b = _
    rw [Heap.get?_update_other _ _ h1]
    exact hide_off fun q => hb (.tail _ q)
theorem hide_on {h : Heap} {b : Addr} : ∀ {l : List Addr}, b ∈ l → (hide h l).get? b = none
  | a :: r, hb => by
    show ((hide h r).update a _).get? b = none
    by_cases h1 : a = b
    · subst h1
      generalize hide h r = g
      obtain ⟨objs, l⟩ := g
      simp only [Heap.update, Heap.get?, Array.getElem?_modify, if_true]
      cases objs[a]? <;> rfl
    · rw [Heap.get?_update_other _ _ h1]
      rcases List.mem_cons.mp hb with q | q
      · exact absurd q.symm h1
      · exact hide_on q

section
variable {c : Cx} {n : Nat} {sc : Scope} {k : Bool} {ρ : Sto}

/-- the list of fresh empty lists that a comprehension fills -/
noncomputable def AccN (V : Addr → Prop) (h0 : Heap) (Dd : Addr) (rs : List Unit) (s : Shared) : Prop :=
  ∃ (nn : Nat) (fp : List Addr), s.heap.get? Dd = some { cls := .type "list", data := .seq (fp.map Value.ref).toArray nn } ∧ fp.length = rs.length ∧ fp.Nodup ∧ ∀ a ∈ fp, h0.get? a = none ∧ a ≠ Dd ∧ ¬ V a ∧ ∃ m, s.heap.get? a = some { cls := .type "list", data := .seq #[] m }
theorem reps_new {V : Addr → Prop} {s : Shared} : ∀ {fp : List Addr}, (∀ a ∈ fp, ∃ m, s.heap.get? a = some { cls := .type "list", data := .seq #[] m }) → RepSL c V s (List.replicate fp.length (.own [])) (fp.map Value.ref) fp
  | [], _ => .nil
  | a :: fp, h => by
    obtain ⟨m, e⟩ := h a (.head _)
    exact .cons (fp := [a]) (.own e rfl ⟨rfl, rfl⟩ rfl .nil) (reps_new fun b hb => h b (.tail _ hb))

/-- y = [[] for .. in ..] -/
theorem Sx.compNew {tgt iter : Expr} {scope : Scope} {lp pos spos p : Pos} {y : String} {d₀ : D} {α : Type} {g : α → D} {ds : List α} (he : Ev c n sc true ρ iter d₀) (hit : IterR c d₀ (ds.map g)) (hc : Capt sc scope ρ []) (hz : ds.length ≤ 16777216)
    (item : ∀ d ∈ ds, ∃ ρ₁, TgtG false c (relab sc scope) tgt (g d) [] ρ₁)
    (hk : sc.names.lookup (Str.ofString y) = some .local) (hf : sc.kind = .function) (hl : (p.line == pos.line) = true)
    (hn : (scope.names.any fun (n, k) => n == Str.ofString y && (k == .local || k == .cell)) = false)
    (hs : ∀ (env : Env) x, foldedSetIterable iter env x = pure x := by intro _ _; rfl) :
    Sn c n sc ρ (.Assign [.Name (Str.ofString y) p] (.ListComp (.List [] lp) [⟨tgt, iter, [], 0⟩] scope pos) spos) (setS ρ y (.own (List.replicate ds.length (.own [])))) := .mk fun A env V0 h0 Cs X s hA hO F => by
  rw [exec_Assign_Name_used _ _ _ _ (swaps_local hk hf hl hn env F.scope)]
  refine wpAny_bind (wpAny_standAt (wpAny_bind ?_))
  show wpAny _ A (do let _ ← comprehension (.ListComp (.List [] lp) [⟨tgt, iter, [], 0⟩] scope pos) scope env _ (newList []) false (eval iter env) (some (PySem.assign (.Name (Str.ofString y) p) env))) _ _ s
  refine wpAny_bind (wpAny_mono (Q := fun _ s' => SPost c sc env V0 h0 Cs X s (fun af ρ' => af = .next ∧ ρ' = setS ρ y (.own (List.replicate ds.length (.own [])))) .next s') (E := NoE) ?_ (fun _ s' hq => wpAny_pure (wpAny_pure hq)) fun _ _ e => e)
  refine comp_setF (w := false) (ob := { cls := .type "list", dict := Option.none, data := .seq ([] : List Value).toArray }) hA F he hit hc (fun q => nomatch q) hs rfl rfl (fun Q s h => wpAny_newObj_type h) (fun it acc env R s h1 h2 => codeAny_compStart_list h1 h2) fun Dd it envi Csi s₃ T => ?_
  have hlv := (F.st true).live
  refine comp_loopG (w := false) (body := fun P s => wpAny c.M A (PySem.eval (.List [] lp) envi) (fun x s₄ => wpAny c.M A (PySem.call (Value.builtin "list.append") [.ref Dd, x]) (fun _ s₅ => P s₅) NoE s₄) NoE s) (f := fun d => some ()) (tgt := tgt) (ifs := [])
    (Acc := AccN (Vol (fun a => Vol V0 X a ∨ a = Dd) (envi.locals :: (Csi.map (·.2) ++ []))) s.heap Dd)
    (fun P P' s h hp => wpAny_mono h (fun x s₄ q => wpAny_mono q (fun _ s₅ q => hp _ q) fun _ _ q => q) fun _ _ q => q) hA rfl (fun p hp => absurd hp List.not_mem_nil) T.own (.inr rfl) T.dn T.itn T.itX T.itV T.dX (fun I turn m hI => code_comp I turn m hI) T.fm T.at' ⟨0, [], T.acc, rfl, .nil, fun a ha => nomatch ha⟩
    (fun rs s s' h hc hk => ?_) (fun rs s ⟨_, _, h, _⟩ => ⟨_, h⟩) ?_ ?_
  · obtain ⟨nn, fp, h1, h2, h3, h4⟩ := h
    refine ⟨nn, fp, hk _ h1, h2, h3, fun a ha => ?_⟩
    obtain ⟨q1, q2, q3, m, q4⟩ := h4 a ha
    exact ⟨q1, q2, q3, m, hc.2 a _ q3 q4 (.inl ⟨_, _, rfl⟩)⟩
  · intro done d rest e
    obtain ⟨ρ₁, ht⟩ := item d (e ▸ List.mem_append_right _ (.head _))
    refine ⟨ρ₁, ht, .nil, .nil, fun X₄ s₄ hX F₄ hac => ?_⟩
    obtain ⟨nn, fp, l1, l2, l3, l4⟩ := hac
    refine wpAny_List (wpAny_items_nil ⟨by decide, ?_⟩)
    have g₅ := Gr.push (s := s₄) { cls := .type "list", data := .seq ([] : List Value).toArray }
    have hnew : s₄.heap.get? s₄.heap.objs.size = none := get_size _
    have j7 := g₅.keep _ _ l1
    refine append_wp j7 rfl ⟨rfl, rfl⟩ rfl (fun h' o' n' a1 a2 a3 a4 a5 => ?_) ?_
    · refine ⟨⟨_, h', s₄.toks, g₅, a5, Nat.le_refl _, ⟨_, a1⟩, (fun ob w e hw => by rw [j7] at e; cases e; cases hw), rfl⟩, n', fp ++ [s₄.heap.objs.size], ?_, ?_, ?_, ?_⟩
      · have e2 : (fp.map Value.ref).toArray.push (.ref s₄.heap.objs.size) = ((fp ++ [s₄.heap.objs.size]).map Value.ref).toArray := by simp
        rw [← e2, ← obj_eq a2 a3 a4]; exact a1
      · rw [List.length_append, l2]; simp
      · refine List.nodup_append.mpr ⟨l3, by simp, fun x hx z hz e => ?_⟩
        rw [List.mem_singleton] at hz; subst hz; subst e
        obtain ⟨_, _, _, m, q⟩ := l4 _ hx
        rw [hnew] at q; cases q
      · intro a ha
        rcases List.mem_append.mp ha with ha | ha
        · obtain ⟨q1, q2, q3, m, q4⟩ := l4 a ha
          exact ⟨q1, q2, q3, m, (a5.2 a q2).trans (g₅.keep _ _ q4)⟩
        · rw [List.mem_singleton] at ha; subst ha
          have hne : s₄.heap.objs.size ≠ Dd := fun q => by rw [q, l1] at hnew; cases hnew
          refine ⟨?_, hne, fun q => ?_, 0, (a5.2 _ hne).trans (Heap.get?_push_size _ rfl)⟩
          · cases e : s.heap.get? s₄.heap.objs.size with
            | none => rfl
            | some o => have := F₄.keep _ _ e; rw [hnew] at this; cases this
          · rcases q with q | q
            · obtain ⟨o, e⟩ := (F₄.live0 _ q).1; rw [hnew] at e; cases e
            · obtain ⟨_, _, _, _, _, h4, _, _⟩ := F₄.sto
              obtain ⟨o, e⟩ := h4 _ (hX _ q); rw [hnew] at e; cases e
    · have := congrArg List.length e
      simp only [List.length_append, List.length_cons] at this
      have h2 := List.length_filterMap_le (fun _ : α => some ()) done
      simp
      omega
  · intro s' hkk ht hgn hos hm hac
    obtain ⟨m, hm⟩ := hm
    obtain ⟨nn, fp, l1, l2, l3, l4⟩ := hac
    have hlen : fp.length = ds.length := by rw [l2]; simp [List.filterMap_eq_map]
    generalize hCe : envi.locals = C at hm
    have hC : s.heap.get? C = none := hCe ▸ T.cn
    have hDC : Dd ≠ C := hCe ▸ T.dc
    have gr : Gr s s' := ⟨hkk, Nat.le_trans T.tok ht, hgn.trans T.gens, hos.trans T.os⟩
    obtain ⟨oC, es, ep, eC, dC, _⟩ := id hm
    have hCfp : C ∉ Dd :: fp := fun q => by
      rcases List.mem_cons.mp q with q | q
      · exact hDC q.symm
      · exact (l4 C q).2.2.1 (.inr (hCe ▸ .head _))
    have hDfp : Dd ∉ fp := fun q => (l4 Dd q).2.1 rfl
    have hoff : ∀ b o, s.heap.get? b = some o → b ∉ Dd :: fp := fun b o e q => by
      rcases List.mem_cons.mp q with q | q
      · rw [q, T.dn] at e; cases e
      · rw [(l4 b q).1] at e; cases e
    -- the state without the new lists
    have gr0 : Gr s { s' with heap := hide s'.heap (Dd :: fp) } := ⟨fun b o e => (hide_off (hoff b o e)).trans (gr.keep b o e), gr.tok, gr.gens, gr.os⟩
    have gr1 : Gr { s' with heap := hide s'.heap (Dd :: fp) } s' := ⟨fun b o e => by
      by_cases q : b ∈ Dd :: fp
      · have : (hide s'.heap (Dd :: fp)).get? b = some o := e
        rw [hide_on q] at this; cases this
      · have : (hide s'.heap (Dd :: fp)).get? b = some o := e
        rwa [hide_off q] at this, Nat.le_refl _, rfl, rfl⟩
    have FC := F.addV hC gr0 ⟨oC, (hide_off hCfp).trans eC⟩
    show wpAny c.M A (PySem.assign (.Name (Str.ofString y) p) env (.ref Dd)) _ _ s'
    have rD : RepS c (Vol (fun b => V0 b ∨ b = C) (X ++ (Dd :: fp))) s' (.own (List.replicate ds.length (.own []))) (.ref Dd) (Dd :: fp) := by
      refine .own l1 rfl ⟨rfl, rfl⟩ rfl ?_
      rw [← hlen]
      exact reps_new fun a ha => (l4 a ha).2.2.2
    refine wpAny_assign_Name (wpAny_mono (FC.store gr1 (hO _) (.inl hk) rD (List.nodup_cons.mpr ⟨hDfp, l3⟩) fun a ha => hide_on ha) (fun _ s'' q => ?_) fun _ _ q => q)
    obtain ⟨X', gg, F''⟩ := q
    have hCX' : C ∉ X' := (F''.live0 C (.inr rfl)).2
    have hCX : C ∉ X := (FC.live0 C (.inr rfl)).2
    have eC'' : s''.heap.get? C = some oC := gg.keep _ _ hCX ((hide_off hCfp).trans eC)
    refine ⟨m, ?_, fun h' hs' => ?_⟩
    · obtain ⟨o1, es1, ep1, e1, r1⟩ := hm; rw [eC] at e1; cases e1; exact ⟨oC, es1, ep1, eC'', r1⟩
    have hVC : ¬ V0 C := fun q => by obtain ⟨o', e⟩ := hlv _ ⟨rfl, .inl q⟩; rw [hC] at e; cases e
    have hn0 : h0.get? C = none := by
      cases e : h0.get? C with
      | none => rfl
      | some o => have := F.keep _ _ e; rw [hC] at this; cases this
    have F₃ := F''.changeOff hVC hn0 hs' (fun ob w e hw => by rw [eC''] at e; cases e; rw [dC] at hw; cases hw)
    have st := (Stp.of_gr (X := X) gr0).trans gg
    refine ⟨X', _, .next, ⟨fun b ob hb e => (hs'.2 b fun q => by rw [q, hC] at e; cases e).trans (st.keep b ob hb e), st.tok, st.gens, st.os, st.new, fun b hb ob e => ?_⟩, F₃, .next, rfl, rfl⟩
    obtain ⟨o', e'⟩ := st.live b hb ob e
    exact ⟨o', (hs'.2 b fun q => by rw [q, hC] at e; cases e).trans e'⟩
end
end Mine
namespace Mine

structure SB (κ : KeyKind) (a₀ : Array Keyed) (pend : Array (Nat × Nat × Nat)) (st : SortSt) : Prop where
  perm : (arrOf st).Perm a₀
  kind : kindOf st = oneType'
  failed : failedOf st = none
  pend : pendingOf st = pend
  keys : KeysOf κ a₀
  dist : (a₀.toList.map fun p => (κ.keyOf p.1).getD κ.dflt).Nodup

section
variable {prog : Program} {w : World} {A : Around} {E : Value → Shared → Prop} {s : Shared} {a₀ : Array Keyed} {κ : KeyKind} {pend : Array (Nat × Nat × Nat)}

theorem SB.size {st : SortSt} (h : SB κ a₀ pend st) : (arrOf st).size = a₀.size := h.perm.size_eq
theorem SB.setArr {st : SortSt} (h : SB κ a₀ pend st) {xs : Array Keyed} (hp : xs.Perm (arrOf st)) : SB κ a₀ pend (setArr st xs) :=
  ⟨hp.trans h.perm, h.kind, h.failed, h.pend, h.keys, h.dist⟩
theorem SB.at {st : SortSt} (h : SB κ a₀ pend st) {i : Nat} (hi : i < a₀.size) :
    ∃ x p a, (arrOf st)[i]? = some (x, p) ∧ κ.keyOf x = some a ∧ KK κ (arrOf st) i = a := by
  have hi' : i < (arrOf st).size := by rw [h.size]; exact hi
  have hm : (arrOf st)[i] ∈ a₀.toList := (Array.perm_iff_toList_perm.mp h.perm).mem_iff.mp (by simp)
  obtain ⟨a, ha⟩ := h.keys _ hm
  have e : (arrOf st)[i]? = some (arrOf st)[i] := getElem?_pos _ i hi'
  exact ⟨_, _, a, e, ha, by unfold KK; rw [e]; simp [ha]⟩
theorem KK_at {xs : Array Keyed} {i : Nat} (hi : i < xs.size) : KK κ xs i = (κ.keyOf xs[i].1).getD κ.dflt := by
  unfold KK; rw [getElem?_pos xs i hi]
theorem SB.ne {st : SortSt} (h : SB κ a₀ pend st) {i j : Nat} (hi : i < a₀.size) (hj : j < a₀.size) (hij : i ≠ j) : KK κ (arrOf st) i ≠ KK κ (arrOf st) j := by
  have hi' : i < (arrOf st).size := by rw [h.size]; exact hi
  have hj' : j < (arrOf st).size := by rw [h.size]; exact hj
  rw [KK_at hi', KK_at hj']
  have hn : ((arrOf st).toList.map fun p => (κ.keyOf p.1).getD κ.dflt).Nodup := (((Array.perm_iff_toList_perm.mp h.perm).map _).nodup_iff).mpr h.dist
  intro e
  apply hij
  have := (List.getElem_inj (h₀ := by simpa using hi') (h₁ := by simpa using hj') hn).mp (by simpa using e)
  exact this
/-- two keys, unlike: the one is below the other -/
theorem SB.lt_of {st : SortSt} (h : SB κ a₀ pend st) {i j : Nat} (hi : i < a₀.size) (hj : j < a₀.size) (hij : i ≠ j) (hb : κ.blt (KK κ (arrOf st) i) (KK κ (arrOf st) j) = false) : κ.klt (KK κ (arrOf st) j) (KK κ (arrOf st) i) := by
  unfold KeyOrd.klt
  cases e : κ.blt (KK κ (arrOf st) j) (KK κ (arrOf st) i) with
  | true => rfl
  | false => exact absurd (κ.total _ _ hb e) (h.ne hi hj hij)

theorem wpS_lt2 {st : SortSt} {x y : Keyed} {a b : κ.α} {Q : Option Bool → SortSt → Prop} (hO : κ.OneLt) (hk : kindOf st = oneType') (ha : κ.keyOf x.1 = some a) (hb : κ.keyOf y.1 = some b) (h : Q (some (κ.blt a b)) st) :
    wpS (model prog w) A E s (lt' x y) Q st := by
  rw [lt'_eq]
  refine wpS_bind (wpS_get ?_)
  rw [hk, keyLt'_oneType]
  refine wpS_bind (wpS_lift (wpAny_attempt (hO prog w A _ s x.1 y.1 a b ha hb ⟨rfl, ?_⟩)))
  exact wpS_pure h
theorem wpS_elem {st : SortSt} {xs : Array Keyed} {i : Nat} {p : Keyed} {Q : Keyed → SortSt → Prop} (hi : xs[i]? = some p) (h : Q p st) : wpS (model prog w) A E s (elem' xs i) Q st := by
  rw [elem'_eq, hi]; exact wpS_pure h
theorem wpS_ltAt2 {st : SortSt} {i j : Nat} {Q : Option Bool → SortSt → Prop} (hO : κ.OneLt) (hB : SB κ a₀ pend st) (hi : i < a₀.size) (hj : j < a₀.size)
    (h : Q (some (κ.blt (KK κ (arrOf st) i) (KK κ (arrOf st) j))) st) : wpS (model prog w) A E s (ltAt' i j) Q st := by
  obtain ⟨x, p, a, e1, ha, ka⟩ := hB.at hi
  obtain ⟨y, q, b, e2, hb, kb⟩ := hB.at hj
  rw [ka, kb] at h
  exact wpS_ltAtK hO hB.kind e1 e2 ha hb h

noncomputable def Srt (κ : KeyKind) (xs : Array Keyed) (lo hi : Nat) : Prop := ∀ i j, lo ≤ i → i ≤ j → j < hi → κ.kle (KK κ xs i) (KK κ xs j)
noncomputable def Same (xs ys : Array Keyed) (lo : Nat) : Prop := ∀ i, i < lo → xs[i]? = ys[i]?
theorem Srt.same {xs ys : Array Keyed} {lo a b : Nat} (h : Same xs ys lo) (hb : b ≤ lo) (q : Srt κ ys a b) : Srt κ xs a b := fun i j h1 h2 h3 => by
  rw [KK_congr (h i (by omega)), KK_congr (h j (by omega))]; exact q i j h1 h2 h3

theorem Srt.one {xs : Array Keyed} {lo : Nat} : Srt κ xs lo (lo + 1) := fun i j h1 h2 h3 => by
  have : i = j := by omega
  subst this; exact KeyOrd.kle_refl _
theorem Srt.more {xs : Array Keyed} {lo n : Nat} (h : Srt κ xs lo (lo + n)) (hn : 1 ≤ n) (hb : κ.blt (KK κ xs (lo + n)) (KK κ xs (lo + n - 1)) = false) : Srt κ xs lo (lo + n + 1) := fun i j h1 h2 h3 => by
  by_cases hj : j < lo + n
  · exact h i j h1 h2 hj
  · have : j = lo + n := by omega
    subst this
    by_cases hi : i = lo + n
    · subst hi; exact KeyOrd.kle_refl _
    · exact KeyOrd.kle_trans (h i (lo + n - 1) h1 (by omega) (by omega)) hb

theorem wpS_countRunLo {st : SortSt} {lo nrem : Nat} {Q : Option Nat → SortSt → Prop} (hO : κ.OneLt) (hB : SB κ a₀ pend st) (hn : lo + nrem ≤ a₀.size) (h1 : 1 ≤ nrem)
    (h : ∀ m st', SB κ a₀ pend st' → 1 ≤ m → m ≤ nrem → Srt κ (arrOf st') lo (lo + m) → Same (arrOf st') (arrOf st) lo → Q (some m) st') :
    wpS (model prog w) A E s (countRun' lo nrem) Q st := by
  rw [countRun'_eq]
  refine wpS_bind (wpS_mono (wpS_forRange (I := fun x c st' => st' = st ∧ c = (none, x) ∧ Srt κ (arrOf st) lo (lo + x))
    (Q := fun c st' => st' = st ∧ ∃ n, c = (none, n) ∧ 1 ≤ n ∧ n ≤ nrem ∧ Srt κ (arrOf st) lo (lo + n) ∧ (n = nrem ∨ κ.klt (KK κ (arrOf st) (lo + n)) (KK κ (arrOf st) (lo + n - 1)))) ?_ ?_ ⟨rfl, rfl, Srt.one⟩) ?_)
  · rintro x c st' hx hxn ⟨rfl, rfl, hs⟩
    dsimp only
    refine wpS_bind (wpS_ltAt2 hO hB (by omega) (by omega) ?_)
    cases hless : κ.blt (KK κ (arrOf st') (lo + x)) (KK κ (arrOf st') (lo + x - 1))
    · simp only [Bool.false_eq_true, if_false]
      exact wpS_pure ⟨rfl, rfl, hs.more hx hless⟩
    · simp only [if_true]
      exact wpS_pure ⟨rfl, x, rfl, hx, by omega, hs, .inr hless⟩
  · rintro c st' ⟨rfl, rfl, hs⟩
    rw [show max 1 nrem = nrem by omega] at hs ⊢
    exact ⟨rfl, nrem, rfl, h1, Nat.le_refl _, hs, .inl rfl⟩
  rintro c st' ⟨rfl, n, rfl, hn1, hn2, hs, hor⟩
  dsimp only
  by_cases hnn : n = nrem
  · rw [if_pos (by simpa using hnn)]
    exact wpS_pure (h n st' hB hn1 hn2 hs fun i _ => rfl)
  rw [if_neg (by simpa using hnn)]
  have hlt := hor.resolve_left hnn
  by_cases hgt : n > 1
  · rw [if_pos hgt]
    refine wpS_bind (wpS_ltAt2 hO hB (by omega) (by omega) ?_)
    have hrose : κ.blt (KK κ (arrOf st') lo) (KK κ (arrOf st') (lo + n - 1)) = true := by
      cases e : κ.blt (KK κ (arrOf st') lo) (KK κ (arrOf st') (lo + n - 1)) with
      | true => rfl
      | false =>
        have h2 := hs lo (lo + n - 1) (Nat.le_refl _) (by omega) (by omega)
        exact absurd (κ.total _ _ e h2) (hB.ne (by omega) (by omega) (by omega))
    rw [hrose]
    simp only [if_true]
    exact wpS_pure (h n st' hB hn1 hn2 hs fun i _ => rfl)
  rw [if_neg hgt]
  have hn1' : n = 1 := by omega
  subst hn1'
  refine wpS_bind (wpS_lift (wpAny_rule ⟨rfl, ?_⟩))
  refine wpS_bind (wpS_mono (wpS_forRange (I := fun x c st'' => st'' = st' ∧ c = (none, x, 0) ∧ ∀ i j, lo ≤ i → i ≤ j → j < lo + x → κ.kle (KK κ (arrOf st') j) (KK κ (arrOf st') i))
    (Q := fun c st'' => st'' = st' ∧ ∃ m, c = (none, m, 0) ∧ 2 ≤ m ∧ m ≤ nrem ∧ ∀ i j, lo ≤ i → i ≤ j → j < lo + m → κ.kle (KK κ (arrOf st') j) (KK κ (arrOf st') i)) ?_ ?_ ⟨rfl, rfl, ?_⟩) ?_)
  · rintro x c st'' hx hxn ⟨rfl, rfl, hs2⟩
    dsimp only
    refine wpS_bind (wpS_ltAt2 hO hB (by omega) (by omega) ?_)
    cases hless : κ.blt (KK κ (arrOf st'') (lo + x)) (KK κ (arrOf st'') (lo + x - 1))
    · simp only [Bool.false_eq_true, if_false]
      refine wpS_bind (wpS_ltAt2 hO hB (by omega) (by omega) ?_)
      have := hB.lt_of (i := lo + x) (j := lo + x - 1) (by omega) (by omega) (by omega) hless
      rw [show κ.blt (KK κ (arrOf st'') (lo + x - 1)) (KK κ (arrOf st'') (lo + x)) = true from this]
      simp only [if_true]
      exact wpS_pure ⟨rfl, x, rfl, by omega, by omega, hs2⟩
    · simp only [if_true]
      rw [if_neg (by decide)]
      refine wpS_pure ⟨rfl, rfl, fun i j h3 h4 h5 => ?_⟩
      by_cases hj : j < lo + x
      · exact hs2 i j h3 h4 hj
      · have : j = lo + x := by omega
        subst this
        by_cases hi : i = lo + x
        · subst hi; exact KeyOrd.kle_refl _
        · exact KeyOrd.kle_trans (KeyOrd.kle_of_klt hless) (hs2 i (lo + x - 1) h3 (by omega) (by omega))
  · rintro c st'' ⟨rfl, rfl, hs2⟩
    rw [show max (1 + 1) nrem = nrem by omega] at hs2 ⊢
    exact ⟨rfl, nrem, rfl, by omega, Nat.le_refl _, hs2⟩
  · intro i j h3 h4 h5
    by_cases hi : i = j
    · subst hi; exact KeyOrd.kle_refl _
    · have e1 : i = lo := by omega
      have e2 : j = lo + 1 := by omega
      subst e1; subst e2
      exact KeyOrd.kle_of_klt hlt
  rintro c st'' ⟨rfl, m, rfl, hm2, hmn, hs2⟩
  dsimp only
  rw [if_neg (by decide)]
  have hsz : lo + m ≤ (arrOf st'').size := by rw [hB.size]; omega
  refine wpS_bind ?_
  rw [reverseSlice'_eq]
  refine wpS_modify ?_
  have hB' : SB κ a₀ pend (setArr st'' (mirror (arrOf st'') lo (lo + m) ((lo + m - lo) / 2))) := hB.setArr (mirror_perm _ _ _ _)
  have hsame : Same (arrOf (setArr st'' (mirror (arrOf st'') lo (lo + m) ((lo + m - lo) / 2)))) (arrOf st'') lo := fun i hi => by
    show (mirror (arrOf st'') lo (lo + m) ((lo + m - lo) / 2))[i]? = _
    rw [getElem?_mirror_all hsz, if_neg (by omega)]
  have hs3 : Srt κ (arrOf (setArr st'' (mirror (arrOf st'') lo (lo + m) ((lo + m - lo) / 2)))) lo (lo + m) := fun i j h3 h4 h5 => by
    show κ.kle (KK κ (mirror (arrOf st'') _ _ _) i) (KK κ (mirror (arrOf st'') _ _ _) j)
    rw [KK_mirror hsz, KK_mirror hsz, if_pos (by omega), if_pos (by omega)]
    exact hs2 _ _ (by omega) (by omega) (by omega)
  generalize setArr st'' (mirror (arrOf st'') lo (lo + m) ((lo + m - lo) / 2)) = st3 at hB' hsame hs3
  refine wpS_bind (wpS_mono (wpS_forRange (I := fun x c st' => st' = st3 ∧ c = (none, x) ∧ Srt κ (arrOf st3) lo (lo + x))
    (Q := fun c st' => st' = st3 ∧ ∃ n, c = (none, n) ∧ 1 ≤ n ∧ n ≤ nrem ∧ Srt κ (arrOf st3) lo (lo + n)) ?_ ?_ ⟨rfl, rfl, hs3⟩) ?_)
  · rintro x c st' hx hxn ⟨rfl, rfl, hs⟩
    dsimp only
    refine wpS_bind (wpS_ltAt2 hO hB' (by omega) (by omega) ?_)
    cases hless : κ.blt (KK κ (arrOf st') (lo + x)) (KK κ (arrOf st') (lo + x - 1))
    · simp only [Bool.false_eq_true, if_false]
      exact wpS_pure ⟨rfl, rfl, hs.more (by omega) hless⟩
    · simp only [if_true]
      exact wpS_pure ⟨rfl, x, rfl, by omega, by omega, hs⟩
  · rintro c st' ⟨rfl, rfl, hs⟩
    rw [show max m nrem = nrem by omega] at hs ⊢
    exact ⟨rfl, nrem, rfl, h1, Nat.le_refl _, hs⟩
  rintro c st' ⟨rfl, n, rfl, hn3, hn4, hs4⟩
  dsimp only
  exact wpS_pure (h n st' hB' hn3 hn4 hs4 hsame)

theorem wpS_binarySortLo {st : SortSt} {lo n ok : Nat} {Q : Bool → SortSt → Prop} (hO : κ.OneLt) (hB : SB κ a₀ pend st) (hn : lo + n ≤ a₀.size) (hok1 : 1 ≤ ok) (hok : ok ≤ n) (hs : Srt κ (arrOf st) lo (lo + ok))
    (h : ∀ st', SB κ a₀ pend st' → Srt κ (arrOf st') lo (lo + n) → Same (arrOf st') (arrOf st) lo → Q true st') : wpS (model prog w) A E s (binarySort' lo n ok) Q st := by
  rw [binarySort'_eq]
  refine wpS_bind (wpS_mono (wpS_forRange (I := fun k c st' => c = (none, ()) ∧ SB κ a₀ pend st' ∧ Srt κ (arrOf st') lo (lo + min k n) ∧ Same (arrOf st') (arrOf st) lo)
    (Q := fun c st' => c = (none, ()) ∧ SB κ a₀ pend st' ∧ Srt κ (arrOf st') lo (lo + n) ∧ Same (arrOf st') (arrOf st) lo) ?step ?fin ⟨rfl, hB, by rw [show min (max ok 1) n = ok by omega]; exact hs, fun _ _ => rfl⟩) ?post)
  case post =>
    rintro c st' ⟨rfl, hB', hs', hsm⟩
    exact wpS_pure (h st' hB' hs' hsm)
  case fin =>
    rintro c st' ⟨hc, hB', hs', hsm⟩
    refine ⟨hc, hB', ?_, hsm⟩
    rwa [show min (max (max ok 1) n) n = n by omega] at hs'
  case step =>
    rintro k c st' hak hkn ⟨rfl, hB', hs', hsm⟩
    rw [show min k n = k by omega] at hs'
    refine wpS_bind (wpS_mono (wpS_forRange (I := fun x c st'' => st'' = st' ∧ ∃ l r, c = (none, l, r) ∧ l ≤ r ∧ r ≤ k ∧ r - l ≤ k - x ∧
        (∀ i, i < l → κ.kle (KK κ (arrOf st') (lo + i)) (KK κ (arrOf st') (lo + k))) ∧ (∀ i, r ≤ i → i < k → κ.klt (KK κ (arrOf st') (lo + k)) (KK κ (arrOf st') (lo + i))))
      (Q := fun c st'' => st'' = st' ∧ ∃ l r, c = (none, l, r) ∧ l ≤ k ∧
        (∀ i, i < l → κ.kle (KK κ (arrOf st') (lo + i)) (KK κ (arrOf st') (lo + k))) ∧ (∀ i, l ≤ i → i < k → κ.klt (KK κ (arrOf st') (lo + k)) (KK κ (arrOf st') (lo + i)))) ?istep ?ifin ?iinit) ?ipost)
    case iinit => exact ⟨rfl, 0, k, rfl, by omega, by omega, by omega, fun i hi => by omega, fun i h1 h2 => by omega⟩
    case ifin =>
      rintro c st'' ⟨rfl, l, r, rfl, hlr, hrk, hm, hlo, hhi⟩
      have : l = r := by omega
      subst this
      exact ⟨rfl, l, l, rfl, hrk, hlo, hhi⟩
    case istep =>
      rintro x c st'' _ hxk ⟨rfl, l, r, rfl, hlr, hrk, hm, hlo, hhi⟩
      dsimp only
      by_cases hge : l ≥ r
      · rw [if_pos hge]
        have : l = r := by omega
        subst this
        exact wpS_pure ⟨rfl, l, l, rfl, hrk, hlo, hhi⟩
      · rw [if_neg hge]
        refine wpS_bind (wpS_ltAt2 hO hB' (by omega) (by omega) ?_)
        cases hless : κ.blt (KK κ (arrOf st'') (lo + k)) (KK κ (arrOf st'') (lo + (l + r) / 2))
        case true =>
          simp only [if_true]
          refine wpS_pure ⟨rfl, l, (l + r) / 2, rfl, by omega, by omega, by omega, hlo, fun i h1 h2 => ?_⟩
          exact KeyOrd.klt_of_klt_of_kle hless (hs' _ _ (by omega) (by omega) (by omega))
        case false =>
          simp only [Bool.false_eq_true, if_false]
          refine wpS_pure ⟨rfl, (l + r) / 2 + 1, r, rfl, by omega, by omega, by omega, fun i h1 => ?_, hhi⟩
          exact KeyOrd.kle_trans (hs' (lo + i) (lo + (l + r) / 2) (by omega) (by omega) (by omega)) (show κ.kle _ _ from hless)
    case ipost =>
      rintro c st'' ⟨rfl, l, r, rfl, hlk, hlo, hhi⟩
      dsimp only
      refine wpS_bind ?_
      rw [moveDown'_eq]
      refine wpS_modify (wpS_pure ⟨rfl, hB'.setArr (bubble_perm _ _ _), ?_, ?_⟩)
      · rw [show min (k + 1) n = k + 1 by omega]
        have hks : lo + k < (arrOf st'').size := by rw [hB'.size]; omega
        intro i j hi0 hij hj
        show κ.kle (KK κ (bubble (arrOf st'') (lo + k) (lo + k - (lo + l))) i) (KK κ (bubble (arrOf st'') (lo + k) (lo + k - (lo + l))) j)
        have hlo' : ∀ i, lo ≤ i → i < lo + l → κ.kle (KK κ (arrOf st'') i) (KK κ (arrOf st'') (lo + k)) := fun i h1 h2 => by
          have := hlo (i - lo) (by omega); rwa [show lo + (i - lo) = i by omega] at this
        have hhi' : ∀ i, lo + l ≤ i → i < lo + k → κ.klt (KK κ (arrOf st'') (lo + k)) (KK κ (arrOf st'') i) := fun i h1 h2 => by
          have := hhi (i - lo) (by omega) (by omega); rwa [show lo + (i - lo) = i by omega] at this
        rw [KK_bubble hks (by omega), KK_bubble hks (by omega), show lo + k - (lo + k - (lo + l)) = lo + l by omega]
        repeat' split
        all_goals first
          | (exfalso; omega)
          | exact KeyOrd.kle_refl _
          | exact hlo' _ (by omega) (by omega)
          | exact KeyOrd.kle_of_klt (hhi' _ (by omega) (by omega))
          | exact hs' _ _ (by omega) (by omega) (by omega)
      · intro i hi
        refine Eq.trans ?_ (hsm i hi)
        show (bubble (arrOf st'') (lo + k) (lo + k - (lo + l)))[i]? = _
        rw [getElem?_bubble (by rw [hB'.size]; omega) _ (by omega), if_neg (by omega), if_neg (by omega)]
end
end Mine
namespace Mine
noncomputable def gallop' : Bool → Keyed → Array Keyed → Nat → Nat → Nat → StateT SortSt Sem (Option Nat) := sortPriv% PySem.Builtin.gallop
noncomputable def mergeLo' : Array Keyed → Array Keyed → StateT SortSt Sem (Array Keyed) := sortPriv% PySem.Builtin.mergeLo
noncomputable def mergeHi' : Array Keyed → Array Keyed → StateT SortSt Sem (Array Keyed) := sortPriv% PySem.Builtin.mergeHi
section
variable {prog : Program} {w : World} {A : Around} {E : Value → Shared → Prop} {s : Shared} {κ : KeyKind}

/-- what gallop asks of one place -/
noncomputable def bey (κ : KeyKind) (left : Bool) (k a : κ.α) : Bool := if left = true then κ.blt a k else !κ.blt k a

theorem wpS_gallop {st : SortSt} {left : Bool} {key : Keyed} {k : κ.α} {arr : Array Keyed} {base n hint : Nat} {Q : Option Nat → SortSt → Prop} (hO : κ.OneLt) (hk : kindOf st = oneType') (hkey : κ.keyOf key.1 = some k)
    (harr : ∀ i, i < n → ∃ p a, arr[base + i]? = some p ∧ κ.keyOf p.1 = some a) (hs : ∀ i j, i ≤ j → j < n → κ.kle (KK κ arr (base + i)) (KK κ arr (base + j))) (hh : hint < n)
    (h : ∀ m, m ≤ n → (∀ i, i < m → bey κ left k (KK κ arr (base + i)) = true) → (∀ i, m ≤ i → i < n → bey κ left k (KK κ arr (base + i)) = false) → Q (some m) st) :
    wpS (model prog w) A E s (gallop' left key arr base n hint) Q st := by
  have hb : ∀ i, i < n → ∀ R : Option Bool → SortSt → Prop, R (some (bey κ left k (KK κ arr (base + i)))) st → wpS (model prog w) A E s (do
      let x ← elem' arr (base + i)
      if left = true then lt' x key else do let r ← lt' key x; pure (r.map (!·))) R st := by
    intro i hi R hR
    obtain ⟨p, a, h1, h2⟩ := harr i hi
    have hK : KK κ arr (base + i) = a := by unfold KK; rw [h1]; simp [h2]
    rw [hK] at hR
    refine wpS_bind (wpS_elem h1 ?_)
    cases left with
    | true => rw [if_pos rfl]; exact wpS_lt2 hO hk h2 hkey hR
    | false =>
      rw [if_neg (by decide)]
      exact wpS_bind (wpS_lt2 hO hk hkey h2 (wpS_pure hR))
  have mono : ∀ i j, i ≤ j → j < n → bey κ left k (KK κ arr (base + j)) = true → bey κ left k (KK κ arr (base + i)) = true := by
    intro i j hij hj q
    have h1 := hs i j hij hj
    unfold bey at q ⊢
    cases left with
    | true =>
      rw [if_pos rfl] at q ⊢
      exact KeyOrd.klt_of_kle_of_klt h1 q
    | false =>
      rw [if_neg (by decide)] at q ⊢
      have q' : κ.kle (KK κ arr (base + j)) k := by unfold KeyOrd.kle; simpa using q
      have := KeyOrd.kle_trans h1 q'
      unfold KeyOrd.kle at this; simpa using this
  have mono' : ∀ i j, i ≤ j → j < n → bey κ left k (KK κ arr (base + i)) = false → bey κ left k (KK κ arr (base + j)) = false := by
    intro i j hij hj q
    cases e : bey κ left k (KK κ arr (base + j)) with
    | false => rfl
    | true => rw [mono i j hij hj e] at q; cases q
  generalize hbe : (fun i => bey κ left k (KK κ arr (base + i))) = be at *
  have hbe' : ∀ i, bey κ left k (KK κ arr (base + i)) = be i := fun i => by rw [← hbe]
  simp only [hbe'] at hb h mono mono'
  unfold gallop'
  refine wpS_bind (hb hint hh _ ?_)
  cases hr : be hint with
  | true =>
    dsimp only
    rw [if_pos rfl]
    refine wpS_bind (wpS_mono (wpS_forRange (I := fun x c st' => st' = st ∧ ∃ lastofs ofs, c = (none, lastofs, ofs) ∧ lastofs < ofs ∧ x < ofs ∧ hint + lastofs < n ∧ be (hint + lastofs) = true)
      (Q := fun c st' => st' = st ∧ ∃ lastofs ofs, c = (none, lastofs, ofs) ∧ lastofs < ofs ∧ hint + lastofs < n ∧ be (hint + lastofs) = true ∧ (ofs ≥ n - hint ∨ (hint + ofs < n ∧ be (hint + ofs) = false))) ?_ ?_ ⟨rfl, 0, 1, rfl, by omega, by omega, by omega, hr⟩) ?_)
    · rintro x c st' _ hxn ⟨rfl, la, of, rfl, h1, h2, h3, h4⟩
      dsimp only
      by_cases hge : of ≥ n - hint
      · rw [if_pos hge]
        exact wpS_pure ⟨rfl, la, of, rfl, h1, h3, h4, .inl hge⟩
      · rw [if_neg hge]
        refine wpS_bind (hb (hint + of) (by omega) _ ?_)
        cases hm : be (hint + of) with
        | false => exact wpS_pure ⟨rfl, la, of, rfl, h1, h3, h4, .inr ⟨by omega, hm⟩⟩
        | true => exact wpS_pure ⟨rfl, of, 2 * of + 1, rfl, by omega, by omega, by omega, hm⟩
    · rintro c st' ⟨rfl, la, of, rfl, h1, h2, h3, h4⟩
      exact ⟨rfl, la, of, rfl, h1, h3, h4, .inl (by omega)⟩
    rintro c st' ⟨rfl, la, of, rfl, h1, h3, h4, h5⟩
    dsimp only
    have f1 : hint + la + 1 ≤ hint + min of (n - hint) := by omega
    have f2 : hint + min of (n - hint) ≤ n := by omega
    have f3 : ∀ i, i < hint + la + 1 → be i = true := fun i hi => mono i (hint + la) (by omega) h3 h4
    have f4 : ∀ i, hint + min of (n - hint) ≤ i → i < n → be i = false := fun i hi hin => by
      rcases h5 with h5 | ⟨h5, h6⟩
      · omega
      · exact mono' (hint + of) i (by omega) hin h6
    generalize hint + la + 1 = lo at f1 f3
    generalize hint + min of (n - hint) = hi at f1 f2 f4
    refine wpS_bind (wpS_mono (wpS_forRange (I := fun x c st'' => st'' = st' ∧ ∃ lo hi, c = (none, lo, hi) ∧ lo ≤ hi ∧ hi ≤ n ∧ hi - lo ≤ n - x ∧ (∀ i, i < lo → be i = true) ∧ ∀ i, hi ≤ i → i < n → be i = false)
      (Q := fun c st'' => st'' = st' ∧ ∃ lo hi, c = (none, lo, hi) ∧ hi ≤ n ∧ (∀ i, i < hi → be i = true) ∧ ∀ i, hi ≤ i → i < n → be i = false) ?_ ?_ ⟨rfl, lo, hi, rfl, f1, f2, by omega, f3, f4⟩) ?_)
    · rintro x c st'' _ hxn ⟨rfl, lo, hi, rfl, g1, g2, g3, g4, g5⟩
      dsimp only
      by_cases hge : lo ≥ hi
      · rw [if_pos hge]
        have : lo = hi := by omega
        subst this
        exact wpS_pure ⟨rfl, lo, lo, rfl, g2, g4, g5⟩
      · rw [if_neg hge]
        refine wpS_bind (hb (lo + (hi - lo) / 2) (by omega) _ ?_)
        cases hm : be (lo + (hi - lo) / 2) with
        | true =>
          refine wpS_pure ⟨rfl, lo + (hi - lo) / 2 + 1, hi, rfl, by omega, g2, by omega, fun i hi' => mono i _ (by omega) (by omega) hm, g5⟩
        | false =>
          refine wpS_pure ⟨rfl, lo, lo + (hi - lo) / 2, rfl, by omega, by omega, by omega, g4, fun i hi' hin => mono' _ i hi' hin hm⟩
    · rintro c st'' ⟨rfl, lo, hi, rfl, g1, g2, g3, g4, g5⟩
      have : lo = hi := by omega
      subst this
      exact ⟨rfl, lo, lo, rfl, g2, g4, g5⟩
    rintro c st'' ⟨rfl, lo, hi, rfl, g2, g4, g5⟩
    exact wpS_pure (h hi g2 g4 g5)
  | false =>
    dsimp only
    rw [if_neg (by decide)]
    refine wpS_bind (wpS_mono (wpS_forRange (I := fun x c st' => st' = st ∧ ∃ lastofs ofs, c = (none, lastofs, ofs) ∧ lastofs < ofs ∧ x < ofs ∧ lastofs ≤ hint ∧ be (hint - lastofs) = false)
      (Q := fun c st' => st' = st ∧ ∃ lastofs ofs, c = (none, lastofs, ofs) ∧ lastofs < ofs ∧ lastofs ≤ hint ∧ be (hint - lastofs) = false ∧ (ofs ≥ hint + 1 ∨ (ofs ≤ hint ∧ be (hint - ofs) = true))) ?_ ?_ ⟨rfl, 0, 1, rfl, by omega, by omega, by omega, hr⟩) ?_)
    · rintro x c st' _ hxn ⟨rfl, la, of, rfl, h1, h2, h3, h4⟩
      dsimp only
      by_cases hge : of ≥ hint + 1
      · rw [if_pos hge]
        exact wpS_pure ⟨rfl, la, of, rfl, h1, h3, h4, .inl hge⟩
      · rw [if_neg hge]
        refine wpS_bind (hb (hint - of) (by omega) _ ?_)
        cases hm : be (hint - of) with
        | true => exact wpS_pure ⟨rfl, la, of, rfl, h1, h3, h4, .inr ⟨by omega, hm⟩⟩
        | false => exact wpS_pure ⟨rfl, of, 2 * of + 1, rfl, by omega, by omega, by omega, hm⟩
    · rintro c st' ⟨rfl, la, of, rfl, h1, h2, h3, h4⟩
      exact ⟨rfl, la, of, rfl, h1, h3, h4, .inl (by omega)⟩
    rintro c st' ⟨rfl, la, of, rfl, h1, h3, h4, h5⟩
    dsimp only
    have f1 : hint + 1 - min of (hint + 1) ≤ hint - la := by omega
    have f2 : hint - la ≤ n := by omega
    have f3 : ∀ i, i < hint + 1 - min of (hint + 1) → be i = true := fun i hi => by
      rcases h5 with h5 | ⟨h5, h6⟩
      · omega
      · exact mono i (hint - of) (by omega) (by omega) h6
    have f4 : ∀ i, hint - la ≤ i → i < n → be i = false := fun i hi hin => mono' (hint - la) i hi hin h4
    generalize hint + 1 - min of (hint + 1) = lo at f1 f3
    generalize hint - la = hi at f1 f2 f4
    refine wpS_bind (wpS_mono (wpS_forRange (I := fun x c st'' => st'' = st' ∧ ∃ lo hi, c = (none, lo, hi) ∧ lo ≤ hi ∧ hi ≤ n ∧ hi - lo ≤ n - x ∧ (∀ i, i < lo → be i = true) ∧ ∀ i, hi ≤ i → i < n → be i = false)
      (Q := fun c st'' => st'' = st' ∧ ∃ lo hi, c = (none, lo, hi) ∧ hi ≤ n ∧ (∀ i, i < hi → be i = true) ∧ ∀ i, hi ≤ i → i < n → be i = false) ?_ ?_ ⟨rfl, lo, hi, rfl, f1, f2, by omega, f3, f4⟩) ?_)
    · rintro x c st'' _ hxn ⟨rfl, lo, hi, rfl, g1, g2, g3, g4, g5⟩
      dsimp only
      by_cases hge : lo ≥ hi
      · rw [if_pos hge]
        have : lo = hi := by omega
        subst this
        exact wpS_pure ⟨rfl, lo, lo, rfl, g2, g4, g5⟩
      · rw [if_neg hge]
        refine wpS_bind (hb (lo + (hi - lo) / 2) (by omega) _ ?_)
        cases hm : be (lo + (hi - lo) / 2) with
        | true =>
          refine wpS_pure ⟨rfl, lo + (hi - lo) / 2 + 1, hi, rfl, by omega, g2, by omega, fun i hi' => mono i _ (by omega) (by omega) hm, g5⟩
        | false =>
          refine wpS_pure ⟨rfl, lo, lo + (hi - lo) / 2, rfl, by omega, by omega, by omega, g4, fun i hi' hin => mono' _ i hi' hin hm⟩
    · rintro c st'' ⟨rfl, lo, hi, rfl, g1, g2, g3, g4, g5⟩
      have : lo = hi := by omega
      subst this
      exact ⟨rfl, lo, lo, rfl, g2, g4, g5⟩
    rintro c st'' ⟨rfl, lo, hi, rfl, g2, g4, g5⟩
    exact wpS_pure (h hi g2 g4 g5)
end
end Mine
namespace Mine

structure Good {α : Type} (r : α → α → Prop) (all out A B : List α) : Prop where
  perm : (out ++ (A ++ B)).Perm all
  so : out.Pairwise r
  below : ∀ x ∈ out, ∀ y ∈ A ++ B, r x y
  sa : A.Pairwise r
  sb : B.Pairwise r
theorem Good.takeA {α : Type} {r : α → α → Prop} {all out u A B : List α} (g : Good r all out (u ++ A) B) (h : ∀ x ∈ u, ∀ y ∈ B, r x y) : Good r all (out ++ u) A B := by
  have hsa := List.pairwise_append.mp g.sa
  refine ⟨by have := g.perm; simpa using this, List.pairwise_append.mpr ⟨g.so, hsa.1, fun x hx y hy => g.below x hx y (by simp [hy])⟩, fun x hx y hy => ?_, hsa.2.1, g.sb⟩
  rcases List.mem_append.mp hx with hx | hx
  · refine g.below x hx y ?_
    rcases List.mem_append.mp hy with hy | hy
    · simp [hy]
    · simp [hy]
  · rcases List.mem_append.mp hy with hy | hy
    · exact hsa.2.2 x hx y hy
    · exact h x hx y hy
theorem Good.takeB {α : Type} {r : α → α → Prop} {all out u A B : List α} (g : Good r all out A (u ++ B)) (h : ∀ x ∈ u, ∀ y ∈ A, r x y) : Good r all (out ++ u) A B := by
  have hsb := List.pairwise_append.mp g.sb
  refine ⟨?_, List.pairwise_append.mpr ⟨g.so, hsb.1, fun x hx y hy => g.below x hx y (by simp [hy])⟩, fun x hx y hy => ?_, g.sa, hsb.2.1⟩
  · refine List.Perm.trans ?_ g.perm
    rw [List.append_assoc]
    refine List.Perm.append_left _ ?_
    rw [← List.append_assoc, ← List.append_assoc]
    exact List.Perm.append_right _ List.perm_append_comm
  rcases List.mem_append.mp hx with hx | hx
  · refine g.below x hx y ?_
    rcases List.mem_append.mp hy with hy | hy
    · simp [hy]
    · simp [hy]
  · rcases List.mem_append.mp hy with hy | hy
    · exact h x hx y hy
    · exact hsb.2.2 x hx y hy
theorem Good.endA {α : Type} {r : α → α → Prop} {all out A : List α} (g : Good r all out A []) : (out ++ A).Perm all ∧ (out ++ A).Pairwise r :=
  ⟨by have := g.perm; simpa using this, List.pairwise_append.mpr ⟨g.so, g.sa, fun x hx y hy => g.below x hx y (by simp [hy])⟩⟩
theorem Good.endB {α : Type} {r : α → α → Prop} {all out B : List α} (g : Good r all out [] B) : (out ++ B).Perm all ∧ (out ++ B).Pairwise r :=
  ⟨by have := g.perm; simpa using this, List.pairwise_append.mpr ⟨g.so, g.sb, fun x hx y hy => g.below x hx y (by simp [hy])⟩⟩
/-- the last of A is behind all of B -/
theorem Good.lastA {α : Type} {r : α → α → Prop} {all out B : List α} {x : α} (g : Good r all out [x] B) (h : ∀ y ∈ B, r y x) : (out ++ (B ++ [x])).Perm all ∧ (out ++ (B ++ [x])).Pairwise r := by
  have g2 : Good r all (out ++ B) [x] [] := Good.takeB (u := B) (B := []) (by simpa using g) (fun y hy z hz => by rw [List.mem_singleton.mp hz]; exact h y hy)
  have := g2.endA
  simpa using this
theorem Good.lastB {α : Type} {r : α → α → Prop} {all out A : List α} {x : α} (g : Good r all out A [x]) (h : ∀ y ∈ A, r y x) : (out ++ (A ++ [x])).Perm all ∧ (out ++ (A ++ [x])).Pairwise r := by
  have g2 : Good r all (out ++ A) [] [x] := Good.takeA (u := A) (A := []) (by simpa using g) (fun y hy z hz => by rw [List.mem_singleton.mp hz]; exact h y hy)
  have := g2.endB
  simpa using this

section
variable {prog : Program} {w : World} {A : Around} {E : Value → Shared → Prop} {s : Shared} {κ : KeyKind}
noncomputable def ky (κ : KeyKind) (p : Keyed) : κ.α := (κ.keyOf p.1).getD κ.dflt
noncomputable def kr (κ : KeyKind) (p q : Keyed) : Prop := κ.kle (ky κ p) (ky κ q)
noncomputable def krR (κ : KeyKind) (p q : Keyed) : Prop := κ.kle (ky κ q) (ky κ p)
structure Like (st st' : SortSt) : Prop where
  kind : kindOf st' = kindOf st
  arr : arrOf st' = arrOf st
  pend : pendingOf st' = pendingOf st
  failed : failedOf st' = failedOf st
theorem Like.refl (st : SortSt) : Like st st := ⟨rfl, rfl, rfl, rfl⟩
theorem Like.trans {st st' st'' : SortSt} (a : Like st st') (b : Like st' st'') : Like st st'' := ⟨b.kind.trans a.kind, b.arr.trans a.arr, b.pend.trans a.pend, b.failed.trans a.failed⟩
noncomputable def setMinGallop' : Nat → StateT SortSt Sem Unit := sortPriv% PySem.Builtin.setMinGallop
theorem wpS_setG {st : SortSt} {g : Nat} {Q : Unit → SortSt → Prop} (h : ∀ st', Like st st' → Q () st') : wpS (model prog w) A E s (setMinGallop' g) Q st := by
  unfold setMinGallop'
  exact wpS_modify (h _ ⟨rfl, rfl, rfl, rfl⟩)

theorem drop_cons {a : Array Keyed} {i : Nat} {p : Keyed} (h : a[i]? = some p) : a.toList.drop i = p :: a.toList.drop (i + 1) := by
  have hi : i < a.toList.length := by
    have := (Array.getElem?_eq_some_iff.mp h).1; simpa using this
  rw [List.drop_eq_getElem_cons hi]
  congr 1
  have := (Array.getElem?_eq_some_iff.mp h).2
  simpa using this
theorem KK_some {a : Array Keyed} {i : Nat} {p : Keyed} (h : a[i]? = some p) : KK κ a i = ky κ p := by unfold KK ky; rw [h]
theorem at_some {a : Array Keyed} {i : Nat} (h : i < a.size) : ∃ p, a[i]? = some p := ⟨a[i], Array.getElem?_eq_some_iff.mpr ⟨h, rfl⟩⟩
theorem head_le {r : Keyed → Keyed → Prop} (hr : ∀ p, r p p) {p : Keyed} {l : List Keyed} (h : (p :: l).Pairwise r) : ∀ y ∈ p :: l, r p y := fun y hy => by
  rcases List.mem_cons.mp hy with rfl | hy
  · exact hr _
  · exact List.rel_of_pairwise_cons h hy
theorem kr_refl (p : Keyed) : kr κ p p := KeyOrd.kle_refl _
theorem sorted_KK {a : Array Keyed} (h : a.toList.Pairwise (kr κ)) {i j : Nat} (hij : i ≤ j) (hj : j < a.size) : κ.kle (KK κ a i) (KK κ a j) := by
  obtain ⟨p, hp⟩ := at_some (a := a) (i := i) (by omega)
  obtain ⟨q, hq⟩ := at_some hj
  rw [KK_some hp, KK_some hq]
  rcases Nat.lt_or_eq_of_le hij with h1 | rfl
  · obtain ⟨b1, e1⟩ := Array.getElem?_eq_some_iff.mp hp
    obtain ⟨b2, e2⟩ := Array.getElem?_eq_some_iff.mp hq
    have := List.pairwise_iff_getElem.mp h i j (by simpa using b1) (by simpa using b2) h1
    simp only [Array.getElem_toList] at this
    rw [e1, e2] at this; exact this
  · rw [hp] at hq; cases hq; exact kr_refl _

/-- the middle of an array -/
theorem drop_extract (a : Array Keyed) (i k : Nat) : a.toList.drop i = (a.extract i (i + k)).toList ++ a.toList.drop (i + k) := by
  rw [Array.toList_extract, List.extract_eq_take_drop, show i + k - i = k by omega, ← List.drop_drop, List.take_append_drop]
theorem extract_all (a : Array Keyed) (i : Nat) : (a.extract i a.size).toList = a.toList.drop i := by
  rw [Array.toList_extract, List.extract_eq_take_drop]
  rw [List.take_of_length_le]; simp
theorem mem_extract {a : Array Keyed} {i k : Nat} {x : Keyed} (h : x ∈ (a.extract i (i + k)).toList) : ∃ j, j < k ∧ a[i + j]? = some x := by
  rw [Array.toList_extract, List.extract_eq_take_drop, show i + k - i = k by omega] at h
  obtain ⟨j, hj, e⟩ := List.mem_iff_getElem.mp h
  simp at hj
  refine ⟨j, by omega, ?_⟩
  simp at e
  exact Array.getElem?_eq_some_iff.mpr ⟨by omega, e⟩
end
end Mine
namespace Mine
section
variable {prog : Program} {w : World} {A : Around} {E : Value → Shared → Prop} {s : Shared} {κ : KeyKind} {a b out : Array Keyed} {ia ib k : Nat} {p q : Keyed}

noncomputable abbrev GA (κ : KeyKind) (a b out : Array Keyed) (ia ib : Nat) : Prop := Good (kr κ) (a.toList ++ b.toList) out.toList (a.toList.drop ia) (b.toList.drop ib)
noncomputable def FinM (κ : KeyKind) (a b r : Array Keyed) : Prop := r.toList.Perm (a.toList ++ b.toList) ∧ r.toList.Pairwise (kr κ)

theorem GA.pushB (g : GA κ a b out ia ib) (hq : b[ib]? = some q) (h : ∀ y ∈ a.toList.drop ia, kr κ q y) : GA κ a b (out.push q) ia (ib + 1) := by
  unfold GA at g ⊢
  rw [drop_cons hq] at g
  rw [Array.toList_push]
  exact Good.takeB (u := [q]) g fun x hx y hy => by rw [List.mem_singleton.mp hx]; exact h y hy
theorem GA.pushA (g : GA κ a b out ia ib) (hp : a[ia]? = some p) (h : ∀ y ∈ b.toList.drop ib, kr κ p y) : GA κ a b (out.push p) (ia + 1) ib := by
  unfold GA at g ⊢
  rw [drop_cons hp] at g
  rw [Array.toList_push]
  exact Good.takeA (u := [p]) g fun x hx y hy => by rw [List.mem_singleton.mp hx]; exact h y hy
theorem GA.extA (g : GA κ a b out ia ib) (h : ∀ j p, j < k → a[ia + j]? = some p → ∀ y ∈ b.toList.drop ib, kr κ p y) : GA κ a b (out ++ a.extract ia (ia + k)) (ia + k) ib := by
  unfold GA at g ⊢
  rw [drop_extract a ia k] at g
  rw [Array.toList_append]
  exact Good.takeA g fun x hx y hy => by
    obtain ⟨j, hj, e⟩ := mem_extract hx
    exact h j x hj e y hy
theorem GA.extB (g : GA κ a b out ia ib) (h : ∀ j q, j < k → b[ib + j]? = some q → ∀ y ∈ a.toList.drop ia, kr κ q y) : GA κ a b (out ++ b.extract ib (ib + k)) ia (ib + k) := by
  unfold GA at g ⊢
  rw [drop_extract b ib k] at g
  rw [Array.toList_append]
  exact Good.takeB g fun x hx y hy => by
    obtain ⟨j, hj, e⟩ := mem_extract hx
    exact h j x hj e y hy
theorem GA.done1 (g : GA κ a b out ia ib) (h : ib = b.size) : FinM κ a b (out ++ a.extract ia a.size ++ b.extract ib b.size) := by
  unfold GA at g
  have e : b.toList.drop ib = [] := List.drop_eq_nil_of_le (by simp [h])
  have := Good.endA (e ▸ g)
  unfold FinM
  rw [Array.toList_append, Array.toList_append, extract_all, extract_all, e]
  simpa using this
theorem GA.done2 (g : GA κ a b out ia ib) (h : ia = a.size) : FinM κ a b (out ++ a.extract ia a.size ++ b.extract ib b.size) := by
  unfold GA at g
  have e : a.toList.drop ia = [] := List.drop_eq_nil_of_le (by simp [h])
  have := Good.endB (e ▸ g)
  unfold FinM
  rw [Array.toList_append, Array.toList_append, extract_all, extract_all, e]
  simpa using this
theorem GA.last (g : GA κ a b out ia ib) (h : ia + 1 = a.size) (hl : ∀ p, a[a.size - 1]? = some p → ∀ y ∈ b.toList, kr κ y p) : FinM κ a b (out ++ b.extract ib b.size ++ a.extract ia a.size) := by
  unfold GA at g
  obtain ⟨p, hp⟩ := at_some (a := a) (i := ia) (by omega)
  have e : a.toList.drop ia = [p] := by
    rw [drop_cons hp, List.drop_eq_nil_of_le (by simp; omega)]
  have := Good.lastA (e ▸ g) fun y hy => hl p (by rw [show a.size - 1 = ia by omega]; exact hp) y (List.mem_of_mem_drop hy)
  unfold FinM
  rw [Array.toList_append, Array.toList_append, extract_all, extract_all, e, List.append_assoc]
  exact this
theorem GA.headA (g : GA κ a b out ia ib) (hp : a[ia]? = some p) : ∀ y ∈ a.toList.drop ia, kr κ p y := by
  have := g.sa
  rw [drop_cons hp] at this ⊢
  exact head_le kr_refl this
theorem GA.headB (g : GA κ a b out ia ib) (hq : b[ib]? = some q) : ∀ y ∈ b.toList.drop ib, kr κ q y := by
  have := g.sb
  rw [drop_cons hq] at this ⊢
  exact head_le kr_refl this

theorem keyed {xs : Array Keyed} {i : Nat} {p : Keyed} (h : KeysOf κ xs) (hp : xs[i]? = some p) : κ.keyOf p.1 = some (ky κ p) := by
  obtain ⟨b1, e1⟩ := Array.getElem?_eq_some_iff.mp hp
  obtain ⟨x, hx⟩ := h p (by rw [← e1]; simp)
  unfold ky; rw [hx]; rfl

set_option maxHeartbeats 1000000 in
theorem wpS_mergeLo {st : SortSt} {Q : Array Keyed → SortSt → Prop} (hO : κ.OneLt) (hk : kindOf st = oneType') (ka : KeysOf κ a) (kb : KeysOf κ b) (sa : a.toList.Pairwise (kr κ)) (sb : b.toList.Pairwise (kr κ)) (hna : 1 ≤ a.size) (hnb : 1 ≤ b.size)
    (h0 : ∀ q, b[0]? = some q → ∀ y ∈ a.toList, kr κ q y) (hl : ∀ p, a[a.size - 1]? = some p → ∀ y ∈ b.toList, kr κ y p)
    (h : ∀ r st', Like st st' → FinM κ a b r → Q r st') : wpS (model prog w) A E s (mergeLo' a b) Q st := by
  unfold mergeLo'
  refine wpS_bind (wpS_lift (wpAny_rule ⟨rfl, ?_⟩))
  try dsimp -zeta only
  obtain ⟨q0, hq0⟩ := at_some (a := b) (i := 0) (by omega)
  refine wpS_bind (wpS_elem hq0 ?_)
  have g0 : GA κ a b #[q0] 0 1 := by
    have : GA κ a b #[] 0 0 := ⟨by simp, by simp, by simp, by simpa using sa, by simpa using sb⟩
    exact this.pushB hq0 (by simpa using h0 q0 hq0)
  by_cases c1 : 1 = b.size
  · rw [if_pos (by simpa using c1)]
    exact wpS_pure (h _ _ (.refl _) (g0.done1 c1))
  rw [if_neg (by simpa using c1)]
  by_cases c2 : 0 + 1 = a.size
  · rw [if_pos (by simpa using c2)]
    exact wpS_pure (h _ _ (.refl _) (g0.last c2 hl))
  rw [if_neg (by simpa using c2)]
  refine wpS_bind (wpS_get ?_)
  refine wpS_bind (wpS_mono (wpS_forRange (I := fun x c st' => Like st st' ∧ ∃ out ia ib mg, c = (none, out, ia, ib, mg) ∧ GA κ a b out ia ib ∧ ia + 1 < a.size ∧ ib < b.size ∧ x ≤ ia + ib)
    (Q := fun c st' => Like st st' ∧ ∃ r out ia ib mg, c = (some r, out, ia, ib, mg) ∧ FinM κ a b r) ?_ ?_ ⟨.refl _, _, 0, 1, _, rfl, g0, by omega, by omega, by omega⟩) ?_)
  rotate_left
  · rintro c st' ⟨hL, out, ia, ib, mg, rfl, g, f1, f2, f3⟩
    omega
  · rintro c st' ⟨hL, r, out, ia, ib, mg, rfl, hf⟩
    exact wpS_pure (h _ _ hL hf)
  rintro x c st' _ hx ⟨hL, out, ia, ib, mg, rfl, g, f1, f2, f3⟩
  try dsimp -zeta only
  -- one at a time
  refine wpS_bind (wpS_mono (wpS_forRange (I := fun y c st' => Like st st' ∧ ∃ out ia ib ac bc, c = (none, out, ia, ib, ac, bc) ∧ GA κ a b out ia ib ∧ ia + 1 < a.size ∧ ib < b.size ∧ x + y ≤ ia + ib)
    (Q := fun c st' => Like st st' ∧ ((∃ r out ia ib ac bc, c = (some r, out, ia, ib, ac, bc) ∧ FinM κ a b r) ∨ (∃ out ia ib ac bc, c = (none, out, ia, ib, ac, bc) ∧ GA κ a b out ia ib ∧ ia + 1 < a.size ∧ ib < b.size ∧ x + 1 ≤ ia + ib))) ?_ ?_ ⟨hL, _, _, _, _, _, rfl, g, f1, f2, by omega⟩) ?_)
  · rintro y c st' _ hy ⟨hL, out, ia, ib, ac, bc, rfl, g, f1, f2, f3⟩
    dsimp only
    obtain ⟨p, hp⟩ := at_some (a := a) (i := ia) (by omega)
    obtain ⟨q, hq⟩ := at_some f2
    refine wpS_bind (wpS_elem hq (wpS_bind (wpS_elem hp (wpS_bind (wpS_lt2 hO (hL.kind.trans hk) (keyed kb hq) (keyed ka hp) ?_)))))
    cases hlt : κ.blt (ky κ q) (ky κ p) with
    | true =>
      dsimp only
      rw [if_pos rfl]
      refine wpS_bind (wpS_elem hq ?_)
      have g' := g.pushB hq fun y hy => KeyOrd.kle_trans (KeyOrd.kle_of_klt hlt) (g.headA hp y hy)
      by_cases c1 : ib + 1 = b.size
      · rw [if_pos (by simpa using c1)]
        exact wpS_pure ⟨hL, .inl ⟨_, _, _, _, _, _, rfl, g'.done1 c1⟩⟩
      · rw [if_neg (by simpa using c1)]
        split
        · exact wpS_pure ⟨hL, .inr ⟨_, _, _, _, _, rfl, g', f1, by omega, by omega⟩⟩
        · exact wpS_pure ⟨hL, _, _, _, _, _, rfl, g', f1, by omega, by omega⟩
    | false =>
      dsimp only
      rw [if_neg (by decide)]
      refine wpS_bind (wpS_elem hp ?_)
      have g' := g.pushA hp fun y hy => KeyOrd.kle_trans (show κ.kle (ky κ p) (ky κ q) from hlt) (g.headB hq y hy)
      by_cases c1 : ia + 1 + 1 = a.size
      · rw [if_pos (by simpa using c1)]
        exact wpS_pure ⟨hL, .inl ⟨_, _, _, _, _, _, rfl, g'.last c1 hl⟩⟩
      · rw [if_neg (by simpa using c1)]
        split
        · exact wpS_pure ⟨hL, .inr ⟨_, _, _, _, _, rfl, g', by omega, f2, by omega⟩⟩
        · exact wpS_pure ⟨hL, _, _, _, _, _, rfl, g', by omega, f2, by omega⟩
  · rintro c st' ⟨hL, out, ia, ib, ac, bc, rfl, g, f1, f2, f3⟩
    exact ⟨hL, .inr ⟨_, _, _, _, _, rfl, g, f1, f2, by omega⟩⟩
  rintro c st' ⟨hL, ⟨r, out, ia, ib, ac, bc, rfl, hf⟩ | ⟨out, ia, ib, ac, bc, rfl, g, f1, f2, f3⟩⟩
  · exact wpS_pure ⟨hL, _, _, _, _, _, rfl, hf⟩
  try dsimp -zeta only
  refine wpS_bind (wpS_lift (wpAny_rule ⟨rfl, ?_⟩))
  -- many at a time
  refine wpS_bind (wpS_mono (wpS_forRange (I := fun y c st' => Like st st' ∧ ∃ out ia ib mg ac bc, c = (none, out, ia, ib, mg, ac, bc) ∧ GA κ a b out ia ib ∧ ia + 1 < a.size ∧ ib < b.size ∧ x + 1 ≤ ia + ib)
    (Q := fun c st' => Like st st' ∧ ((∃ r out ia ib mg ac bc, c = (some r, out, ia, ib, mg, ac, bc) ∧ FinM κ a b r) ∨ (∃ out ia ib mg ac bc, c = (none, out, ia, ib, mg, ac, bc) ∧ GA κ a b out ia ib ∧ ia + 1 < a.size ∧ ib < b.size ∧ x + 1 ≤ ia + ib))) ?_ ?_ ⟨hL, _, _, _, _, _, _, rfl, g, f1, f2, by omega⟩) ?_)
  rotate_left
  · rintro c st' ⟨hL, out, ia, ib, mg, ac, bc, rfl, g, f1, f2, f3⟩
    exact ⟨hL, .inr ⟨_, _, _, _, _, _, rfl, g, f1, f2, f3⟩⟩
  · rintro c st' ⟨hL, ⟨r, out, ia, ib, mg, ac, bc, rfl, hf⟩ | ⟨out, ia, ib, mg, ac, bc, rfl, g, f1, f2, f3⟩⟩
    · exact wpS_pure ⟨hL, _, _, _, _, _, rfl, hf⟩
    · dsimp only
      exact wpS_bind (wpS_setG fun st2 hL2 => wpS_pure ⟨hL.trans hL2, _, _, _, _, rfl, g, f1, f2, f3⟩)
  rintro y c st' _ hy ⟨hL, out, ia, ib, mg, ac, bc, rfl, g, f1, f2, f3⟩
  try dsimp -zeta only
  obtain ⟨q, hq⟩ := at_some f2
  have galA : ∀ {st' : SortSt}, Like st st' → ∀ R : Option Nat → SortSt → Prop, (∀ k, ia + k ≤ a.size → GA κ a b (out ++ a.extract ia (ia + k)) (ia + k) ib → (∀ p, a[ia + k]? = some p → κ.blt (ky κ q) (ky κ p) = true) → R (some k) st') → wpS (model prog w) A E s (gallop' false q a ia (a.size - ia) 0) R st' := by
    intro st' hL R hR
    refine wpS_gallop hO (hL.kind.trans hk) (keyed kb hq) (fun i hi => ?_) (fun i j hij hj => sorted_KK sa (by omega) (by omega)) (by omega) fun m hm h1 h2 => ?_
    · obtain ⟨p, hp⟩ := at_some (a := a) (i := ia + i) (by omega)
      exact ⟨p, _, hp, keyed ka hp⟩
    · refine hR m (by omega) (g.extA fun j p hj hp y hy => ?_) fun p hp => ?_
      · have := h1 j hj
        rw [KK_some hp] at this
        exact KeyOrd.kle_trans (show κ.kle (ky κ p) (ky κ q) by unfold bey at this; unfold KeyOrd.kle; simpa using this) (g.headB hq y hy)
      · have hlt := (Array.getElem?_eq_some_iff.mp hp).1
        have := h2 m (Nat.le_refl _) (by omega)
        rw [KK_some hp] at this
        unfold bey at this; simpa using this
  have galB : ∀ {st' : SortSt} {out : Array Keyed} {ia ib : Nat} {p : Keyed}, Like st st' → GA κ a b out ia ib → a[ia]? = some p → ib < b.size → ∀ R : Option Nat → SortSt → Prop, (∀ k, ib + k ≤ b.size → GA κ a b (out ++ b.extract ib (ib + k)) ia (ib + k) → (∀ q, b[ib + k]? = some q → κ.blt (ky κ q) (ky κ p) = false) → R (some k) st') → wpS (model prog w) A E s (gallop' true p b ib (b.size - ib) 0) R st' := by
    intro st' out ia ib p hL g hp hib R hR
    refine wpS_gallop hO (hL.kind.trans hk) (keyed ka hp) (fun i hi => ?_) (fun i j hij hj => sorted_KK sb (by omega) (by omega)) (by omega) fun m hm h1 h2 => ?_
    · obtain ⟨p, hp⟩ := at_some (a := b) (i := ib + i) (by omega)
      exact ⟨p, _, hp, keyed kb hp⟩
    · refine hR m (by omega) (g.extB fun j q hj hq y hy => ?_) fun q hq => ?_
      · have := h1 j hj
        rw [KK_some hq] at this
        exact KeyOrd.kle_trans (KeyOrd.kle_of_klt (show κ.klt (ky κ q) (ky κ p) by unfold bey at this; unfold KeyOrd.klt; simpa using this)) (g.headA hp y hy)
      · have hlt := (Array.getElem?_eq_some_iff.mp hq).1
        have := h2 m (Nat.le_refl _) (by omega)
        rw [KK_some hq] at this
        unfold bey at this; simpa using this
  have ext0 : ∀ (xs : Array Keyed) (i : Nat), xs.extract i (i + 0) = #[] := fun xs i => by apply Array.ext'; rw [Array.toList_extract, List.extract_eq_take_drop]; simp
  extract_lets s1 out1 s2 ia1 s3 ib1 s4 mg1 s5 ac1 bc1 ibp jp mgm
  refine (fun key : ∀ m, wpS (model prog w) A E s (jp () m) ?Q st' => ?ka) ?kb
  case ka =>
    split
    · exact key _
    · exact key _
  intro m
  show wpS (model prog w) A E s (jp () m) _ st'
  dsimp -zeta only [jp, ibp, ia1, ib1, out1, ac1, bc1, s1, s2, s3, s4, s5]
  refine wpS_bind (wpS_setG fun st2 hL2 => wpS_bind (wpS_elem hq (wpS_bind (galA (hL.trans hL2) _ fun k hk1 g1 hk2 => ?_))))
  have hL := hL.trans hL2
  dsimp -zeta only
  extract_lets ac2 jp2 out2 ia2
  refine (fun key : ∀ (i : Nat) (o1 : Array Keyed), ia ≤ i → i + 1 < a.size → GA κ a b o1 i ib → (∀ p, a[i]? = some p → κ.blt (ky κ q) (ky κ p) = true) → wpS (model prog w) A E s (jp2 () o1 i) ?Q st2 => ?kc) ?kd
  case kc =>
    by_cases hz : k > 0
    · rw [if_pos hz]
      by_cases c1 : ia + k + 1 = a.size
      · rw [if_pos (show (ia + k + 1 == a.size) = true by simpa using c1)]
        exact wpS_pure ⟨hL, .inl ⟨_, _, _, _, _, _, _, rfl, g1.last c1 hl⟩⟩
      rw [if_neg (show ¬ (ia + k + 1 == a.size) = true by simpa using c1)]
      by_cases c2 : ia + k = a.size
      · rw [if_pos (show (ia + k == a.size) = true by simpa using c2)]
        exact wpS_pure ⟨hL, .inl ⟨_, _, _, _, _, _, _, rfl, g1.done2 c2⟩⟩
      rw [if_neg (show ¬ (ia + k == a.size) = true by simpa using c2)]
      exact key _ _ (by omega) (by omega) g1 hk2
    · rw [if_neg hz]
      have hz : k = 0 := by omega
      exact key ia out (by omega) f1 (by have := g1; rw [hz, ext0, Array.append_empty] at this; exact this) (by have := hk2; rw [hz] at this; exact this)
  intro i o1 hi0 hi1 g1 hk2
  show wpS (model prog w) A E s (jp2 () o1 i) _ st2
  dsimp -zeta only [jp2]
  clear_value ac2
  refine wpS_bind (wpS_elem hq ?_)
  obtain ⟨p, hp⟩ := at_some (a := a) (i := i) (by omega)
  have g2 := g1.pushB hq fun y hy => KeyOrd.kle_trans (KeyOrd.kle_of_klt (hk2 p hp)) (g1.headA hp y hy)
  extract_lets outp
  by_cases c3 : ib + 1 = b.size
  · rw [if_pos (by simpa using c3)]
    exact wpS_pure ⟨hL, .inl ⟨_, _, _, _, _, _, _, rfl, g2.done1 c3⟩⟩
  rw [if_neg (by simpa using c3)]
  refine wpS_bind (wpS_elem hp (wpS_bind (galB hL g2 hp (by omega) _ fun k2 hk3 g3 hk4 => ?_)))
  dsimp -zeta only
  extract_lets bc2 jp3 out3 ib3
  refine (fun key : ∀ (j : Nat) (o2 : Array Keyed), ib + 1 ≤ j → j < b.size → GA κ a b o2 i j → (∀ q, b[j]? = some q → κ.blt (ky κ q) (ky κ p) = false) → wpS (model prog w) A E s (jp3 () o2 j) ?Q st2 => ?ke) ?kf
  case ke =>
    by_cases hz2 : k2 > 0
    · rw [if_pos hz2]
      by_cases c4 : ib + 1 + k2 = b.size
      · rw [if_pos (show (ib + 1 + k2 == b.size) = true by simpa using c4)]
        exact wpS_pure ⟨hL, .inl ⟨_, _, _, _, _, _, _, rfl, g3.done1 c4⟩⟩
      rw [if_neg (show ¬ (ib + 1 + k2 == b.size) = true by simpa using c4)]
      exact key _ _ (by omega) (by omega) g3 hk4
    · rw [if_neg hz2]
      have hz : k2 = 0 := by omega
      exact key (ib + 1) _ (by omega) (by omega) (by have := g3; rw [hz, ext0, Array.append_empty] at this; exact this) (by have := hk4; rw [hz] at this; exact this)
  intro j o2 hj0 hj1 g3 hk4
  show wpS (model prog w) A E s (jp3 () o2 j) _ st2
  dsimp -zeta only [jp3]
  refine wpS_bind (wpS_elem hp ?_)
  obtain ⟨q2, hq2⟩ := at_some (a := b) (i := j) (by omega)
  have g4 := g3.pushA hp fun y hy => KeyOrd.kle_trans (show κ.kle (ky κ p) (ky κ q2) from hk4 q2 hq2) (g3.headB hq2 y hy)
  extract_lets
  by_cases c5 : i + 1 + 1 = a.size
  · rw [if_pos (show (i + 1 + 1 == a.size) = true by simpa using c5)]
    exact wpS_pure ⟨hL, .inl ⟨_, _, _, _, _, _, _, rfl, g4.last c5 hl⟩⟩
  rw [if_neg (show ¬ (i + 1 + 1 == a.size) = true by simpa using c5)]
  split
  · exact wpS_pure ⟨hL, .inr ⟨_, _, _, _, _, _, rfl, g4, by omega, by omega, by omega⟩⟩
  · exact wpS_pure ⟨hL, _, _, _, _, _, _, rfl, g4, by omega, by omega, by omega⟩
end
end Mine
namespace Mine
section
variable {prog : Program} {w : World} {A : Around} {E : Value → Shared → Prop} {s : Shared} {κ : KeyKind} {a b out : Array Keyed} {na nb k : Nat} {p q : Keyed}

noncomputable abbrev upR (a : Array Keyed) (n : Nat) : List Keyed := (a.toList.take n).reverse
theorem up_cons (h1 : 1 ≤ na) (h : a[na - 1]? = some p) : upR a na = p :: upR a (na - 1) := by
  obtain ⟨m, rfl⟩ : ∃ m, na = m + 1 := ⟨na - 1, by omega⟩
  unfold upR
  rw [show m + 1 - 1 = m by omega] at h ⊢
  rw [List.take_add_one]
  have : a.toList[m]? = some p := by rw [Array.getElem?_toList]; exact h
  rw [this]; simp
theorem up_extract (a : Array Keyed) {c n : Nat} (h : c ≤ n) : upR a n = ((a.extract c n).reverse).toList ++ upR a c := by
  unfold upR
  rw [Array.toList_reverse, Array.toList_extract, List.extract_eq_take_drop, ← List.reverse_append]
  congr 1
  have e : a.toList.take n = (a.toList.take n).take c ++ (a.toList.take n).drop c := (List.take_append_drop c _).symm
  rw [e, List.take_take, Nat.min_eq_left h, List.drop_take]
theorem mem_extR {c n : Nat} {x : Keyed} (h : x ∈ ((a.extract c n).reverse).toList) : ∃ j, c ≤ j ∧ j < n ∧ a[j]? = some x := by
  rw [Array.toList_reverse, List.mem_reverse, Array.toList_extract, List.extract_eq_take_drop] at h
  obtain ⟨j, hj, e⟩ := List.mem_iff_getElem.mp h
  simp at hj e
  exact ⟨c + j, by omega, by omega, Array.getElem?_eq_some_iff.mpr ⟨by omega, e⟩⟩
theorem extract_up (a : Array Keyed) (n : Nat) : (a.extract 0 n).toList = a.toList.take n := by
  rw [Array.toList_extract, List.extract_eq_take_drop]; simp

noncomputable abbrev GH (κ : KeyKind) (a b out : Array Keyed) (na nb : Nat) : Prop := Good (krR κ) (a.toList ++ b.toList) out.toList (upR a na) (upR b nb)
theorem GH.pushA (g : GH κ a b out na nb) (h1 : 1 ≤ na) (hp : a[na - 1]? = some p) (h : ∀ y ∈ upR b nb, krR κ p y) : GH κ a b (out.push p) (na - 1) nb := by
  unfold GH at g ⊢
  rw [up_cons h1 hp] at g
  rw [Array.toList_push]
  exact Good.takeA (u := [p]) g fun x hx y hy => by rw [List.mem_singleton.mp hx]; exact h y hy
theorem GH.pushB (g : GH κ a b out na nb) (h1 : 1 ≤ nb) (hq : b[nb - 1]? = some q) (h : ∀ y ∈ upR a na, krR κ q y) : GH κ a b (out.push q) na (nb - 1) := by
  unfold GH at g ⊢
  rw [up_cons h1 hq] at g
  rw [Array.toList_push]
  exact Good.takeB (u := [q]) g fun x hx y hy => by rw [List.mem_singleton.mp hx]; exact h y hy
theorem GH.extA (g : GH κ a b out na nb) (hk : k ≤ na) (h : ∀ j p, k ≤ j → j < na → a[j]? = some p → ∀ y ∈ upR b nb, krR κ p y) : GH κ a b (out ++ (a.extract k na).reverse) k nb := by
  unfold GH at g ⊢
  rw [up_extract a hk] at g
  rw [Array.toList_append]
  exact Good.takeA g fun x hx y hy => by
    obtain ⟨j, hj1, hj2, e⟩ := mem_extR hx
    exact h j x hj1 hj2 e y hy
theorem GH.extB (g : GH κ a b out na nb) (hk : k ≤ nb) (h : ∀ j q, k ≤ j → j < nb → b[j]? = some q → ∀ y ∈ upR a na, krR κ q y) : GH κ a b (out ++ (b.extract k nb).reverse) na k := by
  unfold GH at g ⊢
  rw [up_extract b hk] at g
  rw [Array.toList_append]
  exact Good.takeB g fun x hx y hy => by
    obtain ⟨j, hj1, hj2, e⟩ := mem_extR hx
    exact h j x hj1 hj2 e y hy
theorem fin_rev {r : Array Keyed} {l : List Keyed} (h : l.Perm (a.toList ++ b.toList) ∧ l.Pairwise (krR κ)) (e : r.toList = l.reverse) : FinM κ a b r := by
  unfold FinM
  rw [e]
  exact ⟨(List.reverse_perm l).trans h.1, List.pairwise_reverse.mpr h.2⟩
theorem GH.done1 (g : GH κ a b out na nb) (h : na = 0) : FinM κ a b (a.extract 0 na ++ b.extract 0 nb ++ out.reverse) := by
  subst h
  refine fin_rev (Good.endB (by simpa [GH, upR] using g)) ?_
  rw [Array.toList_append, Array.toList_append, extract_up, extract_up, Array.toList_reverse]
  simp
theorem GH.done2 (g : GH κ a b out na nb) (h : nb = 0) : FinM κ a b (a.extract 0 na ++ b.extract 0 nb ++ out.reverse) := by
  subst h
  refine fin_rev (Good.endA (by simpa [GH, upR] using g)) ?_
  rw [Array.toList_append, Array.toList_append, extract_up, extract_up, Array.toList_reverse]
  simp
theorem GH.first (g : GH κ a b out na nb) (h : nb = 1) (hb : 1 ≤ b.size) (h0 : ∀ q, b[0]? = some q → ∀ y ∈ a.toList, kr κ q y) : FinM κ a b (b.extract 0 nb ++ a.extract 0 na ++ out.reverse) := by
  subst h
  obtain ⟨q, hq⟩ := at_some (a := b) (i := 0) (by omega)
  have e : upR b 1 = [q] := by rw [up_cons (Nat.le_refl _) hq]; unfold upR; simp
  unfold GH at g
  rw [e] at g
  refine fin_rev (Good.lastB g fun y hy => ?_) ?_
  · unfold upR at hy
    exact h0 q hq y (List.mem_of_mem_take (List.mem_reverse.mp hy))
  · rw [Array.toList_append, Array.toList_append, extract_up, extract_up, Array.toList_reverse]
    have e2 : b.toList.take 1 = [q] := by
      have := congrArg List.reverse e
      simpa [upR] using this
    rw [e2]; simp
theorem krR_refl (p : Keyed) : krR κ p p := KeyOrd.kle_refl _
theorem GH.headA (g : GH κ a b out na nb) (h1 : 1 ≤ na) (hp : a[na - 1]? = some p) : ∀ y ∈ upR a na, krR κ p y := by
  have := g.sa
  rw [up_cons h1 hp] at this ⊢
  exact head_le krR_refl this
theorem GH.headB (g : GH κ a b out na nb) (h1 : 1 ≤ nb) (hq : b[nb - 1]? = some q) : ∀ y ∈ upR b nb, krR κ q y := by
  have := g.sb
  rw [up_cons h1 hq] at this ⊢
  exact head_le krR_refl this

set_option maxHeartbeats 1000000 in
theorem wpS_mergeHi {st : SortSt} {Q : Array Keyed → SortSt → Prop} (hO : κ.OneLt) (hk : kindOf st = oneType') (ka : KeysOf κ a) (kb : KeysOf κ b) (sa : a.toList.Pairwise (kr κ)) (sb : b.toList.Pairwise (kr κ)) (hna : 1 ≤ a.size) (hnb : 1 ≤ b.size)
    (h0 : ∀ q, b[0]? = some q → ∀ y ∈ a.toList, kr κ q y) (hl : ∀ p, a[a.size - 1]? = some p → ∀ y ∈ b.toList, kr κ y p)
    (h : ∀ r st', Like st st' → FinM κ a b r → Q r st') : wpS (model prog w) A E s (mergeHi' a b) Q st := by
  unfold mergeHi'
  refine wpS_bind (wpS_lift (wpAny_rule ⟨rfl, ?_⟩))
  try dsimp -zeta only
  obtain ⟨p0, hp0⟩ := at_some (a := a) (i := a.size - 1) (by omega)
  refine wpS_bind (wpS_elem hp0 ?_)
  have g0 : GH κ a b #[p0] (a.size - 1) b.size := by
    have : GH κ a b #[] a.size b.size := by
      refine ⟨?_, by simp, by simp, ?_, ?_⟩
      · show ([] ++ (upR a a.size ++ upR b b.size)).Perm _
        unfold upR
        rw [List.take_of_length_le (by simp), List.take_of_length_le (by simp), List.nil_append]
        exact (List.reverse_perm _).append (List.reverse_perm _)
      · unfold upR; rw [List.take_of_length_le (by simp)]; exact List.pairwise_reverse.mpr sa
      · unfold upR; rw [List.take_of_length_le (by simp)]; exact List.pairwise_reverse.mpr sb
    refine this.pushA hna hp0 fun y hy => ?_
    unfold upR at hy
    exact hl p0 hp0 y (List.mem_of_mem_take (List.mem_reverse.mp hy))
  by_cases c1 : a.size - 1 = 0
  · rw [if_pos (by simpa using c1)]
    exact wpS_pure (h _ _ (.refl _) (g0.done1 c1))
  rw [if_neg (by simpa using c1)]
  by_cases c2 : b.size = 1
  · rw [if_pos (by simpa using c2)]
    exact wpS_pure (h _ _ (.refl _) (g0.first c2 hnb h0))
  rw [if_neg (by simpa using c2)]
  refine wpS_bind (wpS_get ?_)
  refine wpS_bind (wpS_mono (wpS_forRange (I := fun x c st' => Like st st' ∧ ∃ out na nb mg, c = (none, na, nb, out, mg) ∧ GH κ a b out na nb ∧ 1 ≤ na ∧ na ≤ a.size ∧ 2 ≤ nb ∧ nb ≤ b.size ∧ x + na + nb ≤ a.size + b.size)
    (Q := fun c st' => Like st st' ∧ ∃ r out na nb mg, c = (some r, na, nb, out, mg) ∧ FinM κ a b r) ?_ ?_ ⟨.refl _, _, _, _, _, rfl, g0, by omega, by omega, by omega, by omega, by omega⟩) ?_)
  rotate_left
  · rintro c st' ⟨hL, out, na, nb, mg, rfl, g, f1, f2, f3, f4, f5⟩
    omega
  · rintro c st' ⟨hL, r, out, na, nb, mg, rfl, hf⟩
    exact wpS_pure (h _ _ hL hf)
  rintro x c st' _ hx ⟨hL, out, na, nb, mg, rfl, g, f1, f2, f3, f4, f5⟩
  try dsimp -zeta only
  -- one at a time
  refine wpS_bind (wpS_mono (wpS_forRange (I := fun y c st' => Like st st' ∧ ∃ out na nb ac bc, c = (none, na, nb, out, ac, bc) ∧ GH κ a b out na nb ∧ 1 ≤ na ∧ na ≤ a.size ∧ 2 ≤ nb ∧ nb ≤ b.size ∧ x + y + na + nb ≤ a.size + b.size)
    (Q := fun c st' => Like st st' ∧ ((∃ r out na nb ac bc, c = (some r, na, nb, out, ac, bc) ∧ FinM κ a b r) ∨ (∃ out na nb ac bc, c = (none, na, nb, out, ac, bc) ∧ GH κ a b out na nb ∧ 1 ≤ na ∧ na ≤ a.size ∧ 2 ≤ nb ∧ nb ≤ b.size ∧ x + 1 + na + nb ≤ a.size + b.size))) ?_ ?_ ⟨hL, _, _, _, _, _, rfl, g, f1, f2, f3, f4, by omega⟩) ?_)
  · rintro y c st' _ hy ⟨hL, out, na, nb, ac, bc, rfl, g, f1, f2, f3, f4, f5⟩
    try dsimp -zeta only
    obtain ⟨p, hp⟩ := at_some (a := a) (i := na - 1) (by omega)
    obtain ⟨q, hq⟩ := at_some (a := b) (i := nb - 1) (by omega)
    refine wpS_bind (wpS_elem hq (wpS_bind (wpS_elem hp (wpS_bind (wpS_lt2 hO (hL.kind.trans hk) (keyed kb hq) (keyed ka hp) ?_)))))
    cases hlt : κ.blt (ky κ q) (ky κ p) with
    | true =>
      try dsimp -zeta only
      rw [if_pos rfl]
      refine wpS_bind (wpS_elem hp ?_)
      have g' := g.pushA f1 hp fun y hy => KeyOrd.kle_trans (g.headB (by omega) hq y hy) (KeyOrd.kle_of_klt hlt)
      by_cases c1 : na - 1 = 0
      · rw [if_pos (by simpa using c1)]
        exact wpS_pure ⟨hL, .inl ⟨_, _, _, _, _, _, rfl, g'.done1 c1⟩⟩
      · rw [if_neg (by simpa using c1)]
        split
        · exact wpS_pure ⟨hL, .inr ⟨_, _, _, _, _, rfl, g', by omega, by omega, f3, f4, by omega⟩⟩
        · exact wpS_pure ⟨hL, _, _, _, _, _, rfl, g', by omega, by omega, f3, f4, by omega⟩
    | false =>
      try dsimp -zeta only
      rw [if_neg (by decide)]
      refine wpS_bind (wpS_elem hq ?_)
      have g' := g.pushB (by omega) hq fun y hy => KeyOrd.kle_trans (g.headA f1 hp y hy) (show κ.kle (ky κ p) (ky κ q) from hlt)
      by_cases c1 : nb - 1 = 1
      · rw [if_pos (by simpa using c1)]
        exact wpS_pure ⟨hL, .inl ⟨_, _, _, _, _, _, rfl, g'.first c1 hnb h0⟩⟩
      · rw [if_neg (by simpa using c1)]
        split
        · exact wpS_pure ⟨hL, .inr ⟨_, _, _, _, _, rfl, g', f1, f2, by omega, by omega, by omega⟩⟩
        · exact wpS_pure ⟨hL, _, _, _, _, _, rfl, g', f1, f2, by omega, by omega, by omega⟩
  · rintro c st' ⟨hL, out, na, nb, ac, bc, rfl, g, f1, f2, f3, f4, f5⟩
    exact ⟨hL, .inr ⟨_, _, _, _, _, rfl, g, f1, f2, f3, f4, by omega⟩⟩
  rintro c st' ⟨hL, ⟨r, out, na, nb, ac, bc, rfl, hf⟩ | ⟨out, na, nb, ac, bc, rfl, g, f1, f2, f3, f4, f5⟩⟩
  · exact wpS_pure ⟨hL, _, _, _, _, _, rfl, hf⟩
  try dsimp -zeta only
  refine wpS_bind (wpS_lift (wpAny_rule ⟨rfl, ?_⟩))
  -- many at a time
  refine wpS_bind (wpS_mono (wpS_forRange (I := fun y c st' => Like st st' ∧ ∃ out na nb mg ac bc, c = (none, na, nb, out, mg, ac, bc) ∧ GH κ a b out na nb ∧ 1 ≤ na ∧ na ≤ a.size ∧ 2 ≤ nb ∧ nb ≤ b.size ∧ x + 1 + na + nb ≤ a.size + b.size)
    (Q := fun c st' => Like st st' ∧ ((∃ r out na nb mg ac bc, c = (some r, na, nb, out, mg, ac, bc) ∧ FinM κ a b r) ∨ (∃ out na nb mg ac bc, c = (none, na, nb, out, mg, ac, bc) ∧ GH κ a b out na nb ∧ 1 ≤ na ∧ na ≤ a.size ∧ 2 ≤ nb ∧ nb ≤ b.size ∧ x + 1 + na + nb ≤ a.size + b.size))) ?_ ?_ ⟨hL, _, _, _, _, _, _, rfl, g, f1, f2, f3, f4, by omega⟩) ?_)
  rotate_left
  · rintro c st' ⟨hL, out, na, nb, mg, ac, bc, rfl, g, f1, f2, f3, f4, f5⟩
    exact ⟨hL, .inr ⟨_, _, _, _, _, _, rfl, g, f1, f2, f3, f4, f5⟩⟩
  · rintro c st' ⟨hL, ⟨r, out, na, nb, mg, ac, bc, rfl, hf⟩ | ⟨out, na, nb, mg, ac, bc, rfl, g, f1, f2, f3, f4, f5⟩⟩
    · exact wpS_pure ⟨hL, _, _, _, _, _, rfl, hf⟩
    · dsimp -zeta only
      exact wpS_bind (wpS_setG fun st2 hL2 => wpS_pure ⟨hL.trans hL2, _, _, _, _, rfl, g, f1, f2, f3, f4, f5⟩)
  rintro y c st' _ hy ⟨hL, out, na, nb, mg, ac, bc, rfl, g, f1, f2, f3, f4, f5⟩
  try dsimp -zeta only
  obtain ⟨q, hq⟩ := at_some (a := b) (i := nb - 1) (by omega)
  have galA : ∀ {st' : SortSt}, Like st st' → ∀ R : Option Nat → SortSt → Prop, (∀ k, k ≤ na → GH κ a b (out ++ (a.extract k na).reverse) k nb → (∀ p, 1 ≤ k → a[k - 1]? = some p → κ.kle (ky κ p) (ky κ q)) → R (some k) st') → wpS (model prog w) A E s (gallop' false q a 0 na (na - 1)) R st' := by
    intro st' hL R hR
    refine wpS_gallop hO (hL.kind.trans hk) (keyed kb hq) (fun i hi => ?_) (fun i j hij hj => sorted_KK sa (by omega) (by omega)) (by omega) fun m hm h1 h2 => ?_
    · obtain ⟨p, hp⟩ := at_some (a := a) (i := 0 + i) (by omega)
      exact ⟨p, _, hp, keyed ka hp⟩
    · refine hR m hm (g.extA hm fun j p hj1 hj2 hp y hy => ?_) fun p hm1 hp => ?_
      · have := h2 j hj1 hj2
        rw [Nat.zero_add, KK_some hp] at this
        exact KeyOrd.kle_trans (g.headB (by omega) hq y hy) (KeyOrd.kle_of_klt (show κ.klt (ky κ q) (ky κ p) by unfold bey at this; unfold KeyOrd.klt; simpa using this))
      · have := h1 (m - 1) (by omega)
        rw [Nat.zero_add, KK_some hp] at this
        unfold bey at this; unfold KeyOrd.kle; simpa using this
  have galB : ∀ {st' : SortSt} {out : Array Keyed} {na nb : Nat} {p : Keyed}, Like st st' → GH κ a b out na nb → 1 ≤ na → a[na - 1]? = some p → 1 ≤ nb → nb ≤ b.size → ∀ R : Option Nat → SortSt → Prop, (∀ k, k ≤ nb → GH κ a b (out ++ (b.extract k nb).reverse) na k → (∀ q, 1 ≤ k → b[k - 1]? = some q → κ.kle (ky κ q) (ky κ p)) → R (some k) st') → wpS (model prog w) A E s (gallop' true p b 0 nb (nb - 1)) R st' := by
    intro st' out na nb p hL g hna1 hp hnb1 hnb2 R hR
    refine wpS_gallop hO (hL.kind.trans hk) (keyed ka hp) (fun i hi => ?_) (fun i j hij hj => sorted_KK sb (by omega) (by omega)) (by omega) fun m hm h1 h2 => ?_
    · obtain ⟨p, hp⟩ := at_some (a := b) (i := 0 + i) (by omega)
      exact ⟨p, _, hp, keyed kb hp⟩
    · refine hR m hm (g.extB hm fun j q hj1 hj2 hq y hy => ?_) fun q hm1 hq => ?_
      · have := h2 j hj1 hj2
        rw [Nat.zero_add, KK_some hq] at this
        exact KeyOrd.kle_trans (g.headA hna1 hp y hy) (show κ.kle (ky κ p) (ky κ q) by unfold bey at this; unfold KeyOrd.kle; simpa using this)
      · have := h1 (m - 1) (by omega)
        rw [Nat.zero_add, KK_some hq] at this
        exact KeyOrd.kle_of_klt (show κ.klt (ky κ q) (ky κ p) by unfold bey at this; unfold KeyOrd.klt; simpa using this)
  have ext0 : ∀ (xs : Array Keyed) (i : Nat), (xs.extract i i).reverse = #[] := fun xs i => by apply Array.ext'; rw [Array.toList_reverse, Array.toList_extract, List.extract_eq_take_drop]; simp
  extract_lets s1 na1 s2 nb1 s3 out1 s4 mg1 s5 ac1 bc1 nbm jp mgm
  refine (fun key : ∀ m, wpS (model prog w) A E s (jp () m) ?Q st' => ?ka) ?kb
  case ka =>
    split
    · exact key _
    · exact key _
  intro m
  show wpS (model prog w) A E s (jp () m) _ st'
  dsimp -zeta only [jp, nbm, na1, nb1, out1, ac1, bc1, s1, s2, s3, s4, s5]
  refine wpS_bind (wpS_setG fun st2 hL2 => wpS_bind (wpS_elem hq (wpS_bind (galA (hL.trans hL2) _ fun k hk1 g1 hk2 => ?_))))
  have hL := hL.trans hL2
  dsimp -zeta only
  extract_lets kk ac2 jp2 out2 na2
  refine (fun key : ∀ (k : Nat) (o1 : Array Keyed), 1 ≤ k → k ≤ a.size → x + 1 + k + nb ≤ a.size + b.size → GH κ a b o1 k nb → (∀ p, 1 ≤ k → a[k - 1]? = some p → κ.kle (ky κ p) (ky κ q)) → wpS (model prog w) A E s (jp2 () k o1) ?Q st2 => ?kc) ?kd
  case kc =>
    by_cases hz : na - k > 0
    · rw [if_pos (show kk > 0 from hz)]
      by_cases c1 : k = 0
      · rw [if_pos (show (k == 0) = true by simpa using c1)]
        exact wpS_pure ⟨hL, .inl ⟨_, _, _, _, _, _, _, rfl, g1.done1 c1⟩⟩
      rw [if_neg (show ¬ (k == 0) = true by simpa using c1)]
      exact key _ _ (by omega) (by omega) (by omega) g1 hk2
    · rw [if_neg (show ¬ kk > 0 from hz)]
      have hz : k = na := by omega
      exact key na out f1 f2 f5 (by have := g1; rw [hz, ext0, Array.append_empty] at this; exact this) (hz ▸ hk2)
  intro k o1 hk1' hkn hk5 g1 hk2
  show wpS (model prog w) A E s (jp2 () k o1) _ st2
  dsimp -zeta only [jp2]
  clear_value ac2
  refine wpS_bind (wpS_elem hq ?_)
  obtain ⟨p, hp⟩ := at_some (a := a) (i := k - 1) (by omega)
  have g2 := g1.pushB (by omega) hq fun y hy => KeyOrd.kle_trans (g1.headA hk1' hp y hy) (hk2 p hk1' hp)
  extract_lets outp nam
  by_cases c3 : nb - 1 = 1
  · rw [if_pos (by simpa using c3)]
    exact wpS_pure ⟨hL, .inl ⟨_, _, _, _, _, _, _, rfl, g2.first c3 hnb h0⟩⟩
  rw [if_neg (by simpa using c3)]
  refine wpS_bind (wpS_elem hp (wpS_bind (galB hL g2 hk1' hp (by omega) (by omega) _ fun k2 hk3 g3 hk4 => ?_)))
  dsimp -zeta only
  extract_lets kk2 bc2 jp3 out3 nb3
  refine (fun key : ∀ (k2 : Nat) (o2 : Array Keyed), 2 ≤ k2 → k2 ≤ nb - 1 → GH κ a b o2 k k2 → (∀ q, 1 ≤ k2 → b[k2 - 1]? = some q → κ.kle (ky κ q) (ky κ p)) → wpS (model prog w) A E s (jp3 () k2 o2) ?Q st2 => ?ke) ?kf
  case ke =>
    by_cases hz2 : nb - 1 - k2 > 0
    · rw [if_pos (show kk2 > 0 from hz2)]
      by_cases c4 : k2 = 1
      · rw [if_pos (show (k2 == 1) = true by simpa using c4)]
        exact wpS_pure ⟨hL, .inl ⟨_, _, _, _, _, _, _, rfl, g3.first c4 hnb h0⟩⟩
      rw [if_neg (show ¬ (k2 == 1) = true by simpa using c4)]
      by_cases c6 : k2 = 0
      · rw [if_pos (show (k2 == 0) = true by simpa using c6)]
        exact wpS_pure ⟨hL, .inl ⟨_, _, _, _, _, _, _, rfl, g3.done2 c6⟩⟩
      rw [if_neg (show ¬ (k2 == 0) = true by simpa using c6)]
      exact key k2 _ (by omega) hk3 g3 hk4
    · rw [if_neg (show ¬ kk2 > 0 from hz2)]
      have hz : k2 = nb - 1 := by omega
      exact key (nb - 1) _ (by omega) (by omega) (by have := g3; rw [hz, ext0, Array.append_empty] at this; exact this) (hz ▸ hk4)
  intro k2 o2 hk6 hk3 g3 hk4
  show wpS (model prog w) A E s (jp3 () k2 o2) _ st2
  dsimp -zeta only [jp3]
  obtain ⟨q2, hq2⟩ := at_some (a := b) (i := k2 - 1) (by omega)
  refine wpS_bind (wpS_elem hp ?_)
  have g4 := g3.pushA hk1' hp fun y hy => KeyOrd.kle_trans (g3.headB (by omega) hq2 y hy) (hk4 q2 (by omega) hq2)
  by_cases c5 : k - 1 = 0
  · rw [if_pos (show (k - 1 == 0) = true by simpa using c5)]
    exact wpS_pure ⟨hL, .inl ⟨_, _, _, _, _, _, _, rfl, g4.done1 c5⟩⟩
  rw [if_neg (show ¬ (k - 1 == 0) = true by simpa using c5)]
  split
  · exact wpS_pure ⟨hL, .inr ⟨_, _, _, _, _, _, rfl, g4, by omega, by omega, by omega, by omega, by omega⟩⟩
  · exact wpS_pure ⟨hL, _, _, _, _, _, _, rfl, g4, by omega, by omega, by omega, by omega, by omega⟩
end
end Mine
namespace Mine
section
variable {prog : Program} {w : World} {A : Around} {E : Value → Shared → Prop} {s : Shared} {κ : KeyKind} {a₀ xs : Array Keyed}

theorem putAt (sa : Nat) : ∀ (ms : List Keyed) (j : Nat) (xs : Array Keyed), sa + j + ms.length ≤ xs.size →
    ((ms.zipIdx j).foldl (fun a (x : Keyed × Nat) => a.setIfInBounds (sa + x.2) x.1) xs).toList = xs.toList.take (sa + j) ++ (ms ++ xs.toList.drop (sa + j + ms.length))
  | [], j, xs, h => by simp
  | m :: ms, j, xs, h => by
    rw [List.zipIdx_cons, List.foldl_cons, putAt sa ms (j + 1) _ (by rw [Array.size_setIfInBounds]; simp at h; omega)]
    simp only [Array.toList_setIfInBounds]
    have hl : sa + j < xs.toList.length := by simp at h; simp; omega
    rw [List.drop_set_of_lt (by omega), List.length_cons, show sa + (j + 1) + ms.length = sa + j + (ms.length + 1) by omega]
    rw [show sa + (j + 1) = sa + j + 1 by omega, List.take_add_one, List.take_set_of_le (Nat.le_refl _), List.getElem?_set_self hl]
    simp

theorem pair_of {lo hi : Nat} (h : Srt κ xs lo hi) (hb : hi ≤ xs.size) : (xs.extract lo hi).toList.Pairwise (kr κ) := by
  rw [List.pairwise_iff_getElem]
  intro i j hi' hj' hij
  simp at hi' hj'
  have e1 : (xs.extract lo hi).toList[i]'(by simpa using hi') = xs[lo + i]'(by omega) := by simp
  have e2 : (xs.extract lo hi).toList[j]'(by simpa using hj') = xs[lo + j]'(by omega) := by simp
  have := h (lo + i) (lo + j) (by omega) (by omega) (by omega)
  rw [KK_at (by omega), KK_at (by omega)] at this
  unfold kr ky
  simp only [e1, e2]
  exact this
theorem srt_of (h : xs.toList.Pairwise (kr κ)) {hi : Nat} (hh : hi ≤ xs.size) : Srt κ xs 0 hi := fun i j _ hij hj => sorted_KK h hij (by omega)

theorem wpS_set {st st1 : SortSt} {Q : PUnit → SortSt → Prop} (h : Q ⟨⟩ st1) : wpS (model prog w) A E s (set st1 : StateT SortSt Sem PUnit) Q st := by
  unfold wpS; rw [StateT.run_set]; exact wpAny_pure ⟨rfl, h⟩

theorem mem_ext {lo hi : Nat} {x : Keyed} (h : x ∈ (xs.extract lo hi).toList) : ∃ j, lo ≤ j ∧ j < hi ∧ xs[j]? = some x := by
  rw [Array.toList_extract, List.extract_eq_take_drop] at h
  obtain ⟨j, hj, e⟩ := List.mem_iff_getElem.mp h
  simp at hj e
  exact ⟨lo + j, by omega, by omega, Array.getElem?_eq_some_iff.mpr ⟨by omega, e⟩⟩
theorem keys_ext (h : KeysOf κ xs) (lo hi : Nat) : KeysOf κ (xs.extract lo hi) := fun p hp => by
  obtain ⟨j, _, _, e⟩ := mem_ext hp
  obtain ⟨b1, e1⟩ := Array.getElem?_eq_some_iff.mp e
  exact h p (by rw [← e1]; simp)
theorem ext_at {lo hi i : Nat} (h : lo + i < hi) (hb : hi ≤ xs.size) : (xs.extract lo hi)[i]? = xs[lo + i]? := by
  rw [Array.getElem?_extract]
  rw [if_pos (by omega)]

set_option maxHeartbeats 1000000 in
theorem wpS_mergeAt0 {st : SortSt} {n1 n2 pw : Nat} {Q : Bool → SortSt → Prop} (hO : κ.OneLt) (hB : SB κ a₀ #[(0, n1, pw), (n1, n2, 0)] st) (hn : n1 + n2 = a₀.size) (h1 : 1 ≤ n1) (h2 : 1 ≤ n2) (s1 : Srt κ (arrOf st) 0 n1) (s2 : Srt κ (arrOf st) n1 (n1 + n2))
    (h : ∀ st', SB κ a₀ #[(0, n1 + n2, pw)] st' → Srt κ (arrOf st') 0 a₀.size → Q true st') : wpS (model prog w) A E s (mergeAt' 0) Q st := by
  have hsz := hB.size
  have ka : KeysOf κ (arrOf st) := fun p hp => hB.keys p ((Array.perm_iff_toList_perm.mp hB.perm).mem_iff.mp hp)
  unfold mergeAt'
  refine wpS_bind (wpS_get ?_)
  have e0 : (PyProof.Rows.pendingOf st)[0]? = some (0, n1, pw) := by rw [hB.pend]; rfl
  have e1 : (PyProof.Rows.pendingOf st)[0 + 1]? = some (n1, n2, 0) := by rw [hB.pend]; rfl
  rw [e0, e1]
  dsimp only
  refine wpS_bind (wpS_set ?_)
  have hB' : SB κ a₀ #[(0, n1 + n2, pw)] (SortSt.mk' (kindOf st) (arrOf st) (((pendingOf st).setIfInBounds 0 (0, n1 + n2, pw)).eraseIdxIfInBounds (0 + 1)) (gallopOf st) (failedOf st)) :=
    ⟨hB.perm, hB.kind, hB.failed, by show ((pendingOf st).setIfInBounds 0 (0, n1 + n2, pw)).eraseIdxIfInBounds (0 + 1) = _; rw [hB.pend]; apply Array.ext'; simp [Array.eraseIdxIfInBounds], hB.keys, hB.dist⟩
  have ha' : arrOf (SortSt.mk' (kindOf st) (arrOf st) (((pendingOf st).setIfInBounds 0 (0, n1 + n2, pw)).eraseIdxIfInBounds (0 + 1)) (gallopOf st) (failedOf st)) = arrOf st := rfl
  show wpS _ _ _ _ _ _ (SortSt.mk' (kindOf st) (arrOf st) (((pendingOf st).setIfInBounds 0 (0, n1 + n2, pw)).eraseIdxIfInBounds (0 + 1)) (gallopOf st) (failedOf st))
  generalize SortSt.mk' (kindOf st) (arrOf st) (((pendingOf st).setIfInBounds 0 (0, n1 + n2, pw)).eraseIdxIfInBounds (0 + 1)) (gallopOf st) (failedOf st) = st1 at hB' ha'
  show wpS _ _ _ _ (elem' (arrOf st) n1 >>= _) _ st1
  obtain ⟨q0, hq0⟩ := at_some (a := arrOf st) (i := n1) (by omega)
  have kk : ∀ {i : Nat} {p : Keyed}, (arrOf st)[i]? = some p → κ.keyOf p.1 = some (ky κ p) := fun e => keyed ka e
  refine wpS_bind (wpS_elem hq0 (wpS_bind (wpS_gallop hO hB'.kind (kk hq0) (fun i hi => ?_) (fun i j hij hj => s1 _ _ (by omega) (by omega) (by omega)) (by omega) fun k hk g1 g2 => ?_)))
  · obtain ⟨p, hp⟩ := at_some (a := arrOf st) (i := 0 + i) (by omega)
    exact ⟨p, _, hp, kk hp⟩
  dsimp only
  have lo_le : ∀ i p, i < k → (arrOf st)[i]? = some p → κ.kle (ky κ p) (ky κ q0) := fun i p hi hp => by
    have := g1 i hi
    rw [Nat.zero_add, KK_some hp] at this
    unfold bey at this; unfold KeyOrd.kle; simpa using this
  have hi_gt : ∀ i p, k ≤ i → i < n1 → (arrOf st)[i]? = some p → κ.klt (ky κ q0) (ky κ p) := fun i p hi hi2 hp => by
    have := g2 i hi hi2
    rw [Nat.zero_add, KK_some hp] at this
    unfold bey at this; unfold KeyOrd.klt; simpa using this
  have s2' : ∀ i j p q, n1 ≤ i → i ≤ j → j < n1 + n2 → (arrOf st)[i]? = some p → (arrOf st)[j]? = some q → κ.kle (ky κ p) (ky κ q) := fun i j p q h1 h2 h3 hp hq => by
    have := s2 i j h1 h2 h3; rwa [KK_some hp, KK_some hq] at this
  have s1' : ∀ i j p q, i ≤ j → j < n1 → (arrOf st)[i]? = some p → (arrOf st)[j]? = some q → κ.kle (ky κ p) (ky κ q) := fun i j p q h2 h3 hp hq => by
    have := s1 i j (by omega) h2 h3; rwa [KK_some hp, KK_some hq] at this
  have whole : (∀ i j p q, i < n1 → n1 ≤ j → j < n1 + n2 → (arrOf st)[i]? = some p → (arrOf st)[j]? = some q → κ.kle (ky κ p) (ky κ q)) → Srt κ (arrOf st1) 0 a₀.size := fun hh i j _ hij hj => by
    rw [ha']
    obtain ⟨p, hp⟩ := at_some (a := arrOf st) (i := i) (by omega)
    obtain ⟨q, hq⟩ := at_some (a := arrOf st) (i := j) (by omega)
    rw [KK_some hp, KK_some hq]
    by_cases hj1 : j < n1
    · exact s1' i j p q hij hj1 hp hq
    · by_cases hi1 : i < n1
      · exact hh i j p q hi1 (by omega) (by omega) hp hq
      · exact s2' i j p q (by omega) hij (by omega) hp hq
  by_cases c1 : n1 - k = 0
  · rw [if_pos (by simpa using c1)]
    refine wpS_pure (h _ hB' (whole fun i j p q hi hj hj2 hp hq => ?_))
    exact KeyOrd.kle_trans (lo_le i p (by omega) hp) (s2' n1 j q0 q (Nat.le_refl _) hj hj2 hq0 hq)
  rw [if_neg (by simpa using c1)]
  obtain ⟨p1, hp1⟩ := at_some (a := arrOf st) (i := n1 - 1) (by omega)
  have hidx : 0 + k + (n1 - k) - 1 = n1 - 1 := by omega
  rw [hidx]
  refine wpS_bind (wpS_elem hp1 (wpS_bind (wpS_gallop hO hB'.kind (kk hp1) (fun i hi => ?_) (fun i j hij hj => s2 _ _ (by omega) (by omega) (by omega)) (by omega) fun m hm g3 g4 => ?_)))
  · obtain ⟨p, hp⟩ := at_some (a := arrOf st) (i := n1 + i) (by omega)
    exact ⟨p, _, hp, kk hp⟩
  dsimp only
  have b_lt : ∀ i p, n1 ≤ i → i < n1 + m → (arrOf st)[i]? = some p → κ.klt (ky κ p) (ky κ p1) := fun i p hi1 hi hp => by
    have := g3 (i - n1) (by omega)
    rw [show n1 + (i - n1) = i by omega, KK_some hp] at this
    unfold bey at this; unfold KeyOrd.klt; simpa using this
  have b_ge : ∀ i p, n1 + m ≤ i → i < n1 + n2 → (arrOf st)[i]? = some p → κ.kle (ky κ p1) (ky κ p) := fun i p hi1 hi hp => by
    have := g4 (i - n1) (by omega) (by omega)
    rw [show n1 + (i - n1) = i by omega, KK_some hp] at this
    unfold bey at this; unfold KeyOrd.kle; simpa using this
  by_cases c2 : m = 0
  · rw [if_pos (by simpa using c2)]
    refine wpS_pure (h _ hB' (whole fun i j p q hi hj hj2 hp hq => ?_))
    exact KeyOrd.kle_trans (s1' i (n1 - 1) p p1 (by omega) (by omega) hp hp1) (b_ge j q (by omega) hj2 hq)
  rw [if_neg (by simpa using c2)]
  rw [Nat.zero_add]
  -- the two that are merged
  have pa : ((arrOf st).extract k n1).toList.Pairwise (kr κ) := pair_of (fun i j h1 h2 h3 => s1 i j (by omega) h2 h3) (by omega)
  have pb : ((arrOf st).extract n1 (n1 + m)).toList.Pairwise (kr κ) := pair_of (fun i j h1 h2 h3 => s2 i j h1 h2 (by omega)) (by omega)
  have za : ((arrOf st).extract k n1).size = n1 - k := by simp; omega
  have zb : ((arrOf st).extract n1 (n1 + m)).size = m := by simp; omega
  have hh0 : ∀ q, ((arrOf st).extract n1 (n1 + m))[0]? = some q → ∀ y ∈ ((arrOf st).extract k n1).toList, kr κ q y := fun q hq y hy => by
    rw [ext_at (by omega) (by omega)] at hq
    rw [show n1 + 0 = n1 from rfl, hq0] at hq
    cases hq
    obtain ⟨j, j1, j2, e⟩ := mem_ext hy
    exact KeyOrd.kle_of_klt (hi_gt j y j1 j2 e)
  have hhl : ∀ p, ((arrOf st).extract k n1)[((arrOf st).extract k n1).size - 1]? = some p → ∀ y ∈ ((arrOf st).extract n1 (n1 + m)).toList, kr κ y p := fun p hp y hy => by
    rw [za, ext_at (by omega) (by omega), show k + (n1 - k - 1) = n1 - 1 by omega, hp1] at hp
    cases hp
    obtain ⟨j, j1, j2, e⟩ := mem_ext hy
    exact KeyOrd.kle_of_klt (b_lt j y j1 j2 e)
  have fin : ∀ (r : Array Keyed) (st' : SortSt), Like st1 st' → FinM κ ((arrOf st).extract k n1) ((arrOf st).extract n1 (n1 + m)) r → wpS (model prog w) A E s (do
      modify fun s => setArr s (r.toList.zipIdx.foldl (fun a (x : Keyed × Nat) => a.setIfInBounds (k + x.2) x.1) (arrOf s))
      let s ← get
      pure (failedOf s).isNone) Q st' := by
    intro r st' hL hf
    refine wpS_bind (wpS_modify (wpS_bind (wpS_get (wpS_pure ?_))))
    have hfail : (failedOf st').isNone = true := by rw [hL.failed, hB'.failed]; rfl
    show Q (failedOf st').isNone (setArr st' (r.toList.zipIdx.foldl (fun a (x : Keyed × Nat) => a.setIfInBounds (k + x.2) x.1) (arrOf st')))
    rw [hfail, hL.arr, ha']
    have hlen : r.toList.length = (n1 - k) + m := by rw [hf.1.length_eq]; simp; omega
    have hput := putAt k r.toList 0 (arrOf st) (by omega)
    have hL0 : (arrOf st).toList.length = n1 + n2 := by simp; omega
    generalize hxs : r.toList.zipIdx.foldl (fun a (x : Keyed × Nat) => a.setIfInBounds (k + x.2) x.1) (arrOf st) = ys at hput
    have e1 : (arrOf st).toList = (arrOf st).toList.take k ++ ((((arrOf st).extract k n1).toList ++ ((arrOf st).extract n1 (n1 + m)).toList) ++ (arrOf st).toList.drop (k + 0 + r.toList.length)) := by
      rw [Array.toList_extract, Array.toList_extract, List.extract_eq_take_drop, List.extract_eq_take_drop, hlen, show n1 + m - n1 = m by omega, show k + 0 + (n1 - k + m) = n1 + m by omega, List.append_assoc, ← List.drop_drop, List.take_append_drop, show n1 = k + (n1 - k) by omega, ← List.drop_drop, show k + (n1 - k) - k = n1 - k by omega, List.take_append_drop, List.take_append_drop]
    have hperm : ys.toList.Perm (arrOf st).toList := by
      rw [hput]
      conv => rhs; rw [e1]
      exact List.Perm.append_left _ (hf.1.append_right _)
    have hpair : ys.toList.Pairwise (kr κ) := by
      rw [hput]
      have m1 : ∀ {x}, x ∈ (arrOf st).toList.take k → ∃ j, j < k ∧ (arrOf st)[j]? = some x := fun {x} hx => by
        obtain ⟨j, hj, e⟩ := List.mem_iff_getElem.mp hx
        simp at hj e
        exact ⟨j, by omega, Array.getElem?_eq_some_iff.mpr ⟨by omega, e⟩⟩
      have m2 : ∀ {x}, x ∈ (arrOf st).toList.drop (k + 0 + r.toList.length) → ∃ j, n1 + m ≤ j ∧ j < n1 + n2 ∧ (arrOf st)[j]? = some x := fun {x} hx => by
        rw [hlen] at hx
        obtain ⟨j, hj, e⟩ := List.mem_iff_getElem.mp hx
        simp at hj e
        exact ⟨_, by omega, by omega, Array.getElem?_eq_some_iff.mpr ⟨by omega, e⟩⟩
      have m3 : ∀ {x}, x ∈ r.toList → ∃ j, k ≤ j ∧ j < n1 + m ∧ (arrOf st)[j]? = some x := fun {x} hx => by
        rcases List.mem_append.mp (hf.1.mem_iff.mp hx) with h | h
        · obtain ⟨j, j1, j2, e⟩ := mem_ext h; exact ⟨j, j1, by omega, e⟩
        · obtain ⟨j, j1, j2, e⟩ := mem_ext h; exact ⟨j, by omega, j2, e⟩
      refine List.pairwise_append.mpr ⟨?_, List.pairwise_append.mpr ⟨hf.2, ?_, ?_⟩, ?_⟩
      · have := pair_of (xs := arrOf st) (lo := 0) (hi := k) (fun i j h1 h2 h3 => s1 i j h1 h2 (by omega)) (by omega)
        rw [Array.toList_extract, List.extract_eq_take_drop] at this
        simpa using this
      · have := pair_of (xs := arrOf st) (lo := n1 + m) (hi := n1 + n2) (fun i j h1 h2 h3 => s2 i j (by omega) h2 h3) (by omega)
        rw [Array.toList_extract, List.extract_eq_take_drop, List.take_of_length_le (by simp; omega)] at this
        rw [hlen, show k + 0 + (n1 - k + m) = n1 + m by omega]; exact this
      · intro x hx y hy
        obtain ⟨i, i1, i2, ei⟩ := m3 hx
        obtain ⟨j, j1, j2, ej⟩ := m2 hy
        by_cases hi : i < n1
        · exact KeyOrd.kle_trans (s1' i (n1 - 1) x p1 (by omega) (by omega) ei hp1) (b_ge j y j1 j2 ej)
        · exact s2' i j x y (by omega) (by omega) j2 ei ej
      · intro x hx y hy
        obtain ⟨i, i1, ei⟩ := m1 hx
        have hq0y : ∀ {j}, n1 ≤ j → j < n1 + n2 → (arrOf st)[j]? = some y → kr κ x y := fun {j} h1 h2 e => KeyOrd.kle_trans (lo_le i x i1 ei) (s2' n1 j q0 y (Nat.le_refl _) h1 h2 hq0 e)
        rcases List.mem_append.mp hy with hy | hy
        · obtain ⟨j, j1, j2, ej⟩ := m3 hy
          by_cases hj : j < n1
          · exact s1' i j x y (by omega) hj ei ej
          · exact hq0y (by omega) (by omega) ej
        · obtain ⟨j, j1, j2, ej⟩ := m2 hy
          exact hq0y (by omega) j2 ej
    refine h _ ⟨(Array.perm_iff_toList_perm.mpr hperm).trans hB.perm, hL.kind.trans hB'.kind, hL.failed.trans hB'.failed, hL.pend.trans hB'.pend, hB'.keys, hB'.dist⟩ (srt_of hpair ?_)
    have := hperm.length_eq
    simp at this
    show a₀.size ≤ ys.size
    omega
  by_cases c3 : n1 - k ≤ m
  · rw [if_pos c3]
    refine wpS_bind (wpS_mergeLo hO hB'.kind (keys_ext ka _ _) (keys_ext ka _ _) pa pb (Nat.le_of_lt_succ (by rw [za]; omega)) (Nat.le_of_lt_succ (by rw [zb]; omega)) hh0 hhl fun r st' hL hf => ?_)
    exact fin r st' hL hf
  · rw [if_neg c3]
    refine wpS_bind (wpS_mergeHi hO hB'.kind (keys_ext ka _ _) (keys_ext ka _ _) pa pb (Nat.le_of_lt_succ (by rw [za]; omega)) (Nat.le_of_lt_succ (by rw [zb]; omega)) hh0 hhl fun r st' hL hf => ?_)
    exact fin r st' hL hf
end
end Mine
namespace Mine
section
variable {prog : Program} {w : World} {A : Around} {E : Value → Shared → Prop} {s : Shared} {κ : KeyKind} {a₀ xs : Array Keyed}

noncomputable def Two (κ : KeyKind) (a₀ : Array Keyed) (st : SortSt) : Prop := (∃ pw, SB κ a₀ #[(0, a₀.size, pw)] st ∧ Srt κ (arrOf st) 0 a₀.size) ∨
  (∃ n1 n2 pw, SB κ a₀ #[(0, n1, pw), (n1, n2, 0)] st ∧ n1 + n2 = a₀.size ∧ 1 ≤ n1 ∧ 1 ≤ n2 ∧ Srt κ (arrOf st) 0 n1 ∧ Srt κ (arrOf st) n1 (n1 + n2))

theorem SB.pended {pend : Array (Nat × Nat × Nat)} {st : SortSt} (h : SB κ a₀ pend st) {f : Array (Nat × Nat × Nat) → Array (Nat × Nat × Nat)} {pend' : Array (Nat × Nat × Nat)} (e : f pend = pend') : SB κ a₀ pend' (setPending st (f (pendingOf st))) :=
  ⟨h.perm, h.kind, h.failed, by show f (pendingOf st) = _; rw [h.pend, e], h.keys, h.dist⟩

theorem mod1 {α : Type} (f : α → α) (x : α) : (#[x] : Array α).modify ((#[x] : Array α).size - 1) f = #[f x] := rfl
noncomputable def RunI (κ : KeyKind) (a₀ : Array Keyed) (mr x : Nat) (c : Option Unit × Nat) (st' : SortSt) : Prop :=
  (x = 0 ∧ c = (none, 0) ∧ SB κ a₀ #[] st') ∨ (x = 1 ∧ ∃ n1, c = (none, n1) ∧ mr ≤ n1 ∧ n1 < a₀.size ∧ SB κ a₀ #[(0, n1, 0)] st' ∧ Srt κ (arrOf st') 0 n1) ∨ (1 ≤ x ∧ c = (none, a₀.size) ∧ Two κ a₀ st')

set_option maxHeartbeats 1000000 in
theorem wpS_sortRuns2 {st : SortSt} {mr : Nat} {Q : Unit → SortSt → Prop} (hO : κ.OneLt) (hB : SB κ a₀ #[] st) (h2 : 2 ≤ a₀.size) (hmr : minRun' a₀.size a₀.size 0 = mr) (hm1 : a₀.size ≤ 2 * mr) (hm2 : mr ≤ a₀.size)
    (h : ∀ st', (arrOf st').Perm a₀ → failedOf st' = none → SortedToK κ (arrOf st') a₀.size → Q () st') : wpS (model prog w) A E s sortRuns' Q st := by
  rw [sortRuns'_eq]
  refine wpS_bind (wpS_get ?_)
  dsimp only
  simp only [hB.size, hmr]
  refine wpS_bind (wpS_mono (wpS_forRange (I := RunI κ a₀ mr)
    (Q := fun c st' => c = (none, a₀.size) ∧ Two κ a₀ st') ?step ?fin (.inl ⟨rfl, rfl, hB⟩)) ?post)
  case fin =>
    rintro c st' (⟨hx, _, _⟩ | ⟨hx, _⟩ | ⟨_, hc, hD⟩)
    · omega
    · omega
    · exact ⟨hc, hD⟩
  case step =>
    rintro x c st' _ hx (⟨rfl, rfl, hB'⟩ | ⟨rfl, n1, rfl, hn1, hn2, hB', hs1⟩ | ⟨hx1, rfl, hD⟩)
    · dsimp only
      rw [if_neg (by omega)]
      refine wpS_bind (wpS_countRunLo hO hB' (by omega) (by omega) fun m st2 hB2 hm1' hm2' hs2 _ => ?_)
      dsimp only
      have fin : ∀ (n : Nat) (st3 : SortSt), mr ≤ n → n ≤ a₀.size → SB κ a₀ #[] st3 → Srt κ (arrOf st3) 0 (0 + n) → 1 ≤ n → RunI κ a₀ mr (0 + 1) (none, 0 + n) (setPending st3 ((pendingOf st3).push (0, n, 0))) := by
        intro n st3 q1 q2 hB3 hs3 q3
        have hB4 : SB κ a₀ #[(0, n, 0)] (setPending st3 ((pendingOf st3).push (0, n, 0))) := hB3.pended (f := fun p => p.push (0, n, 0)) rfl
        rw [Nat.zero_add] at hs3 ⊢
        by_cases q4 : n = a₀.size
        · subst q4
          exact .inr (.inr ⟨by omega, by rw [Nat.zero_add], .inl ⟨0, hB4, hs3⟩⟩)
        · exact .inr (.inl ⟨rfl, n, by rw [Nat.zero_add], q1, by omega, hB4, hs3⟩)
      by_cases hlt : m < mr
      · rw [if_pos hlt]
        refine wpS_bind (wpS_lift (wpAny_rule ⟨rfl, ?_⟩))
        refine wpS_bind (wpS_binarySortLo hO hB2 (by omega) hm1' (by omega) hs2 fun st3 hB3 hs3 _ => ?_)
        simp only [Bool.not_true, Bool.false_eq_true, if_false]
        refine wpS_bind (wpS_get ?_)
        have hb : (pendingOf st3).back? = none := by rw [hB3.pend]; rfl
        rw [hb]
        dsimp only
        exact wpS_bind (wpS_modify (wpS_pure (fin (min (a₀.size - 0) mr) st3 (by omega) (by omega) hB3 hs3 (by omega))))
      · rw [if_neg hlt]
        refine wpS_bind (wpS_get ?_)
        have hb : (pendingOf st2).back? = none := by rw [hB2.pend]; rfl
        rw [hb]
        dsimp only
        exact wpS_bind (wpS_modify (wpS_pure (fin m st2 (by omega) (by omega) hB2 hs2 hm1')))
    · dsimp only
      rw [if_neg (by omega)]
      refine wpS_bind (wpS_countRunLo hO hB' (by omega) (by omega) fun m st2 hB2 hm1' hm2' hs2 hsame => ?_)
      have hs1' : Srt κ (arrOf st2) 0 n1 := hs1.same hsame (Nat.le_refl _)
      dsimp only
      by_cases hlt : m < mr
      · rw [if_pos hlt]
        refine wpS_bind (wpS_lift (wpAny_rule ⟨rfl, ?_⟩))
        refine wpS_bind (wpS_binarySortLo hO hB2 (by omega) hm1' (by omega) hs2 fun st3 hB3 q2 hsame3 => ?_)
        have q1 := hs1'.same hsame3 (Nat.le_refl _)
        simp only [Bool.not_true, Bool.false_eq_true, if_false]
        refine wpS_bind (wpS_get ?_)
        have hb : (pendingOf st3).back? = some (0, n1, 0) := by rw [hB3.pend]; rfl
        rw [hb]
        dsimp only
        refine wpS_bind (wpS_mono (wpS_forRange (I := fun x c st' => st' = st3 ∧ c = (none, ())) (Q := fun c st' => st' = st3 ∧ c = (none, ())) ?_ (fun _ _ hh => hh) ⟨rfl, rfl⟩) ?_)
        · rintro x c st' _ _ ⟨rfl, rfl⟩
          refine wpS_bind (wpS_get ?_)
          have : (if (pendingOf st').size > 1 then (pendingOf st')[(pendingOf st').size - 2]? else none) = none := by rw [hB3.pend]; rfl
          rw [this]
          exact wpS_pure ⟨rfl, rfl⟩
        rintro c st' ⟨rfl, rfl⟩
        dsimp only
        refine wpS_bind (wpS_modify (wpS_bind (wpS_modify (wpS_pure (.inr (.inr ⟨by omega, ?_, .inr ⟨n1, (min (a₀.size - n1) mr), power' a₀.size (2 * 0 + n1) (2 * 0 + n1 + n1 + (min (a₀.size - n1) mr)) a₀.size, ?_, by omega, by omega, by omega, q1, q2⟩⟩))))))
        · rw [show n1 + (min (a₀.size - n1) mr) = a₀.size by omega]
        refine SB.pended (pend := #[(0, n1, power' a₀.size (2 * 0 + n1) (2 * 0 + n1 + n1 + (min (a₀.size - n1) mr)) a₀.size)]) (f := fun p => p.push (n1, (min (a₀.size - n1) mr), 0)) (SB.pended (pend := #[(0, n1, 0)]) (f := fun p => p.modify (p.size - 1) fun (st, len, _) => (st, len, power' a₀.size (2 * 0 + n1) (2 * 0 + n1 + n1 + (min (a₀.size - n1) mr)) a₀.size)) hB3 ?_) rfl
        exact mod1 _ _
      · rw [if_neg hlt]
        have hB3 := hB2
        have q1 := hs1'
        have q2 := hs2
        refine wpS_bind (wpS_get ?_)
        have hb : (pendingOf st2).back? = some (0, n1, 0) := by rw [hB3.pend]; rfl
        rw [hb]
        dsimp only
        refine wpS_bind (wpS_mono (wpS_forRange (I := fun x c st' => st' = st2 ∧ c = (none, ())) (Q := fun c st' => st' = st2 ∧ c = (none, ())) ?_ (fun _ _ hh => hh) ⟨rfl, rfl⟩) ?_)
        · rintro x c st' _ _ ⟨rfl, rfl⟩
          refine wpS_bind (wpS_get ?_)
          have : (if (pendingOf st').size > 1 then (pendingOf st')[(pendingOf st').size - 2]? else none) = none := by rw [hB3.pend]; rfl
          rw [this]
          exact wpS_pure ⟨rfl, rfl⟩
        rintro c st' ⟨rfl, rfl⟩
        dsimp only
        refine wpS_bind (wpS_modify (wpS_bind (wpS_modify (wpS_pure (.inr (.inr ⟨by omega, ?_, .inr ⟨n1, m, power' a₀.size (2 * 0 + n1) (2 * 0 + n1 + n1 + m) a₀.size, ?_, by omega, by omega, by omega, q1, q2⟩⟩))))))
        · rw [show n1 + m = a₀.size by omega]
        refine SB.pended (pend := #[(0, n1, power' a₀.size (2 * 0 + n1) (2 * 0 + n1 + n1 + m) a₀.size)]) (f := fun p => p.push (n1, m, 0)) (SB.pended (pend := #[(0, n1, 0)]) (f := fun p => p.modify (p.size - 1) fun (st, len, _) => (st, len, power' a₀.size (2 * 0 + n1) (2 * 0 + n1 + n1 + m) a₀.size)) hB3 ?_) rfl
        exact mod1 _ _
    · dsimp only
      rw [if_pos (Nat.le_refl _)]
      exact wpS_pure ⟨rfl, hD⟩
  case post =>
    rintro c st' ⟨rfl, hD⟩
    dsimp only
    refine wpS_bind (wpS_mono (wpS_forRange (I := fun x c st'' => c = (none, ()) ∧ ((x = 0 ∧ Two κ a₀ st'') ∨ ∃ pw, SB κ a₀ #[(0, a₀.size, pw)] st'' ∧ Srt κ (arrOf st'') 0 a₀.size)) (Q := fun c st'' => c = (none, ()) ∧ ∃ pw, SB κ a₀ #[(0, a₀.size, pw)] st'' ∧ Srt κ (arrOf st'') 0 a₀.size) ?_ ?_ ⟨rfl, .inl ⟨rfl, hD⟩⟩) ?_)
    · rintro x c st'' _ _ ⟨rfl, hor⟩
      have hor' : (∃ pw, SB κ a₀ #[(0, a₀.size, pw)] st'' ∧ Srt κ (arrOf st'') 0 a₀.size) ∨ (∃ n1 n2 pw, SB κ a₀ #[(0, n1, pw), (n1, n2, 0)] st'' ∧ n1 + n2 = a₀.size ∧ 1 ≤ n1 ∧ 1 ≤ n2 ∧ Srt κ (arrOf st'') 0 n1 ∧ Srt κ (arrOf st'') n1 (n1 + n2)) := by
        rcases hor with ⟨_, h1 | h1⟩ | h1
        · exact .inl h1
        · exact .inr h1
        · exact .inl h1
      refine wpS_bind (wpS_get ?_)
      rcases hor' with ⟨pw, hB4, hs4⟩ | ⟨n1, n2, pw, hB4, q1, q2, q3, q4, q5⟩
      · rw [if_pos (by rw [hB4.pend]; exact Nat.le_refl 1)]
        exact wpS_pure ⟨rfl, pw, hB4, hs4⟩
      · have hz : (pendingOf st'').size = 2 := by rw [hB4.pend]; rfl
        rw [if_neg (by rw [hz]; decide)]
        simp only [hz]
        refine wpS_bind (wpS_mergeAt0 hO hB4 q1 q2 q3 q4 q5 fun st5 hB5 hs5 => ?_)
        refine wpS_pure ⟨rfl, .inr ⟨pw, ?_, hs5⟩⟩
        rw [q1] at hB5; exact hB5
    · rintro c st'' ⟨hc, ⟨hx, _⟩ | hq⟩
      · omega
      · exact ⟨hc, hq⟩
    · rintro c st'' ⟨rfl, pw, hB4, hs4⟩
      exact wpS_pure (h _ hB4.perm hB4.failed fun i j hij hj => hs4 i j (Nat.zero_le _) hij hj)
end
end Mine
namespace Mine
section
variable {prog : Program} {w : World} {A : Around} {E : Value → Shared → Prop} {s : Shared}

theorem list_sort2 {κ : KeyKind} {mr : Nat} (hO : κ.OneLt) {a : Addr} {vs : List Value} {n : Nat} {P : Fin → Shared → Prop} (ho : s.heap.get? a = some (seqObj "list" vs.toArray n))
    (h0 : KeysOf κ (pairsOf vs)) (hd : ((pairsOf vs).toList.map fun p => (κ.keyOf p.1).getD κ.dflt).Nodup) (hkk : ∀ v₁ v₂ rest, vs = v₁ :: v₂ :: rest → keyKind' (v₁ :: v₂ :: rest).toArray = pure oneType') (h2 : 2 ≤ vs.length) (hz : vs.length ≤ 16777216)
    (hmr : minRun' vs.length vs.length 0 = mr) (hm1 : vs.length ≤ 2 * mr) (hm2 : mr ≤ vs.length)
    (h : ∀ st' : SortSt, (arrOf st').Perm (pairsOf vs) → SortedToK κ (arrOf st') (pairsOf vs).size → P (.done (.ret .none)) { s with heap := sortedHeap s.heap a vs ((arrOf st').map (·.2)) }) :
    wpAny (model prog w) A (Builtin.«list.sort» ⟨[.ref a], []⟩) P E s := by
  rw [list_sort_plain]
  have ha : a < s.heap.objs.size := Heap.lt_size ho
  refine wpAny_bind (listItems_at ho rfl ?_)
  refine wpAny_bind (listUpdate_at ho rfl ?_)
  obtain ⟨e1, ho1⟩ : ∃ e1, (s.heap.update a (Obj.mapSeq fun _ => #[])).get? a = some (seqObj "list" #[] e1) := ⟨_, get?_update_seq ho (fun _ => #[])⟩
  refine wpAny_bind (seqEpoch_at ho1 rfl ?_)
  refine wpAny_bind (wpAny_newTuple ?_)
  refine wpAny_bind (wpAny_newList ?_)
  refine wpAny_holding ?_
  have ho6 : (((s.heap.update a (Obj.mapSeq fun _ => #[])).push (seqObj "tuple" vs.toArray 0)).push (seqObj "list" #[] 0)).get? a = some (seqObj "list" #[] e1) := by
    rw [Heap.get?_push_ne _ _ _ (by rw [size_push', Heap.size_update]; exact Nat.ne_of_lt (Nat.lt_succ_of_lt ha)), Heap.get?_push_ne _ _ _ (by rw [Heap.size_update]; exact Nat.ne_of_lt ha)]
    exact ho1
  show wpAny (model prog w) A _ P E { s with heap := ((s.heap.update a (Obj.mapSeq fun _ => #[])).push (seqObj "tuple" vs.toArray 0)).push (seqObj "list" #[] 0) }
  dsimp only
  have hn2 : ¬ vs.toArray.size < 2 := by simp; omega
  rw [if_neg hn2, if_neg hn2]
  obtain ⟨v₁, v₂, rest, rfl⟩ : ∃ v₁ v₂ rest, vs = v₁ :: v₂ :: rest := by
    match vs, h2 with
    | [], h2 => simp at h2
    | [_], h2 => simp at h2
    | v₁ :: v₂ :: rest, _ => exact ⟨v₁, v₂, rest, rfl⟩
  rw [hkk _ _ _ rfl]
  refine wpAny_bind (wpAny_pure ?_)
  have hps := pairsOf_size (v₁ :: v₂ :: rest)
  refine wpAny_bind (wpAny_mono (wpS_sortRuns2 (κ := κ) (mr := mr) hO (a₀ := pairsOf (v₁ :: v₂ :: rest)) (st := SortSt.mk' oneType' ((v₁ :: v₂ :: rest).toArray.zip (v₁ :: v₂ :: rest).toArray) #[] 7 none)
    (Q := fun _ st' => (arrOf st').Perm (pairsOf (v₁ :: v₂ :: rest)) ∧ failedOf st' = none ∧ SortedToK κ (arrOf st') (pairsOf (v₁ :: v₂ :: rest)).size)
    ⟨Array.Perm.refl _, rfl, rfl, rfl, h0, hd⟩ (by rw [hps]; exact h2) (by rw [hps]; exact hmr) (by rw [hps]; exact hm1) (by rw [hps]; exact hm2) fun st' a1 a2 a3 => ⟨a1, a2, a3⟩) ?_ fun _ _ e => e)
  rintro ⟨⟨⟩, st'⟩ s' ⟨rfl, hp, hf, hs⟩
  dsimp only
  refine wpAny_bind (seqEpoch_at ho6 rfl ?_)
  refine wpAny_bind (listUpdate_at ho6 rfl ?_ (hsz2 := by refine Nat.le_trans (Nat.le_of_eq ((Array.size_map ..).trans (hp.size_eq.trans hps))) ?_; rw [sizeLine_eq]; exact Nat.le_succ_of_le hz))
  rw [hf]
  simp only [bne_self_eq_false, Bool.false_eq_true, if_false]
  exact wpAny_pure (h st' hp hs)
end
section
variable {c : Cx} {n : Nat}
theorem strs_nodup : ∀ {vs : List Value} {ls : List (List Nat)}, StrsAre vs (ls.map S) → ((pairsOf vs).toList.map fun p => (PyProof.Rows.strKind.keyOf p.1).getD PyProof.Rows.strKind.dflt) = ls
  | [], [], _ => by rw [pairsOf_toList]; rfl
  | v :: vs, l :: ls, h => by
    cases h with
    | cons x t h =>
      have ih := strs_nodup h
      rw [pairsOf_toList] at ih ⊢
      rw [List.zip_cons_cons, List.map_cons, ih]
      simp [PyProof.Rows.strKind]

/-- list.sort of texts, two runs -/
theorem sort_wp2 {A : Around} {E : Value → Shared → Prop} {s : Shared} {x : Value} {vs : List Value} {ls : List (List Nat)} {mr : Nat} {Q : Value → Shared → Prop} (hS : StrsAre vs (ls.map S)) (hnd : ls.Nodup) (h2 : 2 ≤ vs.length) (hz : vs.length ≤ 16777216)
    (hmr : minRun' vs.length vs.length 0 = mr) (hm1 : vs.length ≤ 2 * mr) (hm2 : mr ≤ vs.length)
    (hcol : ∀ R : List Value → Shared → Prop, (∀ h' tk, Keeps s.heap h' → R vs { s with heap := h', toks := tk }) → wpAny c.M A.in1 (collect x) R E s)
    (hQ : ∀ h' tk a o us m, Keeps s.heap h' → s.heap.get? a = none → h'.get? a = some o → o.cls = .type "list" → (o.dict = none ∧ o.slots = #[]) → o.data = .seq us m → StrsAre us.toList ((srt ls).map S) → Q (.ref a) { s with heap := h', toks := tk }) :
    wpAny c.M A (call (.builtin "sorted") [x]) Q E s := by
  refine Calls.call_function_entry kind_sorted plain_sorted entry_sorted (args_sorted1 _) ?_
  unfold Builtin.«sorted»
  refine wpAny_bind (m := checkCount "sorted" 1 1 _) (wpAny_pure ?_)
  refine wpAny_bind (hcol _ fun h₁ tk hk₁ => ?_)
  refine wpAny_bind (wpAny_newList ?_ (by rw [sizeLine_eq]; exact hz))
  have hoL : (h₁.push (seqObj "list" vs.toArray 0)).get? h₁.objs.size = some (seqObj "list" vs.toArray 0) := Heap.get?_push_size _ rfl
  show wpAny _ _ _ _ _ { s with heap := h₁.push (seqObj "list" vs.toArray 0), toks := tk }
  refine wpAny_bind (wpAny_holding (wpAny_call_entry slot_list_sort ⟨_, hoL, rfl⟩ entry_list_sort (list_sort2 strKind_oneLt hoL hS.keysOf (by rw [strs_nodup hS]; exact hnd) (fun v₁ v₂ rest e => keyKind_strs (by rw [← e]; exact hS)) h2 hz hmr hm1 hm2 fun st' a1 a2 => ⟨_, rfl, ?_⟩) (args_list_sort _)))
  refine wpAny_pure ⟨_, rfl, ?_⟩
  obtain ⟨ss', h1, h2, h3⟩ := sorted_out_str hS a1 a2
  obtain ⟨e, he⟩ := sortedHeap_at (out := (arrOf st').map (·.2)) hoL
  have hnone : s.heap.get? h₁.objs.size = none := by
    cases q : s.heap.get? h₁.objs.size with
    | none => rfl
    | some o => exact absurd (Heap.lt_size (hk₁ _ _ q)) (Nat.lt_irrefl _)
  refine hQ _ _ _ _ _ _ (fun b o q => ?_) hnone he rfl ⟨rfl, rfl⟩ rfl ?_
  · have hb := hk₁ _ _ q
    have hlt := Heap.lt_size hb
    rw [sortedHeap_old (Nat.ne_of_lt hlt) (by rw [Heap.size_push]; exact Nat.lt_succ_of_lt hlt)]
    exact Heap.get?_push_of_some _ hb
  · have e2 : ss'.map (fun x => x.cps.toList) = srt ls := by
      refine srt_eq ?_ ?_
      · have := h2.map fun x : Str => x.cps.toList
        rw [List.map_map] at this
        have e3 : ls.map ((fun x : Str => x.cps.toList) ∘ S) = ls := by
          conv => rhs; rw [← List.map_id ls]
          exact List.map_congr_left fun l _ => by simp
        rw [e3] at this; exact this
      · exact List.pairwise_map.mpr (sortedS_pairwise ss' h3)
    rw [← e2, List.map_map]
    have e4 : ss'.map (S ∘ fun x : Str => x.cps.toList) = ss' := by
      conv => rhs; rw [← List.map_id ss']
      exact List.map_congr_left fun x _ => (S_of x).symm
    rw [e4]; exact h1

/-- sorted of 81 texts, no two alike -/
theorem FnR.sorted81 {ls : List (List Nat)} (h81 : ls.length = 81) (hnd : ls.Nodup) : FnR c n (.builtin "sorted") [.list (ls.map sd)] (.list ((srt ls).map sd)) := .mk fun A V s vs hA hS r => by
  cases r with
  | cons r rs => cases rs; cases r with
    | @list a o us m _ na ho hcl hd hdt r =>
      have hlen : us.toList.length = 81 := by rw [← h81, ← r.length]; simp
      have hl : s.heap.IsList a us.toList.toArray := ⟨o, ho, hcl, m, by simpa using hdt⟩
      refine wp_end (sort_wp2 (c := c) (mr := 41) (strsAre_of r) hnd (by omega) (by omega) (by rw [hlen]; decide +kernel) (by omega) (by omega) (fun R hR => collect_list hl (hR _ s.toks fun b o' e => ?_) (by rw [sizeLine_eq]; omega)) fun h' tk a' o' us' m' hk hn ho' hc' hd' hdt' hSt => ⟨hk, rfl, rfl, fun _ => .list (fun q => ?_) ho' hc' hd' hdt' ?_⟩)
      · exact (Heap.get?_update_other _ _ (fun q => absurd (Heap.lt_size e) (by rw [← q]; exact Nat.lt_irrefl _))).trans (Heap.get?_push_of_some _ e)
      · obtain ⟨o2, e2⟩ := hS.live _ q; rw [hn] at e2; cases e2
      · have := rep_of_strs (c := c) (V := V) (s := { s with heap := h', toks := tk }) hSt
        rw [List.map_map] at this
        have e4 : (srt ls).map ((fun x : Str => sd x.cps.toList) ∘ S) = (srt ls).map sd := List.map_congr_left fun x _ => by simp
        rw [e4] at this; exact this
end
end Mine
namespace Mine
section
variable {c : Cx} {n : Nat}
noncomputable abbrev p03 := PySem.Challenge.pw_dn0276_03

theorem at_fn (hd : IsDef c 28 (scAt p03 2) ["text"] (bodyAt p03 2)) {l : List Nat} (hl : l.length ≤ 100000) : FnR c (n + 1) (.ref 28) [sd l] (sd (l.flatMap (wrT tAt))) := by
  refine escFn hd (by decide) (Tr.last (Sx.try ?_))
  refine Tr.escStep (q := 38) hl rfl (by decide) (.inl rfl) (by decide) (by decide) (by decide) ?_
  refine Tr.escStep (q := 60) hl rfl (by decide) (.inl rfl) (by decide) (by decide) (by decide) ?_
  refine Tr.escStep (q := 62) hl rfl (by decide) (.inl rfl) (by decide) (by decide) (by decide) ?_
  refine Tr.escStep (q := 34) hl rfl (by decide) (.inl rfl) (by decide) (by decide) (by decide) ?_
  refine Tr.escStep (q := 13) hl rfl (by decide) (.inl rfl) (by decide) (by decide) (by decide) ?_
  refine Tr.escStep (q := 10) hl rfl (by decide) (.inl rfl) (by decide) (by decide) (by decide) ?_
  refine Tr.escStep (q := 9) hl rfl (by decide) (.inl rfl) (by decide) (by decide) (by decide) ?_
  exact Tr.last (Sx.ret (Ev.name rfl) rfl)
theorem cc_fn (hd : IsDef c 35 (scAt p03 3) ["text"] (bodyAt p03 3)) {l : List Nat} (hl : l.length ≤ 100000) : FnR c (n + 1) (.ref 35) [sd l] (sd (l.flatMap (wrT tCc))) := by
  refine escFn hd (by decide) (Tr.last (Sx.try ?_))
  refine Tr.escStep (q := 38) hl rfl (by decide) (.inl rfl) (by decide) (by decide) (by decide) ?_
  refine Tr.escStep (q := 60) hl rfl (by decide) (.inl rfl) (by decide) (by decide) (by decide) ?_
  refine Tr.escStep (q := 62) hl rfl (by decide) (.inl rfl) (by decide) (by decide) (by decide) ?_
  refine Tr.escStep (q := 13) hl rfl (by decide) (.inl rfl) (by decide) (by decide) (by decide) ?_
  exact Tr.last (Sx.ret (Ev.name rfl) rfl)
theorem ac_fn (hd : IsDef c 42 (scAt p03 4) ["text"] (bodyAt p03 4)) {l : List Nat} (hl : l.length ≤ 100000) : FnR c (n + 1) (.ref 42) [sd l] (sd (l.flatMap (wrT tAc))) := by
  refine escFn hd (by decide) (Tr.last (Sx.try ?_))
  refine Tr.escStep (q := 38) hl rfl (by decide) (.inl rfl) (by decide) (by decide) (by decide) ?_
  refine Tr.escStep (q := 60) hl rfl (by decide) (.inl rfl) (by decide) (by decide) (by decide) ?_
  refine Tr.escStep (q := 34) hl rfl (by decide) (.inl rfl) (by decide) (by decide) (by decide) ?_
  refine Tr.escStep (q := 9) hl rfl (by decide) (.inl rfl) (by decide) (by decide) (by decide) ?_
  refine Tr.escStep (q := 10) hl rfl (by decide) (.inl rfl) (by decide) (by decide) (by decide) ?_
  refine Tr.escStep (q := 13) hl rfl (by decide) (.inl rfl) (by decide) (by decide) (by decide) ?_
  exact Tr.last (Sx.ret (Ev.name rfl) rfl)

structure E03 (c : Cx) : Prop where
  at' : IsDef c 28 (scAt p03 2) ["text"] (bodyAt p03 2)
  cc : IsDef c 35 (scAt p03 3) ["text"] (bodyAt p03 3)
  ac : IsDef c 42 (scAt p03 4) ["text"] (bodyAt p03 4)
  gat : c.mg (Str.ofString "_escape_attrib") = some (.ref 28)
  gcc : c.mg (Str.ofString "_escape_cdata_c14n") = some (.ref 35)
  gac : c.mg (Str.ofString "_escape_attrib_c14n") = some (.ref 42)

/-- the three escapes in the law's order, and their tables -/
noncomputable def handA : List Addr := [28, 42, 35]
noncomputable def handT : List Tab := [tAt, tAc, tCc]
theorem hand_fn (E : E03 c) {h : Nat} (hh : h < 3) {l : List Nat} (hl : l.length ≤ 100000) : FnR c (n + 1) (.ref (handA.getD h 0)) [sd l] (sd (l.flatMap (wrT (handT.getD h [])))) := by
  match h, hh with
  | 0, _ => exact at_fn E.at' hl
  | 1, _ => exact ac_fn E.ac hl
  | 2, _ => exact cc_fn E.cc hl
theorem hand_callee (E : E03 c) {h : Nat} (hh : h < 3) : Callee c (.ref (handA.getD h 0)) := by
  match h, hh with
  | 0, _ => exact E.at'.callee
  | 1, _ => exact E.ac.callee
  | 2, _ => exact E.cc.callee
end
end Mine
namespace Mine
section
variable (w : Nat → List Nat) (sg : List Nat) (L : Nat)

noncomputable abbrev wtt (t : List Nat) : List Nat := t.flatMap w
/-- the texts of one length that are looked at -/
noncomputable def lev : Nat → List (List Nat)
  | 0 => [[]]
  | k + 1 => ((lev k).filter fun t => decide ((wtt w t).length < L)).flatMap fun t => sg.map fun s => t ++ [s]
noncomputable def fnd (k n : Nat) : List (List Nat) := (List.range k).flatMap fun j => (lev w sg L j).filter fun t => decide ((wtt w t).length = n)
/-- the rows -/
noncomputable def tilF : Nat → Nat → List (List Nat)
  | 0, _ => []
  | f + 1, n => if n = 0 then [[]] else sg.flatMap fun s => if (w s).length ≤ n then (tilF f (n - (w s).length)).map (s :: ·) else []
noncomputable def til (n : Nat) : List (List Nat) := tilF w sg (n + 1) n

variable {w sg L}
theorem tilF_more (hw : ∀ s ∈ sg, 1 ≤ (w s).length) : ∀ (f g n : Nat), n < f → n < g → tilF w sg f n = tilF w sg g n
  | f + 1, g + 1, n, h1, h2 => by
    show (if n = 0 then _ else _) = if n = 0 then _ else _
    by_cases h0 : n = 0
    · rw [if_pos h0, if_pos h0]
    · rw [if_neg h0, if_neg h0]
      have key : ∀ l : List Nat, (∀ s ∈ l, s ∈ sg) → (l.flatMap fun s => if (w s).length ≤ n then (tilF w sg f (n - (w s).length)).map (s :: ·) else []) = l.flatMap fun s => if (w s).length ≤ n then (tilF w sg g (n - (w s).length)).map (s :: ·) else [] := by
        intro l
        induction l with
        | nil => intro _; rfl
        | cons s l ih =>
          intro h
          rw [List.flatMap_cons, List.flatMap_cons, ih fun q hq => h q (.tail _ hq)]
          congr 1
          have := hw s (h s (.head _))
          split
          · rw [tilF_more hw f g _ (by omega) (by omega)]
          · rfl
      exact key sg fun _ q => q
theorem til_zero : til w sg 0 = [[]] := rfl
theorem til_pos (hw : ∀ s ∈ sg, 1 ≤ (w s).length) {n : Nat} (hn : n ≠ 0) : til w sg n = sg.flatMap fun s => if (w s).length ≤ n then (til w sg (n - (w s).length)).map (s :: ·) else [] := by
  unfold til
  show (if n = 0 then _ else _) = _
  rw [if_neg hn]
  have key : ∀ l : List Nat, (∀ s ∈ l, s ∈ sg) → (l.flatMap fun s => if (w s).length ≤ n then (tilF w sg n (n - (w s).length)).map (s :: ·) else []) = l.flatMap fun s => if (w s).length ≤ n then (tilF w sg (n - (w s).length + 1) (n - (w s).length)).map (s :: ·) else [] := by
    intro l
    induction l with
    | nil => intro _; rfl
    | cons s l ih =>
      intro h
      rw [List.flatMap_cons, List.flatMap_cons, ih fun q hq => h q (.tail _ hq)]
      congr 1
      have := hw s (h s (.head _))
      split
      · rw [tilF_more hw n (n - (w s).length + 1) _ (by omega) (by omega)]
      · rfl
  exact key sg fun _ q => q
theorem wtt_cons (s : Nat) (t : List Nat) : wtt w (s :: t) = w s ++ wtt w t := List.flatMap_cons
theorem wtt_snoc (s : Nat) (t : List Nat) : wtt w (t ++ [s]) = wtt w t ++ w s := by simp [wtt]

theorem mem_til (hw : ∀ s ∈ sg, 1 ≤ (w s).length) : ∀ (t : List Nat) (n : Nat), t ∈ til w sg n ↔ (∀ a ∈ t, a ∈ sg) ∧ (wtt w t).length = n
  | [], n => by
    by_cases hn : n = 0
    · subst hn; simp [til_zero]
    · rw [til_pos hw hn]
      constructor
      · intro h
        obtain ⟨s, hs, h⟩ := List.mem_flatMap.mp h
        split at h
        · simp at h
        · cases h
      · rintro ⟨_, h⟩
        exact absurd h (by simp; omega)
  | s :: t, n => by
    by_cases hn : n = 0
    · subst hn
      rw [til_zero]
      constructor
      · intro h; simp at h
      · rintro ⟨h1, h2⟩
        rw [wtt_cons] at h2
        have := hw s (h1 s (.head _))
        rw [List.length_append] at h2; omega
    · rw [til_pos hw hn]
      constructor
      · intro h
        obtain ⟨s', hs', h⟩ := List.mem_flatMap.mp h
        split at h
        · obtain ⟨t', ht', e⟩ := List.mem_map.mp h
          cases e
          have := (mem_til hw t _).mp ht'
          refine ⟨fun a ha => ?_, ?_⟩
          · rcases List.mem_cons.mp ha with rfl | ha
            · exact hs'
            · exact this.1 a ha
          · rw [wtt_cons, List.length_append, this.2]; omega
        · cases h
      · rintro ⟨h1, h2⟩
        refine List.mem_flatMap.mpr ⟨s, h1 s (.head _), ?_⟩
        rw [wtt_cons, List.length_append] at h2
        rw [if_pos (by omega)]
        exact List.mem_map.mpr ⟨t, (mem_til hw t _).mpr ⟨fun a ha => h1 a (.tail _ ha), by omega⟩, rfl⟩
theorem nodup_til (hw : ∀ s ∈ sg, 1 ≤ (w s).length) (hs : sg.Nodup) : ∀ m n, n < m → (til w sg n).Nodup
  | 0, n, h => absurd h (Nat.not_lt_zero _)
  | m + 1, n, h => by
    by_cases hn : n = 0
    · subst hn; rw [til_zero]; simp
    · rw [til_pos hw hn]
      refine List.pairwise_flatMap.mpr ⟨fun s hs' => ?_, ?_⟩
      · have := hw s hs'
        split
        · rw [List.pairwise_map]
          exact (nodup_til hw hs m (n - (w s).length) (by omega)).imp fun h e => h (by simpa using e)
        · exact .nil
      · refine List.Pairwise.imp (fun {a b} hab x hx y hy e => ?_) hs
        subst e
        split at hx
        · split at hy
          · obtain ⟨_, _, e1⟩ := List.mem_map.mp hx
            obtain ⟨_, _, e2⟩ := List.mem_map.mp hy
            rw [← e1] at e2
            exact hab (by simpa using (List.cons.inj e2).1.symm)
          · cases hy
        · cases hx

theorem lev_succ (k : Nat) : lev w sg L (k + 1) = ((lev w sg L k).filter fun t => decide ((wtt w t).length < L)).flatMap fun t => sg.map fun s => t ++ [s] := rfl
theorem lev_len : ∀ (k : Nat) (t : List Nat), t ∈ lev w sg L k → t.length = k ∧ ∀ a ∈ t, a ∈ sg
  | 0, t, h => by
    have : t = [] := by simpa [lev] using h
    subst this; simp
  | k + 1, t, h => by
    rw [lev_succ] at h
    obtain ⟨u, hu, h⟩ := List.mem_flatMap.mp h
    obtain ⟨s, hs, rfl⟩ := List.mem_map.mp h
    have := lev_len k u (List.mem_filter.mp hu).1
    refine ⟨by simp [this.1], fun a ha => ?_⟩
    rcases List.mem_append.mp ha with ha | ha
    · exact this.2 a ha
    · rw [List.mem_singleton.mp ha]; exact hs
theorem lev_has (hw : ∀ s ∈ sg, 1 ≤ (w s).length) : ∀ (k : Nat) (t : List Nat), t.length = k → (∀ a ∈ t, a ∈ sg) → (wtt w t).length ≤ L → t ∈ lev w sg L k
  | 0, t, h, _, _ => by
    have : t = [] := List.length_eq_zero_iff.mp h
    subst this; simp [lev]
  | k + 1, t, h, ha, hl => by
    obtain ⟨u, s, rfl⟩ : ∃ u s, t = u ++ [s] := by
      have hne : t ≠ [] := fun e => by rw [e] at h; cases h
      exact ⟨t.dropLast, t.getLast hne, (List.dropLast_concat_getLast hne).symm⟩
    have hs := ha s (by simp)
    have h1 := hw s hs
    rw [wtt_snoc, List.length_append] at hl
    have hu := lev_has hw k u (by simpa using h) (fun a q => ha a (by simp [q])) (by omega)
    rw [lev_succ]
    exact List.mem_flatMap.mpr ⟨u, List.mem_filter.mpr ⟨hu, by simp; simp at hl; omega⟩, List.mem_map.mpr ⟨s, hs, rfl⟩⟩
theorem nodup_lev (hs : sg.Nodup) : ∀ k, (lev w sg L k).Nodup
  | 0 => by simp [lev]
  | k + 1 => by
    rw [lev_succ]
    refine List.pairwise_flatMap.mpr ⟨fun t ht => ?_, ?_⟩
    · rw [List.pairwise_map]
      exact hs.imp fun h e => h (by simpa using e)
    · refine List.Pairwise.imp (fun {a b} hab x hx y hy e => ?_) ((nodup_lev hs k).filter _)
      subst e
      obtain ⟨s1, _, e1⟩ := List.mem_map.mp hx
      obtain ⟨s2, _, e2⟩ := List.mem_map.mp hy
      rw [← e1] at e2
      exact hab (List.append_inj_left' e2 rfl).symm
theorem lev_empty {K : Nat} (h : lev w sg L K = []) : ∀ d, lev w sg L (K + d) = []
  | 0 => h
  | d + 1 => by rw [← Nat.add_assoc, lev_succ, lev_empty h d]; rfl
theorem fnd_succ (k n : Nat) : fnd w sg L (k + 1) n = fnd w sg L k n ++ (lev w sg L k).filter fun t => decide ((wtt w t).length = n) := by
  unfold fnd; rw [List.range_succ, List.flatMap_append]; simp

/-- the texts that were found are those of the rows -/
theorem fnd_til (hw : ∀ s ∈ sg, 1 ≤ (w s).length) (hs : sg.Nodup) {K n : Nat} (hK : lev w sg L K = []) (hn : n ≤ L) : (fnd w sg L K n).Perm (til w sg n) := by
  refine (List.perm_ext_iff_of_nodup ?_ (nodup_til hw hs (n + 1) n (Nat.lt_succ_self _))).mpr fun t => ?_
  · refine List.pairwise_flatMap.mpr ⟨fun j _ => (nodup_lev hs j).filter _, ?_⟩
    refine List.Pairwise.imp (fun {a b} hab x hx y hy e => ?_) (List.nodup_range (n := K))
    subst e
    have h1 := (lev_len _ _ (List.mem_filter.mp hx).1).1
    have h2 := (lev_len _ _ (List.mem_filter.mp hy).1).1
    exact hab (h1.symm.trans h2)
  · rw [mem_til hw]
    constructor
    · intro h
      obtain ⟨j, _, h⟩ := List.mem_flatMap.mp h
      obtain ⟨h1, h2⟩ := List.mem_filter.mp h
      exact ⟨(lev_len _ _ h1).2, by simpa using h2⟩
    · rintro ⟨h1, h2⟩
      have hm := lev_has (L := L) hw t.length t rfl h1 (by omega)
      refine List.mem_flatMap.mpr ⟨t.length, List.mem_range.mpr ?_, List.mem_filter.mpr ⟨hm, by simpa using h2⟩⟩
      rcases Nat.lt_or_ge t.length K with q | q
      · exact q
      · have := lev_empty hK (t.length - K)
        rw [show K + (t.length - K) = t.length by omega] at this
        rw [this] at hm; cases hm

theorem wtt_ge {m : Nat} (hw : ∀ s ∈ sg, m ≤ (w s).length) : ∀ t : List Nat, (∀ a ∈ t, a ∈ sg) → t.length * m ≤ (wtt w t).length
  | [], _ => by simp
  | s :: t, h => by
    have := wtt_ge hw t fun a ha => h a (.tail _ ha)
    have := hw s (h s (.head _))
    rw [wtt_cons, List.length_append, List.length_cons, Nat.add_mul]; omega
theorem lev_ten (hL : ∀ s ∈ sg, L ≤ 9 * (w s).length) : lev w sg L 10 = [] := by
  rw [lev_succ]
  have : ((lev w sg L 9).filter fun t => decide ((wtt w t).length < L)) = [] := by
    rw [List.filter_eq_nil_iff]
    intro t ht
    have h1 := lev_len _ _ ht
    rw [decide_eq_true_eq]
    cases t with
    | nil => cases h1.1
    | cons s t =>
      have key : ∀ u : List Nat, (∀ a ∈ u, a ∈ sg) → u.length * L ≤ 9 * (wtt w u).length := by
        intro u
        induction u with
        | nil => intro _; simp
        | cons a u ih =>
          intro h
          have := ih fun b hb => h b (.tail _ hb)
          have := hL a (h a (.head _))
          rw [wtt_cons, List.length_append, List.length_cons, Nat.add_mul, Nat.mul_add]; omega
      have h2 := key (s :: t) h1.2
      rw [h1.1] at h2
      omega
  rw [this]; rfl
theorem lev_size (h3 : sg.length ≤ 3) : ∀ k, (lev w sg L k).length ≤ 3 ^ k
  | 0 => by simp [lev]
  | k + 1 => by
    have ih := lev_size h3 k
    rw [lev_succ, Nat.pow_succ]
    have hf := List.length_filter_le (fun t => decide ((wtt w t).length < L)) (lev w sg L k)
    have key : ∀ l : List (List Nat), (l.flatMap fun t => sg.map fun s => t ++ [s]).length ≤ l.length * 3 := by
      intro l
      induction l with
      | nil => simp
      | cons t l ih => rw [List.flatMap_cons, List.length_append, List.length_map, List.length_cons]; omega
    exact Nat.le_trans (key _) (Nat.mul_le_mul_right 3 (Nat.le_trans hf ih))
theorem fnd_size (h3 : sg.length ≤ 3) (n : Nat) : ∀ k, (fnd w sg L k n).length ≤ 3 ^ k
  | 0 => by simp [fnd]
  | k + 1 => by
    have := fnd_size h3 n k
    have := lev_size (w := w) (L := L) h3 k
    have hf := List.length_filter_le (fun t => decide ((wtt w t).length = n)) (lev w sg L k)
    rw [fnd_succ, List.length_append, Nat.pow_succ]; omega

/-- how many rows there are -/
noncomputable def cntF (ls : List Nat) : Nat → Nat → Nat
  | 0, _ => 0
  | f + 1, n => if n = 0 then 1 else (ls.map fun l => if l ≤ n then cntF ls f (n - l) else 0).sum
theorem tilF_len : ∀ f n, (tilF w sg f n).length = cntF (sg.map fun s => (w s).length) f n
  | 0, _ => rfl
  | f + 1, n => by
    show (if n = 0 then _ else _ : List (List Nat)).length = if n = 0 then _ else _
    by_cases h0 : n = 0
    · rw [if_pos h0, if_pos h0]; rfl
    · rw [if_neg h0, if_neg h0, List.map_map, List.length_flatMap]
      congr 1
      refine List.map_congr_left fun s _ => ?_
      show (if (w s).length ≤ n then _ else _ : List (List Nat)).length = if (w s).length ≤ n then _ else _
      split
      · rw [List.length_map, tilF_len f]
      · rfl
noncomputable def lens3 : List (List Nat) := [] :: ([1, 4, 5, 6].map fun a => [a]) ++ ([1, 4, 5, 6].flatMap fun a => [1, 4, 5, 6].map fun b => [a, b]) ++ ([1, 4, 5, 6].flatMap fun a => [1, 4, 5, 6].flatMap fun b => [1, 4, 5, 6].map fun d => [a, b, d])
noncomputable def longest (ls : List Nat) : Nat := [16, 9, 5, 4].getD (ls.filter fun l => decide (l = 1)).length 0
theorem cnt_ok : (lens3.all fun ls => (List.range (longest ls + 1)).all fun n => decide (cntF ls (n + 1) n < 64) || (decide (ls = [1, 1, 1]) && decide (cntF ls (n + 1) n = 81)) || decide (ls = [4, 4, 4])) = true := by decide +kernel
theorem mem_lens : ∀ {ls : List Nat}, ls.length ≤ 3 → (∀ l ∈ ls, l ∈ [1, 4, 5, 6]) → ls ∈ lens3
  | [], _, _ => by simp [lens3]
  | [a], _, h => List.mem_append_left _ (List.mem_append_left _ (.tail _ (List.mem_map.mpr ⟨a, h a (.head _), rfl⟩)))
  | [a, b], _, h => List.mem_append_left _ (List.mem_append_right _ (List.mem_flatMap.mpr ⟨a, h a (.head _), List.mem_map.mpr ⟨b, h b (.tail _ (.head _)), rfl⟩⟩))
  | [a, b, d], _, h => List.mem_append_right _ (List.mem_flatMap.mpr ⟨a, h a (.head _), List.mem_flatMap.mpr ⟨b, h b (.tail _ (.head _)), List.mem_map.mpr ⟨d, h d (.tail _ (.tail _ (.head _))), rfl⟩⟩⟩)
  | _ :: _ :: _ :: _ :: _, h, _ => by simp at h
theorem long_ok : (lens3.all fun ls => ls.all fun l => decide (longest ls ≤ 9 * l)) = true := by decide +kernel
theorem long_le : (lens3.all fun ls => decide (longest ls ≤ 16)) = true := by decide +kernel
end

/-- what a table writes for a sign has one of four lengths -/
theorem wr_len {h : Nat} (hh : h < 3) (s : Nat) : ((wrT (handT.getD h []) s = [s]) ∨ (wrT (handT.getD h []) s).length ≠ 1) ∧ (wrT (handT.getD h []) s).length ∈ [1, 4, 5, 6] := by
  have key : ∀ t : Tab, (∀ p ∈ t, p.2.length ≠ 1 ∧ p.2.length ∈ [1, 4, 5, 6]) → ((wrT t s = [s]) ∨ (wrT t s).length ≠ 1) ∧ (wrT t s).length ∈ [1, 4, 5, 6] := by
    intro t ht
    unfold wrT
    cases e : t.lookup s with
    | none => exact ⟨.inl rfl, .head _⟩
    | some z => exact ⟨.inr (ht _ (mem_lookup e)).1, (ht _ (mem_lookup e)).2⟩
  match h, hh with
  | 0, _ => exact key tAt (by decide)
  | 1, _ => exact key tAc (by decide)
  | 2, _ => exact key tCc (by decide)

theorem til_count {h : Nat} (hh : h < 3) {sg : List Nat} (h3 : sg.length ≤ 3) (hs : sg.Nodup) {n : Nat} (hn : n ≤ longest (sg.map fun s => (wrT (handT.getD h []) s).length)) :
    (til (wrT (handT.getD h [])) sg n).length < 64 ∨ ((til (wrT (handT.getD h [])) sg n).length = 81 ∧ ((til (wrT (handT.getD h [])) sg n).map (wtt (wrT (handT.getD h [])))).Nodup) := by
  have hm := mem_lens (ls := sg.map fun s => (wrT (handT.getD h []) s).length) (by rw [List.length_map]; exact h3) (fun l hl => by
    obtain ⟨s, _, rfl⟩ := List.mem_map.mp hl; exact (wr_len hh s).2)
  have := List.all_eq_true.mp (List.all_eq_true.mp cnt_ok _ hm) n (List.mem_range.mpr (by omega))
  rw [Bool.or_eq_true, Bool.or_eq_true, Bool.and_eq_true, decide_eq_true_eq, decide_eq_true_eq, decide_eq_true_eq, decide_eq_true_eq, ← tilF_len] at this
  have hw1 : ∀ s ∈ sg, 1 ≤ (wrT (handT.getD h []) s).length := fun s _ => by
    have := (wr_len hh s).2
    simp only [List.mem_cons, List.not_mem_nil, or_false] at this
    omega
  rcases this with (q | ⟨q1, q2⟩) | q
  · exact .inl q
  rotate_left
  · exfalso
    have key : ∀ t : Tab, (∀ p ∈ t, p.2.length = 4 → p.1 = 60 ∨ p.1 = 62) → ∀ s, (wrT t s).length = 4 → s = 60 ∨ s = 62 := by
      intro t ht s hl
      unfold wrT at hl
      cases e : t.lookup s with
      | none => rw [e] at hl; cases hl
      | some z => rw [e] at hl; exact ht _ (mem_lookup e) hl
    have k2 : ∀ s, (wrT (handT.getD h []) s).length = 4 → s = 60 ∨ s = 62 := by
      match h, hh with
      | 0, _ => exact key tAt (by decide)
      | 1, _ => exact key tAc (by decide)
      | 2, _ => exact key tCc (by decide)
    have hl3 : sg.length = 3 := by have := congrArg List.length q; simpa using this
    match sg, q, hs, hl3 with
    | [a, b, d], q, hs, _ =>
      simp only [List.map_cons, List.map_nil, List.cons.injEq, and_true] at q
      have ha := k2 a q.1
      have hb := k2 b q.2.1
      have hd := k2 d q.2.2
      simp at hs
      omega
  · refine .inr ⟨q2, ?_⟩
    have hone : ∀ s ∈ sg, wrT (handT.getD h []) s = [s] := fun s hs => by
      have h1 : (wrT (handT.getD h []) s).length = 1 := by
        have : (wrT (handT.getD h []) s).length ∈ [1, 1, 1] := by rw [← q1]; exact List.mem_map.mpr ⟨s, hs, rfl⟩
        simpa using this
      exact (wr_len hh s).1.resolve_right fun q => q h1
    have hid : ∀ t : List Nat, (∀ a ∈ t, a ∈ sg) → wtt (wrT (handT.getD h [])) t = t := by
      intro t
      induction t with
      | nil => intro _; rfl
      | cons a t ih =>
        intro q
        rw [wtt_cons, hone a (q a (.head _)), ih fun b hb => q b (.tail _ hb)]; rfl
    have : (til (wrT (handT.getD h [])) sg n).map (wtt (wrT (handT.getD h []))) = til (wrT (handT.getD h [])) sg n := by
      conv => rhs; rw [← List.map_id (til (wrT (handT.getD h [])) sg n)]
      exact List.map_congr_left fun t ht => hid t ((mem_til hw1 t n).mp ht).1
    rw [this]
    exact nodup_til hw1 hs (n + 1) n (Nat.lt_succ_self _)
end Mine
namespace Mine
section
variable {c : Cx} {n : Nat}

structure B03 (c : Cx) : Prop where
  chr : c.mg (Str.ofString "chr") = none ∧ c.mb (Str.ofString "chr") = some (.builtin "chr")
  len : c.mg (Str.ofString "len") = none ∧ c.mb (Str.ofString "len") = some (.builtin "len")
  range : c.mg (Str.ofString "range") = none ∧ c.mb (Str.ofString "range") = some (.type "range")
  sorted : c.mg (Str.ofString "sorted") = none ∧ c.mb (Str.ofString "sorted") = some (.builtin "sorted")

noncomputable def pcs03 : List Nat := [38, 60, 62, 34, 13, 10, 9, 97, 59, 109, 35, 51]
noncomputable def sgn03 (x : Int) : Nat := if x.fmod 2 = 0 then pcs03.getD ((x.fdiv 2).fmod 12).toNat 0 else chrOf (x.fdiv 2)
noncomputable def put03 (acc : List Nat) (x : Int) : List Nat := if sgn03 x ∉ acc ∧ acc.length < 3 then acc ++ [sgn03 x] else acc
noncomputable def sgs03 (done : List Int) : List Nat := done.foldl put03 []
theorem put03_ok {acc : List Nat} (h : acc.Nodup ∧ acc.length ≤ 3) (x : Int) : (put03 acc x).Nodup ∧ (put03 acc x).length ≤ 3 := by
  unfold put03
  split
  · rename_i q
    refine ⟨List.nodup_append.mpr ⟨h.1, by simp, fun a ha b hb e => ?_⟩, by simp; omega⟩
    rw [List.mem_singleton.mp hb] at e
    exact q.1 (e ▸ ha)
  · exact h
theorem sgs03_ok (done : List Int) : (sgs03 done).Nodup ∧ (sgs03 done).length ≤ 3 := by
  unfold sgs03
  have key : ∀ (l : List Int) (acc : List Nat), (acc.Nodup ∧ acc.length ≤ 3) → (l.foldl put03 acc).Nodup ∧ (l.foldl put03 acc).length ≤ 3 := by
    intro l
    induction l with
    | nil => intro acc h; exact h
    | cons x l ih => intro acc h; exact ih _ (put03_ok h x)
  exact key done [] ⟨by simp, by simp⟩
theorem ds_one (l : List Nat) : Slot.ds (l.map fun q => .val (sd [q])) = (l.map fun q => [q]).map sd := by
  rw [ds_vals, List.map_map]; rfl

set_option maxHeartbeats 1000000 in
theorem signs03_fn (hd : IsDef c 49 (scAt p03 6) ["numbers"] (bodyAt p03 6)) (B : B03 c) {ns : List Int} (hl : ns.length ≤ 100) : FnR c (n + 1) (.ref 49) [.list (ns.map .int)] (.list ((sgs03 ns).map fun q => sd [q])) := by
  refine FnR.of hd rfl ?_
  refine Tr.step (Sx.assign (d := .list (pcs03.map fun q => sd [q])) (Ev.list ?_ (by rw [List.length_map]; decide)) (.inl rfl)) ?_
  · iterate 12 refine EvL.cons Ev.lit ?_
    exact EvL.nil
  refine Tr.step (Sx.assignS (EvS.list EvL.nil (Nat.zero_le _)) (.inl rfl)) ?_
  let σ : List Int → Sto := fun done => [("signs", .own ((sgs03 done).map fun q => .val (sd [q]))), ("pieces", .val (.list (pcs03.map fun q => sd [q])))]
  refine Tr.cons (P₁ := fun af ρ => af = .next ∧ ρ = σ ns) (Sx.forS (g := D.int) (xs := ns) σ (Ev.name rfl) IterR.list (.cons rfl (.cons rfl .nil)) ?_ ⟨rfl, rfl⟩) ?_ (fun _ _ h q => absurd q.1 h)
  · intro done x rest e
    have hok := sgs03_ok done
    have hnext : sgs03 (done ++ [x]) = put03 (sgs03 done) x := by unfold sgs03; rw [List.foldl_append]; rfl
    have hm : (0 : Int) ≤ (x.fdiv 2).fmod 12 ∧ (x.fdiv 2).fmod 12 < 12 := ⟨Int.fmod_nonneg_of_pos _ (by decide), Int.fmod_lt_of_pos _ (by decide)⟩
    refine ⟨_, TgtG.name (.inl rfl), ?_⟩
    show Tr c n (scAt p03 6) (("x", .val (.int x)) :: ("signs", .own ((sgs03 done).map fun q => .val (sd [q]))) :: ("pieces", .val (.list (pcs03.map fun q => sd [q]))) :: []) _ _
    generalize sgs03 done = acc at hok hnext
    let τ : Sto := [("sign", .val (sd [sgn03 x])), ("signs", .own (acc.map fun q => .val (sd [q]))), ("pieces", .val (.list (pcs03.map fun q => sd [q])))]
    refine Tr.cons (P₁ := fun af ρ => af = .next ∧ SubS τ ρ) (Sx.ite (Tst.cmp (Ev.bin (Ev.name rfl) Ev.int (BinR.fmod (by decide))) Ev.int CmpR.eqI) (fun hb => ?_) fun hb => ?_) ?_ (fun _ _ h q => absurd q.1 h)
    · have hb' : x.fmod 2 = 0 := by simpa using hb
      have hp : sgn03 x = pcs03.getD ((x.fdiv 2).fmod 12).toNat 0 := by unfold sgn03; rw [if_pos hb']
      refine Tr.last (Sx.mono (Sx.assign (Ev.subL (Ev.name rfl) (Ev.bin (Ev.bin (Ev.name rfl) Ev.int (BinR.fdiv (by decide) (by decide))) Ev.int (BinR.fmod (by decide))) (ItemR.list (d := sd [sgn03 x]) hm.1 ?_ (by omega))) (.inl rfl)) ?_)
      · rw [List.getElem?_map, hp]
        have : ((x.fdiv 2).fmod 12).toNat < pcs03.length := by show _ < 12; omega
        rw [List.getElem?_eq_getElem this, List.getD_eq_getElem?_getD, List.getElem?_eq_getElem this]; rfl
      · rintro _ _ ⟨rfl, rfl⟩
        exact ⟨rfl, .cons rfl (.cons rfl (.cons rfl .nil))⟩
    · have hb' : ¬ x.fmod 2 = 0 := by simpa using hb
      have hp : sgn03 x = chrOf (x.fdiv 2) := by unfold sgn03; rw [if_neg hb']
      refine Tr.step (Sx.assign (Ev.bin (Ev.bin (Ev.name rfl) Ev.int (BinR.fdiv (by decide) (by decide))) Ev.int (BinR.fmod (by decide))) (.inl rfl)) ?_
      refine Tr.last (Sx.mono (Sx.assign (d := sd [sgn03 x]) (Ev.to (Ev.chrIf B.chr rfl) (by rw [hp])) (.inl rfl)) ?_)
      rintro _ _ ⟨rfl, rfl⟩
      exact ⟨rfl, .cons rfl (.cons rfl (.cons rfl .nil))⟩
    rintro ρ' ⟨_, hsub⟩
    refine Tr.ent (Ent.sub hsub) ?_
    refine Tr.last (Sx.ite (b := decide (sgn03 x ∉ acc ∧ acc.length < 3)) (Tst.to (Tst.boolop (Tsts.and (Tst.cmp (Ev.name rfl) (Ev.look (d := .list ((acc.map fun q => [q]).map sd)) rfl (by show D.list (Slot.ds _) = _; rw [ds_one])) CmpR.ninLS) fun _ => Tsts.and (Tst.cmp (Ev.callF (Ev.blt B.len.1 B.len.2) (.builtin _) (EvL.cons (Ev.look (d := .list ((acc.map fun q => [q]).map sd)) rfl (by show D.list (Slot.ds _) = _; rw [ds_one])) EvL.nil) (FnR.lenL (by simp; omega)) rfl) Ev.int CmpR.ltI) fun _ => Tsts.nilAnd)) ?_) (fun hb => ?_) fun hb => Tr.nil ?_)
    · rw [Bool.and_true, List.length_map, List.length_map]
      have e1 : decide ([sgn03 x] ∉ acc.map fun q => [q]) = decide (sgn03 x ∉ acc) := by
        refine decide_eq_decide.mpr ?_
        simp
      rw [e1]
      have e2 : decide (((acc.length : Nat) : Int) < 3) = decide (acc.length < 3) := decide_eq_decide.mpr (by omega)
      rw [e2, ← Bool.decide_and]
    · have hb' := of_decide_eq_true hb
      refine Tr.last (Sx.mono (Sx.append rfl (Ev.name rfl) (by simp; omega)) ?_)
      rintro _ _ ⟨rfl, rfl⟩
      show SubS (σ (done ++ [x])) _
      refine .cons ?_ (.cons rfl .nil)
      show some _ = some (Slot.own ((sgs03 (done ++ [x])).map _))
      rw [hnext]
      unfold put03
      rw [if_pos hb', List.map_append]; rfl
    · have hb' := of_decide_eq_false hb
      show SubS (σ (done ++ [x])) _
      refine .cons ?_ (.cons rfl .nil)
      show some _ = some (Slot.own ((sgs03 (done ++ [x])).map _))
      rw [hnext]
      unfold put03
      rw [if_neg hb']
  rintro _ ⟨_, rfl⟩
  refine Tr.ent (Ent.freeze (x := "signs") rfl) ?_
  refine Tr.last (Sx.ret (Ev.name ?_) rfl)
  show some (Slot.val (D.list (Slot.ds _))) = _
  rw [ds_vals]

theorem iter_range1 {b : Nat} (h : b ≤ 1000) : IterR c (.range 1 ((b : Int) + 1) 1) ((List.range b).map fun k : Nat => D.int ((k : Int) + 1)) := by
  have h1 : Builtin.Range.rangeSize 1 ((b : Int) + 1) 1 = b := by rw [rangeSize_one]; split <;> omega
  have h2 : ∀ i : Int, -1 ≤ i → i ≤ 16777217 → Builtin.Range.rangeFitsLong i = true := fun i a b => by
    unfold Builtin.Range.rangeFitsLong
    simp; omega
  have hs : Builtin.Range.small 1 ((b : Int) + 1) 1 = true := by
    unfold Builtin.Range.small
    rw [h1, h2 1 (by omega) (by omega), h2 ((b : Int) + 1) (by omega) (by omega)]
    simp only [Bool.and_self, Bool.true_and]
    rw [if_pos (by omega), h2 _ (by omega) (by omega)]
    simp
    exact .inr (h2 _ (by omega) (by omega))
  have := IterR.range (c := c) hs
  rw [h1] at this
  have e : (List.range ((b : Int)).toNat).map (fun k : Nat => D.int (1 + (k : Int) * 1)) = (List.range b).map fun k : Nat => D.int ((k : Int) + 1) := by
    rw [Int.toNat_natCast]
    exact List.map_congr_left fun k _ => congrArg D.int (by rw [Int.mul_one, Int.add_comm])
  rw [e] at this; exact this

section
variable {w : Nat → List Nat} {sg : List Nat}
noncomputable def rowD (w : Nat → List Nat) (sg : List Nat) (i : Nat) : D := .list ((til w sg i).map fun t => sd (wtt w t))
noncomputable def moreL (w : Nat → List Nat) (sg : List Nat) (m : Nat) (d : List Nat) : List (List Nat) := d.flatMap fun s => if (w s).length ≤ m then (til w sg (m - (w s).length)).map (s :: ·) else []

set_option maxHeartbeats 1000000 in
theorem rows03_fn (hd : IsDef c 54 (scAt p03 7) ["spelled", "longest"] (bodyAt p03 7)) (B : B03 c) {L : Nat} (hw : ∀ s ∈ sg, 1 ≤ (w s).length ∧ (w s).length ≤ 10) (hL : L ≤ 16) (hsz : ∀ i, i ≤ L → (til w sg i).length ≤ 100) :
    FnR c (n + 1) (.ref 54) [.list (sg.map fun s => sd (w s)), .int L] (.list ((List.range (L + 1)).map (rowD w sg))) := by
  have hw1 : ∀ s ∈ sg, 1 ≤ (w s).length := fun s h => (hw s h).1
  refine FnR.of hd rfl ?_
  refine Tr.step (Sx.assignS (EvS.list (ds := [.list [sd []]]) (EvL.cons (Ev.list (EvL.cons Ev.lit EvL.nil) (by show 1 ≤ sizeLine; decide)) EvL.nil) (by show 1 ≤ sizeLine; decide)) (.inl rfl)) ?_
  let σ : List Nat → Sto := fun done => [("rows", .own ((List.range (done.length + 1)).map fun i => .val (rowD w sg i))), ("spelled", .val (.list (sg.map fun s => sd (w s)))), ("longest", .val (.int L))]
  refine Tr.cons (P₁ := fun af ρ => af = .next ∧ ρ = σ (List.range L)) (Sx.forS (g := fun k : Nat => D.int ((k : Int) + 1)) (xs := List.range L) σ (d₀ := .range 1 ((L : Int) + 1) 1)
    (Ev.call (Ev.blt B.range.1 B.range.2) (.type _) (EvL.cons Ev.int (EvL.cons (Ev.bin (Ev.name rfl) Ev.int BinR.add) EvL.nil)) FnR.range2) (iter_range1 (by omega)) (.cons rfl (.cons rfl (.cons rfl .nil))) ?_ ⟨rfl, rfl⟩) ?_ (fun _ _ h q => absurd q.1 h)
  · intro done k rest e
    have hkk : k = done.length ∧ done.length < L := by
      have h2 := congrArg List.length e
      simp at h2
      have := congrArg (fun l => l[done.length]?) e
      simp only [List.getElem?_append_right (Nat.le_refl _), Nat.sub_self, List.getElem?_cons_zero] at this
      rw [List.getElem?_range (by omega)] at this
      exact ⟨by simpa using this.symm, by omega⟩
    obtain ⟨rfl, hkL⟩ := hkk
    refine ⟨_, TgtG.name (.inl rfl), ?_⟩
    refine Tr.step (Sx.assignS (EvS.list EvL.nil (Nat.zero_le _)) (.inl rfl)) ?_
    let τ : List Nat → Sto := fun d => [("more", .own ((moreL w sg (done.length + 1) d).map fun t => .val (sd (wtt w t)))), ("size", .val (.int ((done.length : Int) + 1))), ("rows", .own ((List.range (done.length + 1)).map fun i => .val (rowD w sg i))), ("spelled", .val (.list (sg.map fun s => sd (w s)))), ("longest", .val (.int L))]
    have hfull : moreL w sg (done.length + 1) sg = til w sg (done.length + 1) := (til_pos hw1 (Nat.succ_ne_zero _)).symm
    refine Tr.cons (P₁ := fun af ρ => af = .next ∧ ρ = τ sg) (Sx.forS (g := fun s => sd (w s)) (xs := sg) τ (Ev.name rfl) IterR.list (.cons rfl (.cons rfl (.cons rfl (.cons rfl (.cons rfl .nil))))) ?_ ⟨rfl, rfl⟩) ?_ (fun _ _ h q => absurd q.1 h)
    · intro d s rst ed
      have hs : s ∈ sg := ed ▸ List.mem_append_right _ (.head _)
      obtain ⟨hs1, hs2⟩ := hw s hs
      have hstep : moreL w sg (done.length + 1) (d ++ [s]) = moreL w sg (done.length + 1) d ++ (if (w s).length ≤ done.length + 1 then (til w sg (done.length + 1 - (w s).length)).map (s :: ·) else []) := by
        unfold moreL; rw [List.flatMap_append]; simp
      have hml : (moreL w sg (done.length + 1) d).length ≤ 100 := by
        have h1 := hsz (done.length + 1) (by omega)
        have h3 : moreL w sg (done.length + 1) sg = moreL w sg (done.length + 1) d ++ moreL w sg (done.length + 1) (s :: rst) := by
          unfold moreL; rw [← List.flatMap_append, ← ed]
        rw [← hfull, h3, List.length_append] at h1
        omega
      refine ⟨_, TgtG.name (.inr ⟨rfl, rfl⟩), ?_⟩
      have lenP : ∀ {ρ : Sto} {pp p1 p2 : Pos}, ρ.lookup "piece" = some (.val (sd (w s))) → Ev c n (scAt p03 7) true ρ (.Call (.Name (Str.ofString "len") p1) [.Name (Str.ofString "piece") pp] [] p2) (.int ((w s).length : Nat)) := fun h => Ev.call (Ev.blt B.len.1 B.len.2) (.builtin _) (EvL.cons (Ev.name h) EvL.nil) (FnR.lenS (by omega))
      refine Tr.last (Sx.ite (b := decide ((w s).length ≤ done.length + 1)) (Tst.to (Tst.cmp (Ev.weak (lenP rfl)) (Ev.name rfl) CmpR.leI) (decide_eq_decide.mpr (by omega))) (fun hb => ?_) fun hb => Tr.nil ?_)
      · have hb' := of_decide_eq_true hb
        have hjj : done.length + 1 - (w s).length ≤ L := by omega
        have hlen := hsz (done.length + 1 - (w s).length) hjj
        have hsub : ((done.length : Int) + 1) - ((w s).length : Nat) = ((done.length + 1 - (w s).length : Nat) : Int) := by omega
        refine Tr.last (Sx.mono (Sx.extend (ds := ((til w sg (done.length + 1 - (w s).length)).map fun t => sd (wtt w (s :: t)))) rfl
          (Ev.compM (g := fun t => sd (wtt w t)) (ds := til w sg (done.length + 1 - (w s).length)) (fun t => sd (wtt w (s :: t))) [("piece", .val (sd (w s)))] (d₀ := rowD w sg (done.length + 1 - (w s).length))
            (Ev.itemOwn (j := done.length + 1 - (w s).length) rfl (Ev.to (Ev.bin (Ev.name rfl) (lenP rfl) BinR.sub) (by rw [hsub])) ?_ (by simp; omega)) IterR.list (Capt.of (.cons rfl rfl (by decide) .nil) rfl) (by omega)
            fun t ht => ⟨_, TgtG.name (.inl rfl), .cons rfl .nil, Ev.to (Ev.bin (Ev.name rfl) (Ev.name rfl) (BinR.cat ?_)) (by rw [wtt_cons])⟩) (by simp; omega)) ?_)
        · rw [List.getElem?_map, List.getElem?_range (by omega)]; rfl
        · have := ((mem_til hw1 t _).mp ht).2
          omega
        · rintro _ _ ⟨rfl, rfl⟩
          show SubS (τ (d ++ [s])) _
          refine .cons ?_ (.cons rfl (.cons rfl (.cons rfl (.cons rfl .nil))))
          show some (Slot.own _) = some (Slot.own _)
          rw [hstep, if_pos hb', List.map_append, List.map_map, List.map_map]; rfl
      · have hb' := of_decide_eq_false hb
        refine .cons ?_ (.cons rfl (.cons rfl (.cons rfl (.cons rfl .nil))))
        show some (Slot.own _) = some (Slot.own _)
        rw [hstep, if_neg hb', List.append_nil]
    rintro _ ⟨_, rfl⟩
    refine Tr.ent (Ent.freeze (x := "more") rfl) ?_
    refine Tr.last (Sx.mono (Sx.append (d := rowD w sg (done.length + 1)) rfl (Ev.name ?_) (by simp; omega)) ?_)
    · show some (Slot.val (D.list (Slot.ds _))) = _
      rw [ds_vals, hfull]; rfl
    · rintro _ _ ⟨rfl, rfl⟩
      show SubS (σ (done ++ [done.length])) _
      refine .cons ?_ (.cons rfl (.cons rfl .nil))
      show some (Slot.own _) = some (Slot.own ((List.range ((done ++ [done.length]).length + 1)).map _))
      rw [List.length_append, List.length_singleton, List.range_succ (n := done.length + 1), List.map_append]; rfl
  rintro _ ⟨_, rfl⟩
  refine Tr.ent (Ent.freeze (x := "rows") rfl) ?_
  refine Tr.last (Sx.ret (Ev.name ?_) rfl)
  show some (Slot.val (D.list (Slot.ds _))) = _
  rw [ds_vals, List.length_range]
end
end
end Mine
namespace Mine
section
variable {c : Cx} {n : Nat}

structure K03 (c : Cx) : Prop where
  E : E03 c
  signs : IsDef c 49 (scAt p03 6) ["numbers"] (bodyAt p03 6)
  rows : IsDef c 54 (scAt p03 7) ["spelled", "longest"] (bodyAt p03 7)
  law : IsDef c 59 (scAt p03 8) ["script"] (bodyAt p03 8)
  g1 : c.mg (Str.ofString "_law_signs") = some (.ref 49)
  g2 : c.mg (Str.ofString "_law_rows") = some (.ref 54)
  B : B03 c

noncomputable def kvT (t : Tab) : List (List Nat × D) := t.map fun p => ([p.1], sd p.2)
noncomputable abbrev dT (t : Tab) : D := .dict (kvT t)
theorem kvT_lookup (t : Tab) (a : Nat) : (kvT t).lookup [a] = (t.lookup a).map sd := by
  unfold kvT
  induction t with
  | nil => rfl
  | cons p l ih =>
    rw [List.map_cons, List.lookup_cons, List.lookup_cons, ih]
    have : ([a] == [p.1]) = (a == p.1) := by
      by_cases h : a = p.1
      · simp [h]
      · have h1 : ([a] == [p.1]) = false := by simpa using h
        have h2 : (a == p.1) = false := by simpa using h
        rw [h1, h2]
    rw [this]
    cases a == p.1 <;> rfl
noncomputable def handD (h : Nat) : D := .tuple [.val (.ref (handA.getD h 0)), dT (handT.getD h [])]

theorem sortedAny {ls : List (List Nat)} (h : ls.length < 64 ∨ (ls.length = 81 ∧ ls.Nodup)) : FnR c n (.builtin "sorted") [.list (ls.map sd)] (.list ((srt ls).map sd)) := by
  rcases h with h | ⟨h1, h2⟩
  · exact FnR.sortedL h
  · exact FnR.sorted81 h1 h2

theorem ds_own {α β : Type} (f : α → List β) (g : β → D) : ∀ l : List α, Slot.ds (l.map fun x => .own ((f x).map fun y => .val (g y))) = l.map fun x => .list ((f x).map g)
  | [] => rfl
  | x :: l => by
    rw [List.map_cons, List.map_cons, ← ds_own f g l, ← ds_vals g (f x)]; rfl
theorem set_range {α : Type} (f : Nat → α) {m i : Nat} (x : α) : ((List.range m).map f).set i x = (List.range m).map fun n => if n = i then x else f n := by
  apply List.ext_getElem?
  intro j
  rw [List.getElem?_set, List.getElem?_map, List.getElem?_map, List.length_map, List.length_range]
  by_cases hj : j < m
  · rw [List.getElem?_range hj]
    by_cases e : i = j
    · subst e; simp [hj]
    · rw [if_neg e]; simp [Ne.symm e]
  · rw [List.getElem?_eq_none (by simpa using hj)]
    by_cases e : i = j
    · subst e; simp [hj]
    · simp [e]

section
variable {w : Nat → List Nat} {sg : List Nat} {L : Nat}
noncomputable def foundS (w : Nat → List Nat) (L : Nat) (f : Nat → List (List Nat)) : Slot := .own ((List.range (L + 1)).map fun n => .own ((f n).map fun t => .val (sd (wtt w t))))
theorem found0 : Slot.own (List.replicate (L + 1) (.own [])) = foundS w L (fnd w sg L 0) := by
  unfold foundS
  refine congrArg Slot.own ?_
  have : ((List.range (L + 1)).map fun n => Slot.own ((fnd w sg L 0 n).map fun t => .val (sd (wtt w t)))) = (List.range (L + 1)).map fun _ => Slot.own [] := List.map_congr_left fun _ _ => rfl
  rw [this, List.map_const', List.length_range]
noncomputable def moreS (w : Nat → List Nat) (sg : List Nat) (L : Nat) (d : List (List Nat)) : List (List Nat) := (d.filter fun t => decide ((wtt w t).length < L)).flatMap fun t => sg.map fun s => t ++ [s]
theorem moreS_len (h3 : sg.length ≤ 3) : ∀ d : List (List Nat), (moreS w sg L d).length ≤ d.length * 3 := by
  intro d
  have hf := List.length_filter_le (fun t => decide ((wtt w t).length < L)) d
  have key : ∀ l : List (List Nat), (l.flatMap fun t => sg.map fun s => t ++ [s]).length ≤ l.length * 3 := by
    intro l
    induction l with
    | nil => simp
    | cons t l ih => rw [List.flatMap_cons, List.length_append, List.length_map, List.length_cons]; omega
  exact Nat.le_trans (key _) (Nat.mul_le_mul_right 3 hf)
theorem moreS_snoc (d : List (List Nat)) (t : List Nat) : moreS w sg L (d ++ [t]) = moreS w sg L d ++ (if (wtt w t).length < L then sg.map fun s => t ++ [s] else []) := by
  unfold moreS
  rw [List.filter_append, List.flatMap_append]
  rw [List.filter_cons, List.filter_nil]
  by_cases q : (wtt w t).length < L
  · rw [if_pos (decide_eq_true q), if_pos q, List.flatMap_cons, List.flatMap_nil, List.append_nil]
  · rw [if_neg (by rw [decide_eq_false q]; decide), if_neg q, List.flatMap_nil]
theorem fil_snoc (d : List (List Nat)) (t : List Nat) (n : Nat) : (d ++ [t]).filter (fun t => decide ((wtt w t).length = n)) = d.filter (fun t => decide ((wtt w t).length = n)) ++ (if (wtt w t).length = n then [t] else []) := by
  rw [List.filter_append]
  rw [List.filter_cons, List.filter_nil]
  by_cases q : (wtt w t).length = n
  · rw [if_pos (decide_eq_true q), if_pos q]
  · rw [if_neg (by rw [decide_eq_false q]; decide), if_neg q]
theorem found_put (F : Nat → List (List Nat)) (d : List (List Nat)) (t : List Nat) : (((List.range (L + 1)).map fun n => Slot.own ((F n ++ d.filter fun t => decide ((wtt w t).length = n)).map fun t => .val (sd (wtt w t)))).set (wtt w t).length (.own (((F (wtt w t).length ++ d.filter fun u => decide ((wtt w u).length = (wtt w t).length)).map fun u => Slot.val (sd (wtt w u))) ++ [.val (sd (wtt w t))]))) =
    (List.range (L + 1)).map fun n => Slot.own ((F n ++ (d ++ [t]).filter fun t => decide ((wtt w t).length = n)).map fun t => .val (sd (wtt w t))) := by
  rw [set_range]
  refine List.map_congr_left fun m _ => ?_
  rw [fil_snoc]
  by_cases q : m = (wtt w t).length
  · subst q; rw [if_pos rfl, if_pos rfl, ← List.append_assoc, List.map_append (l₂ := [t])]; rfl
  · rw [if_neg q, if_neg (Ne.symm q), List.append_nil]
theorem found_d (F : Nat → List (List Nat)) : (foundS w L F).d = .list ((List.range (L + 1)).map fun n => .list (((F n).map (wtt w)).map sd)) := by
  unfold foundS
  show D.list (Slot.ds _) = _
  rw [ds_own]
  refine congrArg D.list (List.map_congr_left fun m _ => ?_)
  rw [List.map_map]; rfl
theorem wtt_le10 (hw : ∀ s, (w s).length ≤ 10) : ∀ u : List Nat, (wtt w u).length ≤ u.length * 10
  | [] => by simp
  | a :: u => by rw [wtt_cons, List.length_append, List.length_cons]; have := hw a; have := wtt_le10 hw u; omega
end

theorem pow_k {k : Nat} (h : k ≤ 9) : (3 : Nat) ^ k ≤ 59049 := by
  match k, h with
  | 0, _ | 1, _ | 2, _ | 3, _ | 4, _ | 5, _ | 6, _ | 7, _ | 8, _ | 9, _ => decide
set_option maxHeartbeats 2000000 in
theorem law03 (K : K03 c) {ns : List Int} (hl : ns.length ≤ 63) : FnR c 40 (.ref 59) [.list (ns.map .int)] (.bool true) := by
  refine FnR.of (n := 39) K.law rfl ?_
  let ms : List Int := if ns = [] then [0, 14, 12] else ns
  have hms : ms.length ≤ 63 := by
    show (if ns = [] then [0, 14, 12] else ns).length ≤ 63
    split
    · decide
    · exact hl
  have hms2 : Ev c 39 (scAt p03 8) true [("script", .val (.list (ns.map .int)))] (match bodyAt p03 8 with | .Assign _ (.Call _ [e] _ _) _ :: _ => e | _ => .Constant .none 0 ⟨0, 0, 0, 0⟩) (.list (ms.map .int)) := by
    refine Ev.ite (Tst.cmp (Ev.name rfl) (Ev.list EvL.nil (Nat.zero_le _)) CmpR.neNil) (fun q => ?_) fun q => ?_
    · have : ns ≠ [] := by rintro rfl; cases q
      have e : ms = ns := if_neg this
      rw [e]; exact Ev.name rfl
    · have : ns = [] := by
        cases ns with
        | nil => rfl
        | cons a b => cases q
      have e : ms = [0, 14, 12] := if_pos this
      rw [e]
      exact Ev.list (EvL.cons Ev.int (EvL.cons Ev.int (EvL.cons Ev.int EvL.nil))) (by show 3 ≤ sizeLine; decide)
  generalize ms = ms at hms hms2
  refine Tr.step (Sx.assign (Ev.call (Ev.glob K.g1) K.signs.callee (EvL.cons hms2 EvL.nil) ((signs03_fn (n := 30) K.signs K.B (by omega)).mono (by decide))) (.inl rfl)) ?_
  obtain ⟨hnd, h3⟩ := sgs03_ok ms
  generalize sgs03 ms = sg at hnd h3
  refine Tr.step (Sx.assign (d := .list ((List.range 3).map handD)) (Ev.list ?_ (by rw [List.length_map]; decide)) (.inl rfl)) ?_
  · refine EvL.cons (Ev.tuple (EvL.cons (Ev.glob K.E.gat) (EvL.cons (d := dT tAt) (Ev.dict ?_ (by decide) (by decide) (by decide)) EvL.nil)) (by show 2 ≤ sizeLine; decide)) ?_
    · iterate 7 refine .cons Ev.lit Ev.lit ?_
      exact .nil
    refine EvL.cons (Ev.tuple (EvL.cons (Ev.glob K.E.gac) (EvL.cons (d := dT tAc) (Ev.dict ?_ (by decide) (by decide) (by decide)) EvL.nil)) (by show 2 ≤ sizeLine; decide)) ?_
    · iterate 6 refine .cons Ev.lit Ev.lit ?_
      exact .nil
    refine EvL.cons (Ev.tuple (EvL.cons (Ev.glob K.E.gcc) (EvL.cons (d := dT tCc) (Ev.dict ?_ (by decide) (by decide) (by decide)) EvL.nil)) (by show 2 ≤ sizeLine; decide)) ?_
    · iterate 4 refine .cons Ev.lit Ev.lit ?_
      exact .nil
    exact EvL.nil
  let σ : List Nat → Sto := fun _ => [("signs", .val (.list (sg.map fun q => sd [q]))), ("hands", .val (.list ((List.range 3).map handD)))]
  refine Tr.cons (P₁ := fun af ρ => af = .next ∧ ρ = σ (List.range 3)) (Sx.forS (g := handD) (xs := List.range 3) σ (d₀ := .list ((List.range 3).map handD)) (Ev.name rfl) IterR.list (.cons rfl (.cons rfl .nil)) ?_ ⟨rfl, rfl⟩) ?_ (fun _ _ h q => absurd q.1 h)
  · intro dn h rst ed
    have hh : h < 3 := List.mem_range.mp (ed ▸ List.mem_append_right _ (.head _))
    refine ⟨_, TgtG.tuple (.cons rfl (TgtG.name (.inl rfl)) (.cons rfl (TgtG.name (.inr ⟨rfl, rfl⟩)) .nil)), ?_⟩
    have hwl := fun s => (wr_len hh s).2
    have hcnt := fun {m} => til_count hh h3 hnd (n := m)
    have hm := mem_lens (ls := sg.map fun s => (wrT (handT.getD h []) s).length) (by rw [List.length_map]; exact h3) (fun l hl => by
      obtain ⟨s, _, rfl⟩ := List.mem_map.mp hl; exact hwl s)
    have hL16 : longest (sg.map fun s => (wrT (handT.getD h []) s).length) ≤ 16 := of_decide_eq_true (List.all_eq_true.mp long_le _ hm)
    have hL9 : ∀ s ∈ sg, longest (sg.map fun s => (wrT (handT.getD h []) s).length) ≤ 9 * (wrT (handT.getD h []) s).length := fun s hs => of_decide_eq_true (List.all_eq_true.mp (List.all_eq_true.mp long_ok _ hm) _ (List.mem_map.mpr ⟨s, hs, rfl⟩))
    have hw : ∀ s, 1 ≤ (wrT (handT.getD h []) s).length ∧ (wrT (handT.getD h []) s).length ≤ 10 := fun s => by
      have := hwl s
      simp only [List.mem_cons, List.not_mem_nil, or_false] at this
      omega
    have hlook : ∀ s, wrT (handT.getD h []) s = ((handT.getD h []).lookup s).getD [s] := fun s => rfl
    have hfn := fun {l : List Nat} (hz : l.length ≤ 100000) => (hand_fn (n := 30) K.E hh hz).mono (m := 39) (by decide)
    generalize handT.getD h [] = tab at hcnt hL16 hL9 hw hlook hfn hm
    let σ1 : Sto := ("references", .val (dT tab)) :: ("escape", .val (.val (.ref (handA.getD h 0)))) :: σ dn
    show Tr c 39 (scAt p03 8) (("references", .val (dT tab)) :: ("escape", .val (.val (.ref (handA.getD h 0)))) :: σ dn) _ _
    refine Tr.step (Sx.compM (g := fun q => sd [q]) (ds := sg) (fun s => sd (wrT tab s)) [("references", .val (dT tab))] (Ev.name rfl) IterR.list (Capt.of (.cons rfl rfl (by decide) .nil) rfl) (by omega)
      (fun s hs => ⟨_, TgtG.name (.inl rfl), .cons rfl .nil, Ev.ite (Tst.cmp (Ev.name rfl) (Ev.name rfl) CmpR.inD) (fun q => Ev.subD (Ev.name rfl) (Ev.name rfl) ?_) fun q => Ev.to (Ev.name rfl) ?_⟩) rfl rfl rfl rfl) ?_
    · rw [kvT_lookup] at q ⊢
      rw [hlook]
      cases e : tab.lookup s with
      | none => rw [e] at q; cases q
      | some z => rfl
    · rw [kvT_lookup] at q
      rw [hlook]
      cases e : tab.lookup s with
      | none => rfl
      | some z => rw [e] at q; cases q
    have hLe : longest (sg.map fun s => (wrT tab s).length) = [16, 9, 5, 4].getD (sg.filter fun s => decide ((wrT tab s).length = 1)).length 0 := by
      unfold longest
      rw [List.filter_map, List.length_map]; rfl
    have hf3 : (sg.filter fun s => decide ((wrT tab s).length = 1)).length ≤ 3 := Nat.le_trans (List.length_filter_le _ _) h3
    refine Tr.step (Sx.assign (d := .int (longest (sg.map fun s => (wrT tab s).length) : Nat)) (Ev.subL (ds := [16, 9, 5, 4].map D.int) (Ev.list (EvL.cons Ev.int (EvL.cons Ev.int (EvL.cons Ev.int (EvL.cons Ev.int EvL.nil)))) (by show 4 ≤ sizeLine; decide))
      (i := ((sg.filter fun s => decide ((wrT tab s).length = 1)).length : Nat)) (Ev.to (Ev.call (Ev.blt K.B.len.1 K.B.len.2) (.builtin _) (EvL.cons (Ev.compF (g := fun s => sd (wrT tab s)) (ds := sg) (fun s => decide ((wrT tab s).length = 1)) (fun s => sd (wrT tab s)) [] (Ev.name rfl) IterR.list (Capt.of .nil rfl) (by omega)
        fun s hs => ⟨_, TgtG.name (.inl rfl), .nil, Tst.to (Tst.cmp (Ev.call (Ev.blt K.B.len.1 K.B.len.2) (.builtin _) (EvL.cons (Ev.name rfl) EvL.nil) (FnR.lenS (by have := hw s; omega))) Ev.int CmpR.eqI) (decide_eq_decide.mpr (by omega)), fun _ => Ev.name rfl⟩) EvL.nil) (FnR.lenL (by rw [List.length_map]; omega))) (by rw [List.length_map])) (ItemR.list (by omega) ?_ (by omega))) (.inl rfl)) ?_
    · rw [Int.toNat_natCast, hLe]
      match (sg.filter fun s => decide ((wrT tab s).length = 1)).length, hf3 with
      | 0, _ | 1, _ | 2, _ | 3, _ => rfl
    generalize longest (sg.map fun s => (wrT tab s).length) = L at hcnt hL16 hL9 hLe
    have hw1 : ∀ s ∈ sg, 1 ≤ (wrT tab s).length := fun s _ => (hw s).1
    refine Tr.step (Sx.compNew (g := fun k : Nat => D.int k) (ds := List.range (L + 1)) (d₀ := .range 0 ((L + 1 : Nat) : Int) 1) (Ev.call (Ev.blt K.B.range.1 K.B.range.2) (.type _) (EvL.cons (Ev.to (Ev.bin (Ev.name rfl) Ev.int BinR.add) (by rfl)) EvL.nil) FnR.range1) (IterR.range0 (by omega)) (Capt.of .nil rfl) (by simp; omega) (fun d hd => ⟨_, TgtG.name (.inl rfl)⟩) rfl rfl rfl rfl) ?_
    refine Tr.step (Sx.assign (d := .list [sd []]) (Ev.list (EvL.cons Ev.lit EvL.nil) (by show 1 ≤ sizeLine; decide)) (.inl rfl)) ?_
    let τ : Nat → Sto := fun k => [("texts", .val (.list ((lev (wrT tab) sg L k).map sd))), ("found", foundS (wrT tab) L (fnd (wrT tab) sg L k)), ("longest", .val (.int L)), ("spelled", .val (.list (sg.map fun s => sd (wrT tab s)))), ("escape", .val (.val (.ref (handA.getD h 0)))), ("signs", .val (.list (sg.map fun q => sd [q]))), ("hands", .val (.list ((List.range 3).map handD)))]
    have h10 := lev_ten (w := wrT tab) (sg := sg) (L := L) hL9
    refine Tr.cons (P₁ := fun af ρ => af = .next ∧ ∃ k, lev (wrT tab) sg L k = [] ∧ ρ = τ k) (Sx.whileS (α := Nat) τ (fun k => k ≤ 10) (fun k => 11 - k) 0 (by omega) ?_ ?_) ?_ (fun _ _ h q => absurd q.1 h)
    · refine .cons rfl (.cons ?_ (.cons rfl (.cons rfl (.cons rfl (.cons rfl (.cons rfl .nil))))))
      show some (Slot.own (List.replicate (List.range (L + 1)).length (.own []))) = some (foundS (wrT tab) L (fnd (wrT tab) sg L 0))
      rw [List.length_range]
      exact congrArg some found0
    · intro k hk10
      refine ⟨_, Tst.cmp (Ev.name rfl) (Ev.list EvL.nil (Nat.zero_le _)) CmpR.neNil, fun hb => ?_, fun hb => ?_⟩
      · have hne : lev (wrT tab) sg L k ≠ [] := fun e => by rw [e] at hb; cases hb
        have hk9 : k ≤ 9 := by
          rcases Nat.lt_or_ge k 10 with q | q
          · omega
          · exact absurd (by have := lev_empty h10 (k - 10); rwa [show 10 + (k - 10) = k by omega] at this) hne
        have hpow := pow_k hk9
        have hls := lev_size (w := wrT tab) (sg := sg) (L := L) h3 k
        have hfs := fun n => fnd_size (w := wrT tab) (sg := sg) (L := L) h3 n k
        refine Tr.step (Sx.assignS (EvS.list EvL.nil (Nat.zero_le _)) (.inl rfl)) ?_
        let υ : List (List Nat) → Sto := fun d => [("more", .own ((moreS (wrT tab) sg L d).map fun t => .val (sd t))), ("found", foundS (wrT tab) L fun n => fnd (wrT tab) sg L k n ++ d.filter fun t => decide ((wtt (wrT tab) t).length = n)), ("longest", .val (.int L)), ("spelled", .val (.list (sg.map fun s => sd (wrT tab s)))), ("escape", .val (.val (.ref (handA.getD h 0)))), ("signs", .val (.list (sg.map fun q => sd [q]))), ("hands", .val (.list ((List.range 3).map handD)))]
        refine Tr.cons (P₁ := fun af ρ => af = .next ∧ ρ = υ (lev (wrT tab) sg L k)) (Sx.forS (g := sd) (xs := lev (wrT tab) sg L k) υ (Ev.name rfl) IterR.list (.cons rfl (.cons ?_ (.cons rfl (.cons rfl (.cons rfl (.cons rfl (.cons rfl .nil))))))) ?_ ⟨rfl, rfl⟩) ?_ (fun _ _ h q => absurd q.1 h)
        · show some (foundS _ _ _) = some (foundS _ _ _)
          exact congrArg (fun f => some (foundS (wrT tab) L f)) (funext fun n => by rw [List.filter_nil, List.append_nil])
        · intro d t rest et
          have htm : t ∈ lev (wrT tab) sg L k := et ▸ List.mem_append_right _ (.head _)
          have htl := lev_len _ _ htm
          have hdl : d.length ≤ 59049 := by
            have := congrArg List.length et
            simp only [List.length_append, List.length_cons] at this
            omega
          have hge := wtt_ge (w := wrT tab) (sg := sg) hw1 t htl.2
          rw [Nat.mul_one] at hge
          have hwt : (wtt (wrT tab) t).length ≤ 100 := by have := wtt_le10 (fun s => (hw s).2) t; omega
          refine ⟨_, TgtG.name (.inr ⟨rfl, rfl⟩), ?_⟩
          refine Tr.step (Sx.assign (d := sd (wtt (wrT tab) t)) (Ev.call (Ev.name rfl) (hand_callee K.E hh) (EvL.cons (Ev.name rfl) EvL.nil) (hfn (by omega))) (.inl rfl)) ?_
          have lenW : ∀ {ρ : Sto} {pp p1 p2 : Pos} {kk : Bool}, ρ.lookup "written" = some (.val (sd (wtt (wrT tab) t))) → Ev c 39 (scAt p03 8) kk ρ (.Call (.Name (Str.ofString "len") p1) [.Name (Str.ofString "written") pp] [] p2) (.int ((wtt (wrT tab) t).length : Nat)) := fun h => Ev.call (Ev.blt K.B.len.1 K.B.len.2) (.builtin _) (EvL.cons (Ev.name h) EvL.nil) (FnR.lenS (by omega))
          have hmoreN := moreS_snoc (w := wrT tab) (sg := sg) (L := L) d t
          have hfilN := fil_snoc (w := wrT tab) d t
          refine Tr.last (Sx.ite (b := decide ((wtt (wrT tab) t).length ≤ L)) (Tst.to (Tst.cmp (lenW rfl) (Ev.name rfl) CmpR.leI) (decide_eq_decide.mpr (by omega))) (fun hb1 => ?_) fun hb1 => Tr.nil ?_)
          · have hb1' := of_decide_eq_true hb1
            have hfl : ((fnd (wrT tab) sg L k (wtt (wrT tab) t).length ++ d.filter fun u => decide ((wtt (wrT tab) u).length = (wtt (wrT tab) t).length)).map fun u => Slot.val (sd (wtt (wrT tab) u))).length ≤ 16777216 := by
              rw [List.length_map, List.length_append]
              have := hfs (wtt (wrT tab) t).length
              have := List.length_filter_le (fun u => decide ((wtt (wrT tab) u).length = (wtt (wrT tab) t).length)) d
              omega
            refine Tr.step (Sx.append2 (j := (wtt (wrT tab) t).length) (inner := (fnd (wrT tab) sg L k (wtt (wrT tab) t).length ++ d.filter fun u => decide ((wtt (wrT tab) u).length = (wtt (wrT tab) t).length)).map fun u => .val (sd (wtt (wrT tab) u))) rfl (lenW rfl) ?_ (Ev.name rfl) hfl (by simp; omega)) ?_
            · rw [List.getElem?_map, List.getElem?_range (by omega)]; rfl
            have hnewF := found_put (w := wrT tab) (L := L) (fnd (wrT tab) sg L k) d t
            refine Tr.last (Sx.ite (b := decide ((wtt (wrT tab) t).length < L)) (Tst.to (Tst.boolop (b := decide ((wtt (wrT tab) t).length < L) && (true && true)) (Tsts.and (Tst.to (Tst.cmp (lenW rfl) (Ev.name rfl) CmpR.ltI) (decide_eq_decide.mpr (by omega))) fun q => Tsts.and (Tst.to (Tst.cmp (Ev.call (Ev.blt K.B.len.1 K.B.len.2) (.builtin _) (EvL.cons (Ev.name rfl) EvL.nil) (FnR.lenS (by omega))) (Ev.name rfl) CmpR.ltI) ?_) fun _ => Tsts.nilAnd)) (by simp)) (fun hb2 => ?_) fun hb2 => Tr.nil ?_)
            · have := of_decide_eq_true q
              exact decide_eq_true (by omega)
            · have hb2' := of_decide_eq_true hb2
              refine Tr.last (Sx.mono (Sx.extend (ds := sg.map fun q => sd (t ++ [q])) rfl (Ev.compM (g := fun q => sd [q]) (ds := sg) (fun q => sd (t ++ [q])) [("text", .val (sd t))] (Ev.name rfl) IterR.list (Capt.of (.cons rfl rfl (by decide) .nil) rfl) (by omega)
                fun q hq => ⟨_, TgtG.name (.inl rfl), .cons rfl .nil, Ev.bin (Ev.name rfl) (Ev.name rfl) (BinR.cat (by simp; omega))⟩) ?_) ?_)
              · rw [List.length_map, List.length_map]
                have := moreS_len (w := wrT tab) (L := L) h3 d
                omega
              · rintro _ _ ⟨rfl, rfl⟩
                show SubS (υ (d ++ [t])) _
                refine .cons ?_ (.cons ?_ (.cons rfl (.cons rfl (.cons rfl (.cons rfl (.cons rfl .nil))))))
                · show some (Slot.own _) = some (Slot.own _)
                  rw [hmoreN, if_pos hb2', List.map_append, List.map_map, List.map_map]; rfl
                · show some (Slot.own _) = some (Slot.own _)
                  rw [hnewF]
            · have hb2' := of_decide_eq_false hb2
              show SubS (υ (d ++ [t])) _
              refine .cons ?_ (.cons ?_ (.cons rfl (.cons rfl (.cons rfl (.cons rfl (.cons rfl .nil))))))
              · show some (Slot.own _) = some (Slot.own _)
                rw [hmoreN, if_neg hb2', List.append_nil]
              · show some (Slot.own _) = some (Slot.own _)
                rw [hnewF]
          · have hb1' := of_decide_eq_false hb1
            show SubS (υ (d ++ [t])) _
            refine .cons ?_ (.cons ?_ (.cons rfl (.cons rfl (.cons rfl (.cons rfl (.cons rfl .nil))))))
            · show some (Slot.own _) = some (Slot.own _)
              rw [hmoreN, if_neg (by omega), List.append_nil]
            · show some (foundS _ _ _) = some (foundS _ _ _)
              refine congrArg (fun l => some (Slot.own l)) (List.map_congr_left fun m hm => ?_)
              have := List.mem_range.mp hm
              have e9 := hfilN m
              rw [if_neg (by omega), List.append_nil] at e9
              exact congrArg (fun l => Slot.own (List.map (fun t => Slot.val (sd (wtt (wrT tab) t))) (fnd (wrT tab) sg L k m ++ l))) e9.symm
        rintro _ ⟨_, rfl⟩
        refine Tr.ent (Ent.freeze (x := "more") rfl) ?_
        refine Tr.last (Sx.mono (Sx.assign (d := .list ((lev (wrT tab) sg L (k + 1)).map sd)) (Ev.name ?_) (.inl rfl)) ?_)
        · show some (Slot.val (D.list (Slot.ds _))) = _
          rw [ds_vals]; rfl
        · rintro _ _ ⟨rfl, rfl⟩
          refine ⟨k + 1, by omega, by omega, .cons rfl (.cons ?_ (.cons rfl (.cons rfl (.cons rfl (.cons rfl (.cons rfl .nil))))))⟩
          show some (foundS _ _ _) = some (foundS _ _ _)
          exact congrArg (fun f => some (foundS (wrT tab) L f)) (funext fun n => (fnd_succ k n).symm)
      · refine ⟨rfl, k, ?_, rfl⟩
        cases e : lev (wrT tab) sg L k with
        | nil => rfl
        | cons a b => rw [e] at hb; cases hb
    rintro _ ⟨_, kk, hkk, rfl⟩
    have hsz : ∀ i, i ≤ L → (til (wrT tab) sg i).length ≤ 100 := fun i hi => by
      rcases hcnt (m := i) hi with q | ⟨q, _⟩ <;> omega
    refine Tr.step (Sx.assign (Ev.call (Ev.glob K.g2) K.rows.callee (EvL.cons (Ev.name rfl) (EvL.cons (Ev.name rfl) EvL.nil)) ((rows03_fn (n := 30) K.rows K.B (fun s _ => hw s) hL16 hsz).mono (by decide))) (.inl rfl)) ?_
    refine Tr.ent (Ent.freeze (x := "found") rfl) ?_
    have hfz := found_d (w := wrT tab) (L := L) (fnd (wrT tab) sg L kk)
    let φ : List Nat → Sto := fun _ => [("found", .val (.list ((List.range (L + 1)).map fun n => .list (((fnd (wrT tab) sg L kk n).map (wtt (wrT tab))).map sd)))), ("rows", .val (.list ((List.range (L + 1)).map (rowD (wrT tab) sg)))), ("signs", .val (.list (sg.map fun q => sd [q]))), ("hands", .val (.list ((List.range 3).map handD)))]
    refine Tr.last (Sx.forS (g := fun k : Nat => D.int k) (xs := List.range (L + 1)) φ (d₀ := .range 0 ((L + 1 : Nat) : Int) 1)
      (Ev.call (Ev.blt K.B.range.1 K.B.range.2) (.type _) (EvL.cons (Ev.to (Ev.bin (Ev.name rfl) Ev.int BinR.add) (by rfl)) EvL.nil) FnR.range1) (IterR.range0 (by omega)) (.cons ?_ (.cons rfl (.cons rfl (.cons rfl .nil)))) ?_ ?_)
    · show some (Slot.val (Slot.d (foundS _ _ _))) = _
      rw [hfz]
    · intro done m rest em
      have hmL : m ≤ L := by
        have : m ∈ List.range (L + 1) := by rw [em]; simp
        have := List.mem_range.mp this
        omega
      have hperm := fnd_til (w := wrT tab) hw1 hnd hkk hmL
      have hpm := hperm.map (wtt (wrT tab))
      refine ⟨_, TgtG.name (.inl rfl), ?_⟩
      have hc1 := hcnt (m := m) hmL
      have hrow : rowD (wrT tab) sg m = .list (((til (wrT tab) sg m).map (wtt (wrT tab))).map sd) := by
        unfold rowD; rw [List.map_map]; rfl
      refine Tr.last (Sx.ite (b := false) (Tst.to (Tst.cmp (Ev.call (Ev.blt K.B.sorted.1 K.B.sorted.2) (.builtin _) (EvL.cons (Ev.subL (Ev.name rfl) (Ev.name rfl) (ItemR.list (d := .list (((fnd (wrT tab) sg L kk m).map (wtt (wrT tab))).map sd)) (by omega) ?_ (by omega))) EvL.nil) (sortedAny ?_))
        (Ev.call (Ev.blt K.B.sorted.1 K.B.sorted.2) (.builtin _) (EvL.cons (Ev.subL (Ev.name rfl) (Ev.name rfl) (ItemR.list (d := .list (((til (wrT tab) sg m).map (wtt (wrT tab))).map sd)) (by omega) ?_ (by omega))) EvL.nil) (sortedAny ?_)) CmpR.neLS) (decide_eq_false fun q => q (srt_perm hpm))) (fun q => nomatch q) fun _ => Tr.nil ?_)
      · rw [Int.toNat_natCast, List.getElem?_map, List.getElem?_range (by omega)]; rfl
      · rw [hpm.length_eq, List.length_map]
        rcases hc1 with q | ⟨q1, q2⟩
        · exact .inl q
        · exact .inr ⟨q1, hpm.nodup_iff.mpr q2⟩
      · rw [Int.toNat_natCast, List.getElem?_map, List.getElem?_range (by omega), ← hrow]; rfl
      · rw [List.length_map]; exact hc1
      · exact .cons rfl (.cons rfl (.cons rfl (.cons rfl .nil)))
    · exact .cons rfl (.cons rfl .nil)
  rintro _ ⟨_, rfl⟩
  exact Tr.last (Sx.ret Ev.bool rfl)
end
end Mine
set_option maxRecDepth 100000 in
set_option maxHeartbeats 8000000 in
theorem PySem.Challenge.cw_dn0276_03_holds : PySem.Challenge.rw_dn0276_03.Holds := by
  w_on
  o_law
  z_head
  (case hw => w_witness2)
  k_fill
  intro w s₀ s₁ mg mb G y fa o pm cd doc dV kV ho hd hcd hD hmg hg args vals as L hpre hlay hrd hwl hlo
  z_open y L KX ZH ZN ZT
  refine Ground.open G ?_
  intro T B D TE TW
  wrow_args hpre hlay hrd hwl hlo
  have hfa : fa = 59 := by
    have := (mg_of (n := Str.ofString "law") (v := .ref 59) KX T.g rfl).symm.trans hmg
    injection this with this
    injection this with this
    exact this.symm
  subst hfa
  refine Mine.head_end T L (by assumption) (by assumption) hg ZT (by decide) ?_
  exact Mine.law03 ⟨⟨(Mine.IsDef.of KX rfl rfl rfl rfl rfl rfl rfl (Mine.bindOne fun v => rfl) (by simp; exact .inl rfl) (by decide) (by decide) rfl rfl rfl rfl), (Mine.IsDef.of KX rfl rfl rfl rfl rfl rfl rfl (Mine.bindOne fun v => rfl) (by simp; exact .inl rfl) (by decide) (by decide) rfl rfl rfl rfl), (Mine.IsDef.of KX rfl rfl rfl rfl rfl rfl rfl (Mine.bindOne fun v => rfl) (by simp; exact .inl rfl) (by decide) (by decide) rfl rfl rfl rfl), mg_of KX T.g rfl, mg_of KX T.g rfl, mg_of KX T.g rfl⟩, (Mine.IsDef.of KX rfl rfl rfl rfl rfl rfl rfl (Mine.bindOne fun v => rfl) (by simp; exact .inl rfl) (by decide) (by decide) rfl rfl rfl rfl), (Mine.IsDef.of KX rfl rfl rfl rfl rfl rfl rfl (Mine.bindTwo fun v w => rfl) (by simp; exact ⟨.inl rfl, .inl rfl⟩) (by decide) (by decide) rfl rfl rfl rfl), (Mine.IsDef.of KX rfl rfl rfl rfl rfl rfl rfl (Mine.bindOne fun v => rfl) (by simp; exact .inl rfl) (by decide) (by decide) rfl rfl rfl rfl), mg_of KX T.g rfl, mg_of KX T.g rfl, ⟨Mine.blt_of KX T rfl (by decide +kernel) (by decide), Mine.blt_of KX T rfl (by decide +kernel) (by decide), Mine.blt_of KX T rfl (by decide +kernel) (by decide), Mine.blt_of KX T rfl (by decide +kernel) (by decide)⟩⟩ (by omega)
