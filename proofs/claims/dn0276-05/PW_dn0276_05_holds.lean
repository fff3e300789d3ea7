import PyProof.Rows.All
import Wide.All
import OpenK.AllK
import Wide.FinOn
import PySem.Challenge.RW_dn0276_05
open PySem PySem.W PyProof.Rows
set_option Elab.async false
set_option linter.unusedVariables false

namespace Mine

/-- a text by its signs -/
abbrev S (l : List Nat) : Str := ⟨l.toArray⟩

theorem obj_eq {o : Obj} {cl : Value} {dt : Data} (h1 : o.cls = cl) (h2 : o.dict = none ∧ o.slots = #[]) (h3 : o.data = dt) : o = { cls := cl, data := dt } := by
  obtain ⟨a, b, d, e⟩ := o
  simp only at h1 h2 h3
  rw [h1, h2.1, h2.2, h3]

/-- abstract data -/
inductive D where
  | none
  | bool (b : Bool)
  | int (i : Int)
  | str (x : Str)
  | tstr (x : Str)
  | val (v : Value)
  | range (a b st : Int)
  | list (xs : List D)
  | tuple (xs : List D)
  | dict (kvs : List (List Nat × D))
  deriving Inhabited

/-- what stays the same through one law -/
structure Cx where
  prog : Program
  w : World
  base : Heap
  mg : Str → Option Value
  mb : Str → Option Value

abbrev Cx.M (c : Cx) : Model := model c.prog c.w

def Keeps (h h' : Heap) : Prop := ∀ b o, h.get? b = some o → h'.get? b = some o
theorem Keeps.refl (h : Heap) : Keeps h h := fun _ _ e => e
theorem Keeps.trans {h h' h'' : Heap} (a : Keeps h h') (b : Keeps h' h'') : Keeps h h'' := fun x o e => b x o (a x o e)

structure Cx.Good (c : Cx) : Prop where
  g : c.base.Ns mainGlobals c.mg
  b : c.base.Ns builtinsNs c.mb
  lim : c.base.NoLimit

/-- an evaluation only adds -/
structure Gr (s s' : Shared) : Prop where
  keep : Keeps s.heap s'.heap
  tok : s.toks ≤ s'.toks
  gens : s'.gens = s.gens
  os : s'.os = s.os
theorem Gr.refl (s : Shared) : Gr s s := ⟨Keeps.refl _, Nat.le_refl _, rfl, rfl⟩
theorem Gr.trans {s s' s'' : Shared} (a : Gr s s') (b : Gr s' s'') : Gr s s'' :=
  ⟨a.keep.trans b.keep, Nat.le_trans a.tok b.tok, b.gens.trans a.gens, b.os.trans a.os⟩
theorem Gr.toks {s : Shared} {k : Nat} (h : s.toks ≤ k) : Gr s { s with toks := k } := ⟨Keeps.refl _, h, rfl, rfl⟩
theorem Gr.push {s : Shared} (o : Obj) : Gr s { s with heap := s.heap.push o } :=
  ⟨fun _ _ e => Heap.get?_push_of_some o e, Nat.le_refl _, rfl, rfl⟩

abbrev Vol0 : Addr → Prop := fun _ => False

mutual
/-- the value stands for the data; no node of it lies in V -/
inductive Rep (c : Cx) (V : Addr → Prop) (s : Shared) : D → Value → Prop
  | none : Rep c V s .none .none
  | bool (b) : Rep c V s (.bool b) (.bool b)
  | int (i t) : Rep c V s (.int i) (.int i t)
  | str (x t) : Rep c V s (.str x) (.str x t)
  | tstr (x t) : t ≠ 0 → t < s.toks → Rep c V s (.tstr x) (.str x t)
  | val (v) : Rep c V s (.val v) v
  | range {r a b st t u v} : ¬ V r → IsRange s.heap r a b st t u v → Rep c V s (.range a b st) (.ref r)
  | list {a o vs n ds} : ¬ V a → s.heap.get? a = some o → o.cls = .type "list" → (o.dict = Option.none ∧ o.slots = #[]) → o.data = .seq vs n → RepL c V s ds vs.toList →
      Rep c V s (.list ds) (.ref a)
  | tuple {a o vs n ds} : ¬ V a → s.heap.get? a = some o → o.cls = .type "tuple" → (o.dict = Option.none ∧ o.slots = #[]) → o.data = .seq vs n → RepL c V s ds vs.toList →
      Rep c V s (.tuple ds) (.ref a)
  | dict {a o es n kvs} : ¬ V a → (a == sysModules) = false → s.heap.get? a = some o → o.ExactDict → o.data = .dict es n → RepD c V s kvs es.toList →
      Rep c V s (.dict kvs) (.ref a)
inductive RepL (c : Cx) (V : Addr → Prop) (s : Shared) : List D → List Value → Prop
  | nil : RepL c V s [] []
  | cons {d v ds vs} : Rep c V s d v → RepL c V s ds vs → RepL c V s (d :: ds) (v :: vs)
inductive RepD (c : Cx) (V : Addr → Prop) (s : Shared) : List (List Nat × D) → List DictEntry → Prop
  | nil : RepD c V s [] []
  | cons {k d t e kvs es} : e.key = .str (S k) t → e.hash = hashStr c.w (S k) → Rep c V s d e.val →
      RepD c V s kvs es → RepD c V s ((k, d) :: kvs) (e :: es)
end

/-- what may change under a Rep -/
def Calm (V : Addr → Prop) (s s' : Shared) : Prop :=
  s.toks ≤ s'.toks ∧ ∀ b o, ¬ V b → s.heap.get? b = some o → ((∃ xs n, o.data = .seq xs n) ∨ (∃ es n, o.data = .dict es n) ∨ o.cls = .type "range") → s'.heap.get? b = some o

mutual
theorem Rep.calm {c : Cx} {V V' : Addr → Prop} {s s' : Shared} (hc : Calm V s s') (hv : ∀ a, V' a → V a) : ∀ {d v}, Rep c V s d v → Rep c V' s' d v
  | _, _, .none => .none
  | _, _, .bool b => .bool b
  | _, _, .int i t => .int i t
  | _, _, .str x t => .str x t
  | _, _, .tstr x t h1 h2 => .tstr x t h1 (Nat.lt_of_lt_of_le h2 hc.1)
  | _, _, .val v => .val v
  | _, _, .range na h => .range (fun q => na (hv _ q)) (hc.2 _ _ na h (.inr (.inr rfl)))
  | _, _, .list na ho hcl hd hdt r => .list (fun q => na (hv _ q)) (hc.2 _ _ na ho (.inl ⟨_, _, hdt⟩)) hcl hd hdt (RepL.calm hc hv r)
  | _, _, .tuple na ho hcl hd hdt r => .tuple (fun q => na (hv _ q)) (hc.2 _ _ na ho (.inl ⟨_, _, hdt⟩)) hcl hd hdt (RepL.calm hc hv r)
  | _, _, .dict na hsm ho hx hdt r => .dict (fun q => na (hv _ q)) hsm (hc.2 _ _ na ho (.inr (.inl ⟨_, _, hdt⟩))) hx hdt (RepD.calm hc hv r)
theorem RepL.calm {c : Cx} {V V' : Addr → Prop} {s s' : Shared} (hc : Calm V s s') (hv : ∀ a, V' a → V a) : ∀ {d v}, RepL c V s d v → RepL c V' s' d v
  | _, _, .nil => .nil
  | _, _, .cons r rs => .cons (Rep.calm hc hv r) (RepL.calm hc hv rs)
theorem RepD.calm {c : Cx} {V V' : Addr → Prop} {s s' : Shared} (hc : Calm V s s') (hv : ∀ a, V' a → V a) : ∀ {d v}, RepD c V s d v → RepD c V' s' d v
  | _, _, .nil => .nil
  | _, _, .cons hk hh r rs => .cons hk hh (Rep.calm hc hv r) (RepD.calm hc hv rs)
end

theorem Gr.calm {s s' : Shared} (g : Gr s s') (V : Addr → Prop) : Calm V s s' := ⟨g.tok, fun _ _ _ e _ => g.keep _ _ e⟩
theorem Rep.gr {c V s s' d v} (r : Rep c V s d v) (g : Gr s s') : Rep c V s' d v := r.calm (g.calm V) fun _ q => q
theorem RepL.gr {c V s s' d v} (r : RepL c V s d v) (g : Gr s s') : RepL c V s' d v := r.calm (g.calm V) fun _ q => q
theorem Rep.weak {c V V' s d v} (r : Rep c V s d v) (hv : ∀ a, V' a → V a) : Rep c V' s d v := r.calm (Gr.calm (.refl s) V) hv
theorem RepL.weak {c V V' s d v} (r : RepL c V s d v) (hv : ∀ a, V' a → V a) : RepL c V' s d v := r.calm (Gr.calm (.refl s) V) hv

theorem RepL.length {c V s} : ∀ {ds vs}, RepL c V s ds vs → ds.length = vs.length
  | _, _, .nil => rfl
  | _, _, .cons _ r => by simp [r.length]
theorem RepL.append {c V s} : ∀ {ds vs ds' vs'}, RepL c V s ds vs → RepL c V s ds' vs' → RepL c V s (ds ++ ds') (vs ++ vs')
  | _, _, _, _, .nil, r => r
  | _, _, _, _, .cons a r, r' => .cons a (r.append r')
theorem RepL.get {c V s} : ∀ {ds vs} {i : Nat} {d}, RepL c V s ds vs → ds[i]? = some d → ∃ v, vs[i]? = some v ∧ Rep c V s d v
  | _, _, 0, _, .cons a _, e => by cases e; exact ⟨_, rfl, a⟩
  | _, _, i + 1, _, .cons _ r, e => by
    obtain ⟨v, h1, h2⟩ := r.get (i := i) (by simpa using e)
    exact ⟨v, by simpa using h1, h2⟩
  | _, _, _, _, .nil, e => by simp at e
theorem RepL.take {c V s} : ∀ {ds vs} (n : Nat), RepL c V s ds vs → RepL c V s (ds.take n) (vs.take n)
  | _, _, 0, _ => by simpa using RepL.nil
  | _, _, _ + 1, .nil => by simpa using RepL.nil
  | _, _, n + 1, .cons a r => by simpa using RepL.cons a (r.take n)
theorem RepL.drop {c V s} : ∀ {ds vs} (n : Nat), RepL c V s ds vs → RepL c V s (ds.drop n) (vs.drop n)
  | _, _, 0, r => by simpa using r
  | _, _, _ + 1, .nil => by simpa using RepL.nil
  | _, _, n + 1, .cons _ r => by simpa using r.drop n

theorem ofString_inj {x y : String} (h : Str.ofString x = Str.ofString y) : x = y := by
  rw [Str.ofString_eq_toList, Str.ofString_eq_toList] at h
  injection h with h
  have h2 : x.toList.map Char.toNat = y.toList.map Char.toNat := by
    have := congrArg Array.toList h
    simpa using this
  have inj : ∀ (a b : List Char), a.map Char.toNat = b.map Char.toNat → a = b := by
    intro a
    induction a with
    | nil => intro b hb; cases b with
      | nil => rfl
      | cons _ _ => simp at hb
    | cons p a ih => intro b hb; cases b with
      | nil => simp at hb
      | cons q b =>
        simp only [List.map_cons, List.cons.injEq] at hb
        rw [ih b hb.2, show p = q from by
          apply Char.ext
          apply UInt32.toNat_inj.mp
          exact hb.1]
  exact String.toList_inj.mp (inj _ _ h2)

/-- the state a call finds -/
structure St (c : Cx) (V : Addr → Prop) (s : Shared) : Prop where
  good : c.Good
  keep : Keeps c.base s.heap
  tok : s.toks ≠ 0
  live : ∀ a, V a → ∃ o, s.heap.get? a = some o
theorem St.gr {c V s s'} (h : St c V s) (g : Gr s s') : St c V s' :=
  ⟨h.good, h.keep.trans g.keep, fun e => h.tok (Nat.le_zero.mp (e ▸ g.tok)), fun a q => let ⟨o, e⟩ := h.live a q; ⟨o, g.keep _ _ e⟩⟩
theorem St.weak {c V V' s} (h : St c V s) (hv : ∀ a, V' a → V a) : St c V' s := ⟨h.good, h.keep, h.tok, fun a q => h.live a (hv a q)⟩

/-- room on the stack for n more frames; nothing is being handled -/
structure Room (n : Nat) (A : Around) : Prop where
  handled : A.handled = none
  depth : A.depth + n < 900
  units : A.units + 10 * n + 100 < cLine
theorem Room.mono {n m A} (h : Room n A) (hm : m ≤ n) : Room m A := ⟨h.handled, by have := h.depth; omega, by have := h.units; omega⟩
theorem Room.deeper {n A} (h : Room (n + 1) A) (env : Env) : Room n (A.deeper env) :=
  ⟨h.handled, by have := h.depth; show A.depth + 1 + n < 900; omega, by have := h.units; show A.units + 3 + 10 * n + 100 < cLine; omega⟩
theorem Room.lim {n A} (h : Room n A) : A.depth < recursionLimit := by have := h.depth; unfold recursionLimit; omega

/-- f called with ds gives d -/
structure FnR (c : Cx) (n : Nat) (f : Value) (ds : List D) (d : D) : Prop where
  run : ∀ A V s vs, Room n A → St c V s → RepL c V s ds vs →
    wpAny c.M A (call f vs) (fun v s' => Gr s s' ∧ Rep c V s' d v) (fun _ _ => False) s

inductive Slot where
  | val (d : D)
  | own (l : List Slot)
  deriving Inhabited
abbrev Sto := List (String × Slot)

mutual
inductive RepS (c : Cx) (V : Addr → Prop) (s : Shared) : Slot → Value → List Addr → Prop
  | val {d v} : Rep c V s d v → RepS c V s (.val d) v []
  | own {a o vs n sl fp} : s.heap.get? a = some o → o.cls = .type "list" → (o.dict = Option.none ∧ o.slots = #[]) → o.data = .seq vs n → RepSL c V s sl vs.toList fp → RepS c V s (.own sl) (.ref a) (a :: fp)
inductive RepSL (c : Cx) (V : Addr → Prop) (s : Shared) : List Slot → List Value → List Addr → Prop
  | nil : RepSL c V s [] [] []
  | cons {sl v fp sls vs fps} : RepS c V s sl v fp → RepSL c V s sls vs fps → RepSL c V s (sl :: sls) (v :: vs) (fp ++ fps)
end

/-- the name's value -/
inductive Loc (env : Env) (s : Shared) (m : Str → Option Value) (x : String) (v : Value) : Prop
  | loc : env.kindOf (Str.ofString x) = some .local → m (Str.ofString x) = some v → Loc env s m x v
  | cell {a o} : (env.kindOf (Str.ofString x) = some .cell ∨ (env.kindOf (Str.ofString x) = some .free ∧ x ≠ "__classdict__")) → env.cells.lookup (Str.ofString x) = some a → s.heap.get? a = some o →
      o.data = .cell (some v) → Loc env s m x v

inductive StoR (c : Cx) (env : Env) (V : Addr → Prop) (s : Shared) (m : Str → Option Value) : Sto → List Addr → Prop
  | nil : StoR c env V s m [] []
  | cons {x sl v fp ρ fps} : Loc env s m x v → RepS c V s sl v fp → StoR c env V s m ρ fps → StoR c env V s m ((x, sl) :: ρ) (fp ++ fps)

abbrev Vol (V0 : Addr → Prop) (X : List Addr) : Addr → Prop := fun a => V0 a ∨ a ∈ X

/-- the frame: env's names are as ρ says -/
structure Fm (c : Cx) (sc : Scope) (env : Env) (V0 : Addr → Prop) (h0 : Heap) (Cs : List (Str × Addr)) (X : List Addr) (ρ : Sto) (s : Shared) : Prop where
  good : c.Good
  scope : env.scope = sc
  kind : sc.kind = .function
  globals : env.globals = mainGlobals
  builtins : env.builtins = builtinsNs
  base : Keeps c.base h0
  keep : Keeps h0 s.heap
  tok : s.toks ≠ 0
  live0 : ∀ a, V0 a → (∃ o, s.heap.get? a = some o) ∧ a ∉ X
  ccells : ∀ x, (sc.names.lookup x = some .cell ∨ sc.names.lookup x = some .free) → ∃ a, env.cells.lookup x = some a
  new : ∀ a ∈ X, h0.get? a = none
  cells : ∀ x a, Cs.lookup x = some a → env.cells.lookup x = some a
  cinj : ∀ x y a, env.cells.lookup x = some a → env.cells.lookup y = some a → x = y
  sto : ∃ m fps, s.heap.Ns env.locals m ∧ X = env.locals :: (Cs.map (·.2) ++ fps) ∧ X.Nodup ∧ (∀ a ∈ X, ∃ o, s.heap.get? a = some o) ∧ (∀ p ∈ Cs, ∃ v, s.heap.IsCell p.2 v) ∧ StoR c env (Vol V0 X) s m ρ fps

/-- k = true: the value may be kept; k = false: it is looked at only -/
abbrev VK (k : Bool) (V0 : Addr → Prop) (X : List Addr) : Addr → Prop := fun a => k = true ∧ Vol V0 X a

/-- e has the value d -/
structure Ev (c : Cx) (n : Nat) (sc : Scope) (k : Bool) (ρ : Sto) (e : Expr) (d : D) : Prop where
  run : ∀ A env V0 h0 Cs X s, Room n A → Fm c sc env V0 h0 Cs X ρ s →
    wpAny c.M A (eval e env) (fun v s' => Gr s s' ∧ Rep c (VK k V0 X) s' d v) (fun _ _ => False) s

end Mine
namespace Mine

theorem St.pos {c V s} (h : St c V s) : 0 < s.toks := Nat.pos_of_ne_zero h.tok

/-- the end of a step: the counter only grows -/
theorem wp_end {α : Type} {c : Cx} {A : Around} {t : Sem α} {s : Shared} {P : α → Shared → Prop}
    (h : wpAny c.M A t (fun v s' => Keeps s.heap s'.heap ∧ s'.gens = s.gens ∧ s'.os = s.os ∧ (s.toks ≤ s'.toks → P v s')) (fun _ _ => False) s) :
    wpAny c.M A t (fun v s' => Gr s s' ∧ P v s') (fun _ _ => False) s :=
  wpAny_with_toks (Nat.le_refl _) (wpAny_mono h (fun _ _ q ht => ⟨⟨q.1, ht, q.2.1, q.2.2.1⟩, q.2.2.2 ht⟩) fun _ _ q => q.elim)

theorem wp_gr {α : Type} {c : Cx} {A : Around} {t : Sem α} {s s₀ : Shared} {P : α → Shared → Prop} (g : Gr s₀ s)
    (h : wpAny c.M A t (fun v s' => Gr s s' ∧ P v s') (fun _ _ => False) s) :
    wpAny c.M A t (fun v s' => Gr s₀ s' ∧ P v s') (fun _ _ => False) s :=
  wpAny_mono h (fun _ _ q => ⟨g.trans q.1, q.2⟩) fun _ _ q => q

mutual
theorem RepS.calm {c : Cx} {V V' : Addr → Prop} {s s' : Shared} (hc : Calm V s s') (hv : ∀ a, V' a → V a) : ∀ {sl v fp}, RepS c V s sl v fp →
    (∀ a ∈ fp, ∀ o, s.heap.get? a = some o → s'.heap.get? a = some o) → RepS c V' s' sl v fp
  | _, _, _, .val r, _ => .val (r.calm hc hv)
  | _, _, _, .own ho hcl hd hdt r, hk => .own (hk _ (.head _) _ ho) hcl hd hdt (RepSL.calm hc hv r fun a ha => hk a (.tail _ ha))
theorem RepSL.calm {c : Cx} {V V' : Addr → Prop} {s s' : Shared} (hc : Calm V s s') (hv : ∀ a, V' a → V a) : ∀ {sl v fp}, RepSL c V s sl v fp →
    (∀ a ∈ fp, ∀ o, s.heap.get? a = some o → s'.heap.get? a = some o) → RepSL c V' s' sl v fp
  | _, _, _, .nil, _ => .nil
  | _, _, _, .cons r rs, hk => .cons (RepS.calm hc hv r fun a ha => hk a (List.mem_append_left _ ha)) (RepSL.calm hc hv rs fun a ha => hk a (List.mem_append_right _ ha))
end

theorem Loc.calm {env : Env} {s s' : Shared} {m m' : Str → Option Value} {x : String} {v : Value} (h : Loc env s m x v)
    (hm : env.kindOf (Str.ofString x) = some .local → m' (Str.ofString x) = m (Str.ofString x)) (hc : ∀ a o w, env.cells.lookup (Str.ofString x) = some a → s.heap.get? a = some o → o.data = .cell w → s'.heap.get? a = some o) : Loc env s' m' x v := by
  cases h with
  | loc h1 h2 => exact .loc h1 ((hm h1).trans h2)
  | cell h1 h2 h3 h4 => exact .cell h1 h2 (hc _ _ _ h2 h3 h4) h4

theorem StoR.gr {c : Cx} {env : Env} {V : Addr → Prop} {s s' : Shared} {m : Str → Option Value} (g : Gr s s') : ∀ {ρ fps}, StoR c env V s m ρ fps → StoR c env V s' m ρ fps
  | _, _, .nil => .nil
  | _, _, .cons l r rs => .cons (l.calm (fun _ => rfl) fun _ _ _ _ e _ => g.keep _ _ e) (r.calm (g.calm V) (fun _ q => q) fun _ _ _ e => g.keep _ _ e) (rs.gr g)

theorem Fm.gr {c sc env V0 h0 Cs X ρ s s'} (F : Fm c sc env V0 h0 Cs X ρ s) (g : Gr s s') : Fm c sc env V0 h0 Cs X ρ s' :=
  ⟨F.good, F.scope, F.kind, F.globals, F.builtins, F.base, F.keep.trans g.keep, fun e => F.tok (Nat.le_zero.mp (e ▸ g.tok)), fun a q => ⟨let ⟨o, e⟩ := (F.live0 a q).1; ⟨o, g.keep _ _ e⟩, (F.live0 a q).2⟩, F.ccells, F.new, F.cells, F.cinj,
   let ⟨m, fps, h1, h2, h3, h4, h6, h5⟩ := F.sto
   ⟨m, fps, h1.keeps g.keep, h2, h3, fun a ha => let ⟨o, e⟩ := h4 a ha; ⟨o, g.keep _ _ e⟩, fun p hp => let ⟨v, q⟩ := h6 p hp; ⟨v, q.keeps g.keep⟩, h5.gr g⟩⟩

theorem Fm.st {c sc env V0 h0 Cs X ρ s} (F : Fm c sc env V0 h0 Cs X ρ s) (k : Bool) : St c (VK k V0 X) s :=
  ⟨F.good, F.base.trans F.keep, F.tok, fun a q => by
    rcases q.2 with q | q
    · exact (F.live0 a q).1
    · obtain ⟨m, fps, _, _, _, h4, _, _⟩ := F.sto; exact h4 a q⟩

theorem StoR.get {c : Cx} {env : Env} {V : Addr → Prop} {s : Shared} {m : Str → Option Value} {x : String} {sl : Slot} : ∀ {ρ fps}, StoR c env V s m ρ fps → ρ.lookup x = some sl →
    ∃ v fp, Loc env s m x v ∧ RepS c V s sl v fp ∧ (∀ a ∈ fp, a ∈ fps)
  | _, _, .nil, e => by cases e
  | _, _, .cons (x := y) (v := v) (fp := fp) l r rs, e => by
    rw [List.lookup_cons] at e
    by_cases hy : x = y
    · subst hy
      simp only [beq_self_eq_true] at e
      cases e
      exact ⟨v, fp, l, r, fun a ha => List.mem_append_left _ ha⟩
    · have : (x == y) = false := by simpa using hy
      rw [this] at e
      obtain ⟨v', fp', h1, h2, h3⟩ := rs.get e
      exact ⟨v', fp', h1, h2, fun a ha => List.mem_append_right _ (h3 a ha)⟩

theorem ofString_ne {x y : String} (h : x ≠ y) : (Str.ofString x == Str.ofString y) = false := by
  rw [beq_eq_false_iff_ne]; exact fun e => h (ofString_inj e)

/-- reading a name -/
theorem Loc.load {M : Model} {A : Around} {E : Value → Shared → Prop} {env : Env} {s : Shared} {m : Str → Option Value} {x : String} {v : Value} {Q : Value → Shared → Prop}
    (hk : env.scope.kind = .function) (hn : s.heap.Ns env.locals m) (l : Loc env s m x v) (h : Q v s) : wpAny M A (loadName env (Str.ofString x)) Q E s := by
  cases l with
  | loc h1 h2 => exact wpAny_loadName_local hk h1 hn h2 h
  | cell h1 h2 h3 h4 =>
    rcases h1 with h1 | ⟨h1, h1'⟩
    · exact wpAny_loadName_cell hk h1 h2 ⟨_, h3, h4⟩ h
    · exact wpAny_loadName_free hk h1 h2 ⟨_, h3, h4⟩ h (ofString_ne h1')

mutual
def Slot.d : Slot → D
  | .val d => d
  | .own l => .list (Slot.ds l)
def Slot.ds : List Slot → List D
  | [] => []
  | sl :: r => sl.d :: Slot.ds r
end

mutual
theorem RepS.look {c V s} : ∀ {sl v fp}, RepS c V s sl v fp → Rep c Vol0 s sl.d v
  | _, _, _, .val r => r.weak fun _ q => q.elim
  | _, _, _, .own ho hcl hd hdt r => .list id ho hcl hd hdt (RepSL.look r)
theorem RepSL.look {c V s} : ∀ {sl v fp}, RepSL c V s sl v fp → RepL c Vol0 s (Slot.ds sl) v
  | _, _, _, .nil => .nil
  | _, _, _, .cons r rs => .cons (RepS.look r) (RepSL.look rs)
end

section
variable {c : Cx} {n : Nat} {sc : Scope} {k : Bool} {ρ : Sto}

theorem Ev.name {x : String} {pos : Pos} {d : D} (h : ρ.lookup x = some (.val d)) (hx : x ≠ "__debug__" := by decide) : Ev c n sc k ρ (.Name (Str.ofString x) pos) d := by
  constructor; intro A env V0 h0 Cs X s _ F
  obtain ⟨m, fps, hn, _, _, _, _, hs⟩ := F.sto
  obtain ⟨v, fp, l, r, _⟩ := hs.get h
  refine wpAny_Name (l.load (by rw [F.scope]; exact F.kind) hn ⟨.refl s, ?_⟩) (ofString_ne hx)
  cases r with
  | val r => exact r.weak fun _ q => q.2

/-- an owned list is looked at -/
theorem Ev.look {x : String} {pos : Pos} {sl : Slot} {d : D} (h : ρ.lookup x = some sl) (hd : sl.d = d) (hx : x ≠ "__debug__" := by decide) : Ev c n sc false ρ (.Name (Str.ofString x) pos) d := by
  constructor; intro A env V0 h0 Cs X s _ F
  obtain ⟨m, fps, hn, _, _, _, _, hs⟩ := F.sto
  obtain ⟨v, fp, l, r, _⟩ := hs.get h
  refine wpAny_Name (l.load (by rw [F.scope]; exact F.kind) hn ⟨.refl s, ?_⟩) (ofString_ne hx)
  subst hd
  exact r.look.weak fun _ q => nomatch q.1

theorem Ev.weak {e : Expr} {d : D} (h : Ev c n sc true ρ e d) : Ev c n sc k ρ e d := .mk fun A env V0 h0 Cs X s hA F =>
  wpAny_mono (h.run A env V0 h0 Cs X s hA F) (fun _ _ q => ⟨q.1, q.2.weak fun _ q => ⟨rfl, q.2⟩⟩) fun _ _ q => q

def D.flat : D → Bool
  | .none | .bool _ | .int _ | .str _ | .tstr _ | .val _ => true
  | _ => false
theorem Rep.flat {c V V' s} : ∀ {d v}, Rep c V s d v → d.flat = true → Rep c V' s d v
  | _, _, .none, _ => .none
  | _, _, .bool b, _ => .bool b
  | _, _, .int i t, _ => .int i t
  | _, _, .str x t, _ => .str x t
  | _, _, .tstr x t a b, _ => .tstr x t a b
  | _, _, .val v, _ => .val v
  | _, _, .range .., h => nomatch h
  | _, _, .list .., h => nomatch h
  | _, _, .tuple .., h => nomatch h
  | _, _, .dict .., h => nomatch h

theorem Ev.lookAt {e : Expr} {d : D} (h : Ev c n sc false ρ e d) (hd : d.flat = true) : Ev c n sc k ρ e d := .mk fun A env V0 h0 Cs X s hA F =>
  wpAny_mono (h.run A env V0 h0 Cs X s hA F) (fun _ _ q => ⟨q.1, q.2.flat hd⟩) fun _ _ q => q

theorem Ev.int {i : Int} {kk : Nat} {pos : Pos} : Ev c n sc k ρ (.Constant (.int i) kk pos) (.int i) := .mk fun A env V0 h0 Cs X s _ _ =>
  wp_end (wpAny_Constant_int ⟨fun _ _ e => e, rfl, rfl, fun _ => .int _ _⟩)
theorem Ev.str {x : Str} {kk : Nat} {pos : Pos} : Ev c n sc k ρ (.Constant (.str x) kk pos) (.str x) := .mk fun A env V0 h0 Cs X s _ _ =>
  wp_end (wpAny_Constant_str ⟨fun _ _ e => e, rfl, rfl, fun _ => .str _ _⟩)
theorem Ev.tstr {x : Str} {kk : Nat} {pos : Pos} : Ev c n sc k ρ (.Constant (.str x) kk pos) (.tstr x) := .mk fun A env V0 h0 Cs X s _ F =>
  wp_end (wpAny_Constant_str ⟨fun _ _ e => e, rfl, rfl, fun _ => .tstr _ _ F.tok (Nat.lt_succ_self _)⟩)
theorem Ev.bool {b : Bool} {kk : Nat} {pos : Pos} : Ev c n sc k ρ (.Constant (.bool b) kk pos) (.bool b) := .mk fun A env V0 h0 Cs X s _ _ =>
  wpAny_Constant_bool ⟨.refl s, .bool _⟩
theorem Ev.none {kk : Nat} {pos : Pos} : Ev c n sc k ρ (.Constant .none kk pos) .none := .mk fun A env V0 h0 Cs X s _ _ =>
  wpAny_Constant_none ⟨.refl s, .none⟩

/-- a name of the module's top -/
theorem Ev.glob {x : String} {pos : Pos} {v : Value} (h : c.mg (Str.ofString x) = some v) (hk : sc.names.lookup (Str.ofString x) = some .globalImplicit := by rfl) (hx : x ≠ "__debug__" := by decide) :
    Ev c n sc k ρ (.Name (Str.ofString x) pos) (.val v) := .mk fun A env V0 h0 Cs X s _ F =>
  Calls.Name_function_global (by rw [F.scope]; exact F.kind) (by show env.scope.names.lookup _ = _; rw [F.scope]; exact hk)
    (Calls.loadGlobal_global (by rw [F.globals]; exact (F.good.g.keeps F.base).keeps F.keep) h ⟨.refl s, .val _⟩) (ofString_ne hx)
/-- a name of the built-ins -/
theorem Ev.blt {x : String} {pos : Pos} {v : Value} (h0 : c.mg (Str.ofString x) = Option.none) (h : c.mb (Str.ofString x) = some v) (hk : sc.names.lookup (Str.ofString x) = some .globalImplicit := by rfl) (hx : x ≠ "__debug__" := by decide) :
    Ev c n sc k ρ (.Name (Str.ofString x) pos) (.val v) := .mk fun A env V0 h0' Cs X s _ F =>
  Calls.Name_function_global (by rw [F.scope]; exact F.kind) (by show env.scope.names.lookup _ = _; rw [F.scope]; exact hk)
    (Calls.loadGlobal_builtin (by rw [F.globals]; exact (F.good.g.keeps F.base).keeps F.keep) h0 (by rw [F.builtins]; exact (F.good.b.keeps F.base).keeps F.keep) h ⟨.refl s, .val _⟩) (ofString_ne hx)

def BinR (c : Cx) (op : Operator) (d₁ d₂ d : D) : Prop :=
  ∀ A V s v₁ v₂, Room 0 A → St c V s → Rep c V s d₁ v₁ → Rep c V s d₂ v₂ → wpAny c.M A (binaryOp op v₁ v₂) (fun v s' => Gr s s' ∧ Rep c V s' d v) (fun _ _ => False) s
def InpR (c : Cx) (op : Operator) (d₁ d₂ d : D) : Prop :=
  ∀ A V s v₁ v₂, Room 0 A → St c V s → Rep c V s d₁ v₁ → Rep c V s d₂ v₂ → wpAny c.M A (inplaceOp op v₁ v₂) (fun v s' => Gr s s' ∧ Rep c V s' d v) (fun _ _ => False) s
def CmpR (c : Cx) (op : CmpOp) (d₁ d₂ : D) (b : Bool) : Prop :=
  ∀ A V s v₁ v₂, Room 0 A → St c V s → Rep c V s d₁ v₁ → Rep c V s d₂ v₂ → wpAny c.M A (compareOp op v₁ v₂) (fun v s' => Gr s s' ∧ v = .bool b) (fun _ _ => False) s
def ItemR (c : Cx) (d₁ d₂ d : D) : Prop :=
  ∀ A V s v₁ v₂, Room 0 A → St c V s → Rep c V s d₁ v₁ → Rep c V s d₂ v₂ → wpAny c.M A (getItem v₁ v₂) (fun v s' => Gr s s' ∧ Rep c V s' d v) (fun _ _ => False) s
def TruR (c : Cx) (d : D) (b : Bool) : Prop :=
  ∀ A V s v, Room 0 A → St c V s → Rep c V s d v → wpAny c.M A (truthy v) (fun r s' => Gr s s' ∧ r = b) (fun _ _ => False) s

theorem Room.zero {n A} (h : Room n A) : Room 0 A := h.mono (Nat.zero_le _)

theorem Ev.bin {l r : Expr} {op : Operator} {pos : Pos} {d₁ d₂ d : D} (h1 : Ev c n sc k ρ l d₁) (h2 : Ev c n sc k ρ r d₂) (h : BinR c op d₁ d₂ d) : Ev c n sc k ρ (.BinOp l op r pos) d :=
  .mk fun A env V0 h0 Cs X s hA F => wpAny_BinOp (wpAny_mono (h1.run A env V0 h0 Cs X s hA F) (fun v₁ s₁ q₁ => wpAny_mono (h2.run A env V0 h0 Cs X s₁ hA (F.gr q₁.1)) (fun v₂ s₂ q₂ =>
    wp_gr (q₁.1.trans q₂.1) (h A _ s₂ v₁ v₂ hA.zero ((F.st k).gr (q₁.1.trans q₂.1)) (q₁.2.gr q₂.1) q₂.2)) fun _ _ q => q) fun _ _ q => q)

theorem Ev.cmp {l r : Expr} {op : CmpOp} {pos : Pos} {d₁ d₂ : D} {b : Bool} (h1 : Ev c n sc false ρ l d₁) (h2 : Ev c n sc false ρ r d₂) (h : CmpR c op d₁ d₂ b)
    (hm : behindInMarks op r = false := by with_unfolding_all rfl) : Ev c n sc k ρ (.Compare l [op] [r] pos) (.bool b) :=
  .mk fun A env V0 h0 Cs X s hA F => wpAny_Compare1 (wpAny_mono (h1.run A env V0 h0 Cs X s hA F) (fun v₁ s₁ q₁ => wpAny_mono (h2.run A env V0 h0 Cs X s₁ hA (F.gr q₁.1)) (fun v₂ s₂ q₂ =>
    wp_gr (q₁.1.trans q₂.1) (wpAny_mono (h A _ s₂ v₁ v₂ hA.zero ((F.st false).gr (q₁.1.trans q₂.1)) (q₁.2.gr q₂.1) q₂.2) (fun v s' q => ⟨q.1, by rw [q.2]; exact .bool b⟩) fun _ _ q => q)) fun _ _ q => q) fun _ _ q => q) hm

/-- a test -/
structure Tst (c : Cx) (n : Nat) (sc : Scope) (ρ : Sto) (e : Expr) (b : Bool) : Prop where
  run : ∀ A env V0 h0 Cs X s, Room n A → Fm c sc env V0 h0 Cs X ρ s →
    wpAny c.M A (isTrue e env (eval e env)) (fun r s' => Gr s s' ∧ r = b) (fun _ _ => False) s

theorem Tst.cmp {l r : Expr} {op : CmpOp} {pos : Pos} {d₁ d₂ : D} {b : Bool} (h1 : Ev c n sc false ρ l d₁) (h2 : Ev c n sc false ρ r d₂) (h : CmpR c op d₁ d₂ b)
    (hm : behindInMarks op r = false := by with_unfolding_all rfl) : Tst c n sc ρ (.Compare l [op] [r] pos) b :=
  .mk fun A env V0 h0 Cs X s hA F => wpAny_isTrue_Compare1 (wpAny_mono (h1.run A env V0 h0 Cs X s hA F) (fun v₁ s₁ q₁ => wpAny_mono (h2.run A env V0 h0 Cs X s₁ hA (F.gr q₁.1)) (fun v₂ s₂ q₂ =>
    (wpAny_mono (h A _ s₂ v₁ v₂ hA.zero ((F.st false).gr (q₁.1.trans q₂.1)) (q₁.2.gr q₂.1) q₂.2) (fun v s' q => by
      rw [q.2]; exact wpAny_truthy_bool ⟨(q₁.1.trans q₂.1).trans q.1, rfl⟩) fun _ _ q => q)) fun _ _ q => q) fun _ _ q => q) hm
theorem Tst.not {e : Expr} {pos : Pos} {b : Bool} (h : Tst c n sc ρ e b) : Tst c n sc ρ (.UnaryOp .Not e pos) (!b) :=
  .mk fun A env V0 h0 Cs X s hA F => wpAny_isTrue_Not (wpAny_mono (h.run A env V0 h0 Cs X s hA F) (fun r s' q => ⟨q.1, by rw [q.2]⟩) fun _ _ q => q)
theorem Tst.val {e : Expr} {d : D} {b : Bool} (h : Ev c n sc false ρ e d) (ht : TruR c d b)
    (hw : ∀ env : Env, isTrue e env (eval e env) = (do let v ← eval e env; standAt e.pos; holding [v] (truthy v)) := by intro _; rfl) : Tst c n sc ρ e b :=
  .mk fun A env V0 h0 Cs X s hA F => by
    rw [hw]
    exact wpAny_bind (wpAny_mono (h.run A env V0 h0 Cs X s hA F) (fun v s' q => wpAny_bind (wpAny_standAt (wpAny_holding (wp_gr q.1 (ht A _ s' v hA.zero ((F.st false).gr q.1) q.2))))) fun _ _ q => q)
theorem Tst.bin {e : Expr} {b : Bool} (h : Ev c n sc false ρ e (.bool b)) 
    (hw : ∀ env : Env, isTrue e env (eval e env) = (do let v ← eval e env; standAt e.pos; holding [v] (truthy v)) := by intro _; rfl) : Tst c n sc ρ e b :=
  Tst.val h (fun A V s v _ _ r => by cases r; exact wpAny_truthy_bool ⟨.refl s, rfl⟩) hw

structure Tsts (c : Cx) (n : Nat) (sc : Scope) (ρ : Sto) (op : BoolOp) (es : List Expr) (b : Bool) : Prop where
  run : ∀ A env V0 h0 Cs X s, Room n A → Fm c sc env V0 h0 Cs X ρ s →
    wpAny c.M A (allTrue op es env) (fun r s' => Gr s s' ∧ r = b) (fun _ _ => False) s
theorem Tst.boolop {op : BoolOp} {es : List Expr} {pos : Pos} {b : Bool} (h : Tsts c n sc ρ op es b) : Tst c n sc ρ (.BoolOp op es pos) b :=
  .mk fun A env V0 h0 Cs X s hA F => wpAny_isTrue_BoolOp (h.run A env V0 h0 Cs X s hA F)
theorem Tsts.nilAnd : Tsts c n sc ρ .And [] true := .mk fun A env V0 h0 Cs X s _ _ => wpAny_allTrue_And_nil ⟨.refl s, rfl⟩
theorem Tsts.nilOr : Tsts c n sc ρ .Or [] false := .mk fun A env V0 h0 Cs X s _ _ => wpAny_allTrue_Or_nil ⟨.refl s, rfl⟩
theorem Tsts.and {e : Expr} {es : List Expr} {a b : Bool} (h : Tst c n sc ρ e a) (hs : a = true → Tsts c n sc ρ .And es b) : Tsts c n sc ρ .And (e :: es) (a && b) :=
  .mk fun A env V0 h0 Cs X s hA F => wpAny_allTrue_And_cons (wpAny_mono (h.run A env V0 h0 Cs X s hA F) (fun r s' q => by
    obtain ⟨g, rfl⟩ := q
    cases r with
    | false => exact ⟨g, rfl⟩
    | true => exact wp_gr g ((hs rfl).run A env V0 h0 Cs X s' hA (F.gr g))) fun _ _ q => q)
theorem Tsts.or {e : Expr} {es : List Expr} {a b : Bool} (h : Tst c n sc ρ e a) (hs : a = false → Tsts c n sc ρ .Or es b) : Tsts c n sc ρ .Or (e :: es) (a || b) :=
  .mk fun A env V0 h0 Cs X s hA F => wpAny_allTrue_Or_cons (wpAny_mono (h.run A env V0 h0 Cs X s hA F) (fun r s' q => by
    obtain ⟨g, rfl⟩ := q
    cases r with
    | true => exact ⟨g, rfl⟩
    | false => exact wp_gr g ((hs rfl).run A env V0 h0 Cs X s' hA (F.gr g))) fun _ _ q => q)

theorem Ev.ite {t a b : Expr} {pos : Pos} {x : Bool} {d : D} (h : Tst c n sc ρ t x) (ha : x = true → Ev c n sc k ρ a d) (hb : x = false → Ev c n sc k ρ b d) : Ev c n sc k ρ (.IfExp t a b pos) d :=
  .mk fun A env V0 h0 Cs X s hA F => wpAny_IfExp (wpAny_mono (h.run A env V0 h0 Cs X s hA F) (fun r s' q => by
    obtain ⟨g, rfl⟩ := q
    cases r with
    | true => exact wp_gr g ((ha rfl).run A env V0 h0 Cs X s' hA (F.gr g))
    | false => exact wp_gr g ((hb rfl).run A env V0 h0 Cs X s' hA (F.gr g))) fun _ _ q => q)

theorem Ev.notv {e : Expr} {pos : Pos} {d : D} {b : Bool} (h : Ev c n sc false ρ e d) (ht : TruR c d b) : Ev c n sc k ρ (.UnaryOp .Not e pos) (.bool (!b)) :=
  .mk fun A env V0 h0 Cs X s hA F => wpAny_UnaryOp (wpAny_mono (h.run A env V0 h0 Cs X s hA F) (fun v s' q => not_value (wpAny_mono (ht A _ s' v hA.zero ((F.st false).gr q.1) q.2) (fun r s'' q' => ⟨q.1.trans q'.1, by rw [q'.2]; exact .bool _⟩) fun _ _ q => q)) fun _ _ q => q)

end
end Mine
namespace Mine

def delS (x : String) : Sto → Sto
  | [] => []
  | (y, sl) :: r => if y = x then delS x r else (y, sl) :: delS x r
def setS (ρ : Sto) (x : String) (sl : Slot) : Sto := (x, sl) :: delS x ρ

/-- what a piece of code may do to the state: X are the places that it may turn -/
structure Stp (X : List Addr) (s : Shared) (X' : List Addr) (s' : Shared) : Prop where
  keep : ∀ b o, b ∉ X → s.heap.get? b = some o → s'.heap.get? b = some o
  tok : s.toks ≤ s'.toks
  gens : s'.gens = s.gens
  os : s'.os = s.os
  new : ∀ b ∈ X', b ∈ X ∨ s.heap.get? b = none
  live : ∀ b ∈ X, ∀ o, s.heap.get? b = some o → ∃ o', s'.heap.get? b = some o'
theorem Stp.refl (X : List Addr) (s : Shared) : Stp X s X s := ⟨fun _ _ _ e => e, Nat.le_refl _, rfl, rfl, fun _ h => .inl h, fun _ _ o e => ⟨o, e⟩⟩
theorem Stp.of_gr {X : List Addr} {s s' : Shared} (g : Gr s s') : Stp X s X s' := ⟨fun _ _ _ e => g.keep _ _ e, g.tok, g.gens, g.os, fun _ h => .inl h, fun _ _ o e => ⟨o, g.keep _ _ e⟩⟩
theorem Stp.trans {X X' X'' : List Addr} {s s' s'' : Shared} (a : Stp X s X' s') (b : Stp X' s' X'' s'') : Stp X s X'' s'' :=
  ⟨fun x o hx e => b.keep x o (fun q => (a.new x q).elim hx fun q => (by rw [q] at e; cases e)) (a.keep x o hx e), Nat.le_trans a.tok b.tok, b.gens.trans a.gens, b.os.trans a.os,
   fun x hx => (by
    rcases b.new x hx with q | q
    · exact a.new x q
    · by_cases hX : x ∈ X
      · exact .inl hX
      · refine .inr ?_
        cases e : s.heap.get? x with
        | none => rfl
        | some o => rw [a.keep x o hX e] at q; cases q),
   fun x hx o e => by
    obtain ⟨o', e'⟩ := a.live x hx o e
    by_cases h' : x ∈ X'
    · exact b.live x h' o' e'
    · exact ⟨o', b.keep x o' h' e'⟩⟩
theorem Stp.sub {X Y X' : List Addr} {s s' : Shared} (a : Stp X s X' s') (h : ∀ b ∈ X, b ∈ Y) : Stp Y s X' s' :=
  ⟨fun b o hb e => a.keep b o (fun q => hb (h b q)) e, a.tok, a.gens, a.os, fun b hb => (a.new b hb).imp (h b) id, fun b hb o e => by
    by_cases hX : b ∈ X
    · exact a.live b hX o e
    · exact ⟨o, a.keep b o hX e⟩⟩
theorem Stp.sub' {X X' Y : List Addr} {s s' : Shared} (a : Stp X s X' s') (h : ∀ b ∈ Y, b ∈ X') : Stp X s Y s' :=
  ⟨a.keep, a.tok, a.gens, a.os, fun b hb => a.new b (h b hb), a.live⟩

mutual
theorem Rep.ext {c : Cx} {V W : Addr → Prop} {s : Shared} (hw : ∀ a, W a → s.heap.get? a = none) : ∀ {d v}, Rep c V s d v → Rep c (fun a => V a ∨ W a) s d v
  | _, _, .none => .none
  | _, _, .bool b => .bool b
  | _, _, .int i t => .int i t
  | _, _, .str x t => .str x t
  | _, _, .tstr x t h1 h2 => .tstr x t h1 h2
  | _, _, .val v => .val v
  | _, _, .range na h => .range (fun q => q.elim na fun q => by unfold IsRange at h; rw [hw _ q] at h; cases h) h
  | _, _, .list na ho hcl hd hdt r => .list (fun q => q.elim na fun q => by rw [hw _ q] at ho; cases ho) ho hcl hd hdt (RepL.ext hw r)
  | _, _, .tuple na ho hcl hd hdt r => .tuple (fun q => q.elim na fun q => by rw [hw _ q] at ho; cases ho) ho hcl hd hdt (RepL.ext hw r)
  | _, _, .dict na hsm ho hx hdt r => .dict (fun q => q.elim na fun q => by rw [hw _ q] at ho; cases ho) hsm ho hx hdt (RepD.ext hw r)
theorem RepL.ext {c : Cx} {V W : Addr → Prop} {s : Shared} (hw : ∀ a, W a → s.heap.get? a = none) : ∀ {d v}, RepL c V s d v → RepL c (fun a => V a ∨ W a) s d v
  | _, _, .nil => .nil
  | _, _, .cons r rs => .cons (Rep.ext hw r) (RepL.ext hw rs)
theorem RepD.ext {c : Cx} {V W : Addr → Prop} {s : Shared} (hw : ∀ a, W a → s.heap.get? a = none) : ∀ {d v}, RepD c V s d v → RepD c (fun a => V a ∨ W a) s d v
  | _, _, .nil => .nil
  | _, _, .cons hk hh r rs => .cons hk hh (Rep.ext hw r) (RepD.ext hw rs)
end
mutual
theorem RepS.ext {c : Cx} {V W : Addr → Prop} {s : Shared} (hw : ∀ a, W a → s.heap.get? a = none) : ∀ {d v fp}, RepS c V s d v fp → RepS c (fun a => V a ∨ W a) s d v fp
  | _, _, _, .val r => .val (r.ext hw)
  | _, _, _, .own ho hcl hd hdt r => .own ho hcl hd hdt (RepSL.ext hw r)
theorem RepSL.ext {c : Cx} {V W : Addr → Prop} {s : Shared} (hw : ∀ a, W a → s.heap.get? a = none) : ∀ {d v fp}, RepSL c V s d v fp → RepSL c (fun a => V a ∨ W a) s d v fp
  | _, _, _, .nil => .nil
  | _, _, _, .cons r rs => .cons (RepS.ext hw r) (RepSL.ext hw rs)
end
theorem RepS.weak {c : Cx} {V V' : Addr → Prop} {s : Shared} {sl v fp} (r : RepS c V s sl v fp) (hv : ∀ a, V' a → V a) : RepS c V' s sl v fp := r.calm (Gr.calm (.refl s) V) hv fun _ _ _ e => e
theorem RepS.gr {c : Cx} {V : Addr → Prop} {s s' : Shared} {sl v fp} (r : RepS c V s sl v fp) (g : Gr s s') : RepS c V s' sl v fp := r.calm (g.calm V) (fun _ q => q) fun _ _ _ e => g.keep _ _ e

theorem StoR.ext {c : Cx} {env : Env} {V W : Addr → Prop} {s : Shared} {m : Str → Option Value} (hw : ∀ a, W a → s.heap.get? a = none) : ∀ {ρ fps}, StoR c env V s m ρ fps → StoR c env (fun a => V a ∨ W a) s m ρ fps
  | _, _, .nil => .nil
  | _, _, .cons l r rs => .cons l (r.ext hw) (rs.ext hw)
theorem StoR.weak {c : Cx} {env : Env} {V V' : Addr → Prop} {s : Shared} {m : Str → Option Value} (hv : ∀ a, V' a → V a) : ∀ {ρ fps}, StoR c env V s m ρ fps → StoR c env V' s m ρ fps
  | _, _, .nil => .nil
  | _, _, .cons l r rs => .cons l (r.weak hv) (rs.weak hv)

theorem StoR.del {c : Cx} {env : Env} {V : Addr → Prop} {s : Shared} {m : Str → Option Value} (x : String) : ∀ {ρ fps}, StoR c env V s m ρ fps → ∃ fps' rest, StoR c env V s m (delS x ρ) fps' ∧ (rest ++ fps').Perm fps
  | _, _, .nil => ⟨[], [], .nil, .refl _⟩
  | _, _, .cons (x := y) (fp := fp) l r rs => by
    obtain ⟨fps', rest, h1, h2⟩ := rs.del x
    unfold delS
    by_cases hy : y = x
    · rw [if_pos hy]
      exact ⟨fps', fp ++ rest, h1, by rw [List.append_assoc]; exact h2.append_left fp⟩
    · rw [if_neg hy]
      exact ⟨fp ++ fps', rest, .cons l r h1, (by
        rw [← List.append_assoc]
        refine (List.Perm.append_right _ List.perm_append_comm).trans ?_
        rw [List.append_assoc]; exact h2.append_left fp)⟩

theorem delS_ne {x : String} : ∀ {ρ : Sto}, ∀ p ∈ delS x ρ, p.1 ≠ x
  | [], _, hp => by cases hp
  | (y, sl) :: r, p, hp => by
    unfold delS at hp
    split at hp
    · exact delS_ne p hp
    · rcases List.mem_cons.mp hp with rfl | hp
      · assumption
      · exact delS_ne p hp

/-- the store under a change at a place of X that no footprint holds -/
theorem StoR.change {c : Cx} {env : Env} {V : Addr → Prop} {s s' : Shared} {m m' : Str → Option Value} (hc : Calm V s s') : ∀ {ρ fps}, StoR c env V s m ρ fps →
    (∀ a ∈ fps, ∀ o, s.heap.get? a = some o → s'.heap.get? a = some o) →
    (∀ p ∈ ρ, env.kindOf (Str.ofString p.1) = some .local → m' (Str.ofString p.1) = m (Str.ofString p.1)) →
    (∀ p ∈ ρ, ∀ a o w, env.cells.lookup (Str.ofString p.1) = some a → s.heap.get? a = some o → o.data = .cell w → s'.heap.get? a = some o) → StoR c env V s' m' ρ fps
  | _, _, .nil, _, _, _ => .nil
  | _, _, .cons l r rs, h1, h2, h3 => .cons (l.calm (h2 _ (.head _)) (h3 _ (.head _))) (r.calm hc (fun _ q => q) fun a ha => h1 a (List.mem_append_left _ ha))
      (rs.change hc (fun a ha => h1 a (List.mem_append_right _ ha)) (fun p hp => h2 p (.tail _ hp)) fun p hp => h3 p (.tail _ hp))

mutual
theorem RepS.alive {c V s} : ∀ {sl v fp}, RepS c V s sl v fp → ∀ a ∈ fp, ∃ o, s.heap.get? a = some o
  | _, _, _, .val _, a, ha => by cases ha
  | _, _, _, .own ho _ _ _ r, a, ha => by
    rcases List.mem_cons.mp ha with rfl | ha
    · exact ⟨_, ho⟩
    · exact RepSL.alive r a ha
theorem RepSL.alive {c V s} : ∀ {sl v fp}, RepSL c V s sl v fp → ∀ a ∈ fp, ∃ o, s.heap.get? a = some o
  | _, _, _, .nil, a, ha => by cases ha
  | _, _, _, .cons r rs, a, ha => by
    rcases List.mem_append.mp ha with ha | ha
    · exact RepS.alive r a ha
    · exact RepSL.alive rs a ha
end

/-- a name that may be stored -/
def CanStore (sc : Scope) (x : String) : Prop := sc.names.lookup (Str.ofString x) = some .local ∨ sc.names.lookup (Str.ofString x) = some .cell
/-- all cells of the scope are the frame's own -/
def Own (sc : Scope) (Cs : List (Str × Addr)) : Prop := ∀ x, sc.names.lookup x = some .cell → ∃ a, Cs.lookup x = some a

theorem mem_lookup {α β : Type} [BEq α] [LawfulBEq α] : ∀ {l : List (α × β)} {x : α} {a : β}, l.lookup x = some a → (x, a) ∈ l
  | (y, b) :: r, x, a, h => by
    rw [List.lookup_cons] at h
    by_cases hy : x = y
    · subst hy; simp only [beq_self_eq_true] at h; cases h; exact .head _
    · have : (x == y) = false := by simpa using hy
      rw [this] at h; exact .tail _ (mem_lookup h)

section
variable {c : Cx} {n : Nat} {sc : Scope} {env : Env} {V0 : Addr → Prop} {h0 : Heap} {Cs : List (Str × Addr)} {X : List Addr} {ρ : Sto} {s s₁ : Shared} {A : Around}

theorem Fm.tok_pos (F : Fm c sc env V0 h0 Cs X ρ s) : 0 < s.toks := Nat.pos_of_ne_zero F.tok

theorem calm_at {a : Addr} {V : Addr → Prop} {s : Shared} {h' : Heap} {tk : Nat} (hs : Heap.SameBut a s.heap h') (hv : V a) (ht : s.toks ≤ tk) : Calm V s { s with heap := h', toks := tk } :=
  ⟨ht, fun b o nb e _ => (hs.2 b fun q => nb (q ▸ hv)).trans e⟩

/-- storing a value in a name -/
theorem Fm.store {x : String} {sl : Slot} {v : Value} {fp : List Addr} (F : Fm c sc env V0 h0 Cs X ρ s) (g : Gr s s₁) (hO : sc.names.lookup (Str.ofString x) = some .cell → ∃ a, Cs.lookup (Str.ofString x) = some a) (hk : CanStore sc x)
    (r : RepS c (Vol V0 (X ++ fp)) s₁ sl v fp) (hn : fp.Nodup) (hf : ∀ a ∈ fp, s.heap.get? a = none) :
    wpAny c.M A (storeName env (Str.ofString x) v) (fun _ s' => ∃ X', Stp X s X' s' ∧ Fm c sc env V0 h0 Cs X' (setS ρ x sl) s') (fun _ _ => False) s₁ := by
  obtain ⟨m, fps, hns, hX, hnd, hlv, hcl, hst⟩ := F.sto
  have hfX : ∀ a ∈ fp, a ∉ X := fun a ha hx => by obtain ⟨o, e⟩ := hlv a hx; rw [hf a ha] at e; cases e
  have hvk : sc.kind = .function := F.kind
  have hke : env.scope.kind = .function := by rw [F.scope]; exact hvk
  -- the store before, apart from the new places
  have hst1 : StoR c env (Vol V0 (X ++ fp)) s₁ m ρ fps := ((hst.ext (W := fun a => a ∈ fp) hf).gr g).weak fun a q => by
    rcases q with q | q
    · exact .inl (.inl q)
    · rcases List.mem_append.mp q with q | q
      · exact .inl (.inr q)
      · exact .inr q
  obtain ⟨fps', rest, hdel, hperm⟩ := hst1.del x
  have hsubX : ∀ a ∈ fps', a ∈ fps := fun a ha => hperm.subset (List.mem_append_right _ ha)
  -- the places behind the store
  have hX' : (env.locals :: (Cs.map (·.2) ++ (fp ++ fps'))).Nodup := by
    have hx1 : (env.locals :: (Cs.map (·.2) ++ fps)).Nodup := hX ▸ hnd
    have hp : (rest ++ (env.locals :: (Cs.map (·.2) ++ fps'))).Perm (env.locals :: (Cs.map (·.2) ++ fps)) := by
      refine List.perm_middle.trans (List.Perm.cons _ ?_)
      rw [← List.append_assoc]
      refine (List.Perm.append_right _ List.perm_append_comm).trans ?_
      rw [List.append_assoc]
      exact hperm.append_left _
    have hx2 := (List.nodup_append.mp (hp.nodup_iff.mpr hx1)).2.1
    have hp2 : (fp ++ (env.locals :: (Cs.map (·.2) ++ fps'))).Perm (env.locals :: (Cs.map (·.2) ++ (fp ++ fps'))) := by
      refine List.perm_middle.trans (List.Perm.cons _ ?_)
      rw [← List.append_assoc, ← List.append_assoc]
      exact List.Perm.append_right _ List.perm_append_comm
    refine hp2.nodup_iff.mp (List.nodup_append.mpr ⟨hn, hx2, fun a ha b hb e => ?_⟩)
    subst e
    refine hfX a ha (hX ▸ ?_)
    rcases List.mem_cons.mp hb with q | q
    · exact q ▸ .head _
    · refine .tail _ ?_
      rcases List.mem_append.mp q with q | q
      · exact List.mem_append_left _ q
      · exact List.mem_append_right _ (hsubX a q)
  have hsub : ∀ a ∈ env.locals :: (Cs.map (·.2) ++ (fp ++ fps')), a ∈ X ∨ a ∈ fp := fun a ha => by
    rcases List.mem_cons.mp ha with q | q
    · exact .inl (hX ▸ q ▸ .head _)
    · rcases List.mem_append.mp q with q | q
      · exact .inl (hX ▸ .tail _ (List.mem_append_left _ q))
      · rcases List.mem_append.mp q with q | q
        · exact .inr q
        · exact .inl (hX ▸ .tail _ (List.mem_append_right _ (hsubX a q)))
  have hvol : ∀ a, Vol V0 (env.locals :: (Cs.map (·.2) ++ (fp ++ fps'))) a → Vol V0 (X ++ fp) a := fun a q => q.imp id fun q => by
    rcases hsub a q with q | q
    · exact List.mem_append_left _ q
    · exact List.mem_append_right _ q
  have hLX : env.locals ∈ X := hX ▸ .head _
  have hnew : ∀ a ∈ env.locals :: (Cs.map (·.2) ++ (fp ++ fps')), h0.get? a = none := fun a ha => by
    rcases hsub a ha with q | q
    · exact F.new a q
    · cases e : h0.get? a with
      | none => rfl
      | some o => have := F.keep a o e; rw [hf a q] at this; cases this
  have hns1 := hns.keeps g.keep
  rcases hk with hk | hk
  · -- a local
    have hkl : env.kindOf (Str.ofString x) = some .local := by show env.scope.names.lookup _ = _; rw [F.scope]; exact hk
    refine wpAny_storeName_local hkl hns1 (fun h' hn' hs' => ?_) (by rw [hke]; rfl)
    have hL0 : ∀ b o, h0.get? b = some o → b ≠ env.locals := fun b o e q => by rw [q, F.new _ hLX] at e; cases e
    have hcm := calm_at (tk := s₁.toks + 1) (V := Vol V0 (X ++ fp)) hs' (.inr (List.mem_append_left _ hLX)) (Nat.le_succ _)
    have hnl : env.locals ∉ fp ++ fps' := fun q => (List.nodup_cons.mp hX').1 (List.mem_append_right _ q)
    refine ⟨_, ⟨fun b o hb e => (hs'.2 b fun q => hb (q ▸ hLX)).trans (g.keep b o e), Nat.le_trans g.tok (Nat.le_succ _), g.gens, g.os, fun b hb => (hsub b hb).imp id (hf b), ?_⟩,
      ⟨F.good, F.scope, F.kind, F.globals, F.builtins, F.base, fun b o e => (hs'.2 b (hL0 b o e)).trans (g.keep b o (F.keep b o e)), Nat.succ_ne_zero _, (fun a q => by
        obtain ⟨⟨o, e⟩, hx⟩ := F.live0 a q
        exact ⟨⟨o, (hs'.2 a fun q' => hx (q' ▸ hLX)).trans (g.keep _ _ e)⟩, fun q' => (hsub a q').elim hx fun q'' => by rw [hf a q''] at e; cases e⟩), F.ccells, hnew, F.cells, F.cinj,
        ⟨_, _, hn', rfl, hX', fun a ha => ?_, fun p hp => ?_, .cons (.loc hkl (if_pos rfl)) ?_ (StoR.weak hvol ?_)⟩⟩⟩
    · intro b hb o e
      by_cases q : b = env.locals
      · obtain ⟨oL, _, _, e', _⟩ := hn'; exact ⟨oL, q ▸ e'⟩
      · exact ⟨o, (hs'.2 b q).trans (g.keep b o e)⟩
    · by_cases q : a = env.locals
      · obtain ⟨oL, _, _, e', _⟩ := hn'; exact ⟨oL, q ▸ e'⟩
      · have : ∃ o, s₁.heap.get? a = some o := by
          rcases hsub a ha with q' | q'
          · obtain ⟨o, e⟩ := hlv a q'; exact ⟨o, g.keep _ _ e⟩
          · exact r.alive a q'
        obtain ⟨o, e⟩ := this
        exact ⟨o, (hs'.2 a q).trans e⟩
    · obtain ⟨v₀, q⟩ := hcl p hp
      exact ⟨v₀, (q.keeps g.keep).sameBut hs' fun q' => (List.nodup_cons.mp hX').1 (List.mem_append_left _ (q' ▸ List.mem_map_of_mem hp))⟩
    · exact r.calm hcm hvol fun a ha o e => (hs'.2 a fun q => hnl (q ▸ List.mem_append_left _ ha)).trans e
    · refine hdel.change hcm (fun a ha o e => (hs'.2 a fun q => hnl (q ▸ List.mem_append_right _ ha)).trans e) (fun p hp _ => if_neg fun q => delS_ne p hp (ofString_inj q)) fun p hp a o w hc e hw => ?_
      refine (hs'.2 a fun q => ?_).trans e
      obtain ⟨oL, es, ep, e', hd, _⟩ := hns1
      rw [q, e'] at e; cases e; rw [hw] at hd; cases hd
  · -- a cell
    have hkl : env.kindOf (Str.ofString x) = some .cell := by show env.scope.names.lookup _ = _; rw [F.scope]; exact hk
    obtain ⟨a₀, ha₀⟩ := hO hk
    have hp₀ := mem_lookup ha₀
    have haC : a₀ ∈ Cs.map (·.2) := List.mem_map_of_mem (f := (·.2)) hp₀
    have hlk := F.cells _ _ ha₀
    obtain ⟨v₀, hcell⟩ := hcl _ hp₀
    have haX : a₀ ∈ X := hX ▸ .tail _ (List.mem_append_left _ haC)
    have haL : env.locals ≠ a₀ := fun q => (List.nodup_cons.mp hX').1 (List.mem_append_left _ (q ▸ haC))
    have hna : a₀ ∉ fp ++ fps' := fun q => (List.nodup_append.mp (List.nodup_cons.mp hX').2).2.2 _ haC _ q rfl
    refine wpAny_storeName_cell hke hkl hlk (hcell.keeps g.keep) fun h' hn' hs' => ?_
    have hL0 : ∀ b o, h0.get? b = some o → b ≠ a₀ := fun b o e q => by rw [q, F.new _ haX] at e; cases e
    have hcm := calm_at (tk := s₁.toks) (V := Vol V0 (X ++ fp)) hs' (.inr (List.mem_append_left _ haX)) (Nat.le_refl _)
    refine ⟨_, ⟨fun b o hb e => (hs'.2 b fun q => hb (q ▸ haX)).trans (g.keep b o e), g.tok, g.gens, g.os, fun b hb => (hsub b hb).imp id (hf b), ?_⟩,
      ⟨F.good, F.scope, F.kind, F.globals, F.builtins, F.base, fun b o e => (hs'.2 b (hL0 b o e)).trans (g.keep b o (F.keep b o e)), (F.gr g).tok, (fun a q => by
        obtain ⟨⟨o, e⟩, hx⟩ := F.live0 a q
        exact ⟨⟨o, (hs'.2 a fun q' => hx (q' ▸ haX)).trans (g.keep _ _ e)⟩, fun q' => (hsub a q').elim hx fun q'' => by rw [hf a q''] at e; cases e⟩), F.ccells, hnew, F.cells, F.cinj,
        ⟨m, _, hns1.sameBut hs' haL, rfl, hX', fun a ha => ?_, fun p hp => ?_, ?_⟩⟩⟩
    · intro b hb o e
      by_cases q : b = a₀
      · obtain ⟨oL, e', _⟩ := hn'; exact ⟨oL, q ▸ e'⟩
      · exact ⟨o, (hs'.2 b q).trans (g.keep b o e)⟩
    · by_cases q : a = a₀
      · obtain ⟨oL, e', _⟩ := hn'; exact ⟨oL, q ▸ e'⟩
      · have : ∃ o, s₁.heap.get? a = some o := by
          rcases hsub a ha with q' | q'
          · obtain ⟨o, e⟩ := hlv a q'; exact ⟨o, g.keep _ _ e⟩
          · exact r.alive a q'
        obtain ⟨o, e⟩ := this
        exact ⟨o, (hs'.2 a q).trans e⟩
    · by_cases q : p.2 = a₀
      · exact ⟨_, q ▸ hn'⟩
      · obtain ⟨v₁, q'⟩ := hcl p hp
        exact ⟨v₁, (q'.keeps g.keep).sameBut hs' q⟩
    · obtain ⟨o', e', hd'⟩ := hn'
      refine .cons (.cell (.inl hkl) hlk e' hd') ?_ (StoR.weak hvol ?_)
      · exact r.calm hcm hvol fun a ha o e => (hs'.2 a fun q => hna (q ▸ List.mem_append_left _ ha)).trans e
      · refine hdel.change hcm (fun a ha o e => (hs'.2 a fun q => hna (q ▸ List.mem_append_right _ ha)).trans e) (fun p hp _ => rfl) fun p hp a o w hc e hw => ?_
        refine (hs'.2 a fun q => ?_).trans e
        exact delS_ne p hp (ofString_inj (F.cinj _ _ _ (q ▸ hc) hlk))

end
end Mine
namespace Mine

def plainE : Expr → Bool
  | .Starred .. => false
  | _ => true
theorem starEach_cons {e : Expr} {rest : List Expr} {env : Env} (h : plainE e = true) : starEach (e :: rest) env = (false, eval e env) :: starEach rest env := by
  cases e <;> first | rfl | cases h
theorem assignEach_cons {e : Expr} {rest : List Expr} {env : Env} (h : plainE e = true) : assignEach (e :: rest) env = (false, assign e env) :: assignEach rest env := by
  cases e <;> first | rfl | cases h

/-- an iterator and what it will give -/
inductive ItAt (c : Cx) (V : Addr → Prop) (s : Shared) : Addr → List D → Prop
  | list {it l i o vs n ds} : s.heap.IsListIter it l i → ¬ V l → s.heap.get? l = some o → o.cls = .type "list" → o.data = .seq vs n → RepL c V s ds (vs.toList.drop i) → ItAt c V s it ds
  | tuple {it l i o vs n ds} : s.heap.IsTupleIter it l i → ¬ V l → s.heap.get? l = some o → o.cls = .type "tuple" → o.data = .seq vs n → RepL c V s ds (vs.toList.drop i) → ItAt c V s it ds
  | range {it x left st} : IsRangeIter s.heap it x left st → ItAt c V s it ((List.range left.toNat).map fun k : Nat => D.int (x + k * st))
  | ascii {it x t i} : s.heap.IsStrIter it "str_ascii_iterator" x t i → ItAt c V s it ((x.cps.toList.drop i).map fun k => D.str ⟨#[k]⟩)
  | wide {it x t i} : s.heap.IsStrIter it "str_iterator" x t i → ItAt c V s it ((x.cps.toList.drop i).map fun k => D.str ⟨#[k]⟩)

/-- one look at the iterator -/
structure ItStep (it : Addr) (s s' : Shared) : Prop where
  keep : Heap.ExtBut it s.heap s'.heap
  tok : s.toks ≤ s'.toks
  gens : s'.gens = s.gens
  os : s'.os = s.os

theorem ItAt.fields {c V s it ds} (h : ItAt c V s it ds) : ∃ o vs T, s.heap.get? it = some o ∧ o.data = .fields vs ∧ o.cls = .type T ∧ T ≠ "range" ∧
    ["enumerate", "zip", "dict_itemiterator", "dict_reverseitemiterator", "odict_iterator", "itertools.zip_longest", "itertools.pairwise"].contains T = false := by
  cases h with
  | list h => obtain ⟨o, h1, h2, h3⟩ := h; exact ⟨o, _, _, h1, h3, h2, by decide, by decide⟩
  | tuple h => obtain ⟨o, h1, h2, h3⟩ := h; exact ⟨o, _, _, h1, h3, h2, by decide, by decide⟩
  | range h => exact ⟨_, _, "range_iterator", h, rfl, rfl, by decide, by decide⟩
  | ascii h => obtain ⟨o, h1, h2, h3⟩ := h; exact ⟨o, _, _, h1, h3, h2, by decide, by decide⟩
  | wide h => obtain ⟨o, h1, h2, h3⟩ := h; exact ⟨o, _, _, h1, h3, h2, by decide, by decide⟩

theorem ItStep.calm {c V s it ds s'} (h : ItAt c V s it ds) (t : ItStep it s s') (W : Addr → Prop) : Calm W s s' :=
  ⟨t.tok, fun b o _ e hd => t.keep b o (fun q => by
    obtain ⟨o', vs, T, h1, h2, h3, h4, _⟩ := h.fields
    rw [q, h1] at e; cases e
    rcases hd with ⟨_, _, hd⟩ | ⟨_, _, hd⟩ | hd
    · rw [h2] at hd; cases hd
    · rw [h2] at hd; cases hd
    · rw [h3] at hd; injection hd with hd; exact h4 hd) e⟩

theorem ItAt.next {c : Cx} {V s it} {d : D} {ds : List D} {A : Around} (h : ItAt c V s it (d :: ds)) :
    wpAny c.M A (pyNext (.ref it)) (fun r s' => ∃ v, r = some v ∧ Rep c V s' d v ∧ ItAt c V s' it ds ∧ ItStep it s s') (fun _ _ => False) s := by
  have h' := h
  generalize hL : d :: ds = L at h
  cases h with
  | @list l i o vs n _ hi hv ho hcl hdt r =>
    subst hL
    cases hr : vs.toList.drop i with
    | nil => rw [hr] at r; cases r
    | cons v rest =>
      rw [hr] at r
      cases r with
      | cons r rs =>
        have hi0 : vs[i]? = some v := by
          have : (vs.toList.drop i)[0]? = some v := by rw [hr]; rfl
          simpa using this
        refine wpAny_pyNext_list_item hi ⟨o, ho, hcl, n, hdt⟩ hi0 fun h' hi' hs' => ?_
        have st : ItStep it s { s with heap := h' } := ⟨hs'.extBut, Nat.le_refl _, rfl, rfl⟩
        refine ⟨v, rfl, r.calm (st.calm ‹_› V) fun _ q => q, .list hi' hv ((st.calm ‹_› V).2 _ _ hv ho (.inl ⟨_, _, hdt⟩)) hcl hdt ?_, st⟩
        have : vs.toList.drop (i + 1) = rest := by
          have := congrArg List.tail hr
          simpa using this
        rw [this]
        exact rs.calm (st.calm ‹_› V) fun _ q => q
  | @tuple l i o vs n _ hi hv ho hcl hdt r =>
    subst hL
    cases hr : vs.toList.drop i with
    | nil => rw [hr] at r; cases r
    | cons v rest =>
      rw [hr] at r
      cases r with
      | cons r rs =>
        have hi0 : vs[i]? = some v := by
          have : (vs.toList.drop i)[0]? = some v := by rw [hr]; rfl
          simpa using this
        refine wpAny_pyNext_tuple_item hi ⟨o, ho, hcl, n, hdt⟩ hi0 fun h' hi' hs' => ?_
        have st : ItStep it s { s with heap := h' } := ⟨hs'.extBut, Nat.le_refl _, rfl, rfl⟩
        refine ⟨v, rfl, r.calm (st.calm ‹_› V) fun _ q => q, .tuple hi' hv ((st.calm ‹_› V).2 _ _ hv ho (.inl ⟨_, _, hdt⟩)) hcl hdt ?_, st⟩
        have : vs.toList.drop (i + 1) = rest := by
          have := congrArg List.tail hr
          simpa using this
        rw [this]
        exact rs.calm (st.calm ‹_› V) fun _ q => q
  | @range x left st hi =>
    obtain ⟨k, hk⟩ : ∃ k, left.toNat = k + 1 := by
      cases hk : left.toNat with
      | zero => rw [hk] at hL; simp at hL
      | succ k => exact ⟨k, rfl⟩
    rw [hk, List.range_succ_eq_map] at hL
    simp only [List.map_cons, List.map_map, List.cons.injEq] at hL
    obtain ⟨rfl, rfl⟩ := hL
    refine wpAny_pyNext_range_item hi (by omega) fun h' hi' hs' => ?_
    have stp : ItStep it s { s with heap := h', toks := s.toks + 1 } := ⟨hs'.extBut, Nat.le_succ _, rfl, rfl⟩
    refine ⟨_, rfl, ?_, ?_, stp⟩
    · have e0 : x + ((0 : Nat) : Int) * st = x := by simp
      rw [e0]; exact .int _ _
    · have e : (List.map ((fun k : Nat => D.int (x + ↑k * st)) ∘ Nat.succ) (List.range k)) = (List.range (left - 1).toNat).map fun k : Nat => D.int (x + st + k * st) := by
        rw [show (left - 1).toNat = k by omega]
        refine List.map_congr_left fun j _ => ?_
        simp only [Function.comp]
        congr 1
        rw [Int.natCast_succ, Int.add_mul]; omega
      rw [e]; exact .range hi'
  | @ascii x t i hi =>
    cases hr : x.cps.toList.drop i with
    | nil => rw [hr] at hL; cases hL
    | cons k rest =>
      rw [hr] at hL
      simp only [List.map_cons, List.cons.injEq] at hL
      obtain ⟨rfl, rfl⟩ := hL
      have hi0 : x.cps[i]? = some k := by
        have : (x.cps.toList.drop i)[0]? = some k := by rw [hr]; rfl
        simpa using this
      refine wpAny_pyNext_ascii_item hi hi0 fun h' hi' hs' => ?_
      have : x.cps.toList.drop (i + 1) = rest := by
        have := congrArg List.tail hr
        simpa using this
      exact ⟨_, rfl, .str _ _, this ▸ .ascii hi', ⟨hs'.extBut, Nat.le_succ _, rfl, rfl⟩⟩
  | @wide x t i hi =>
    cases hr : x.cps.toList.drop i with
    | nil => rw [hr] at hL; cases hL
    | cons k rest =>
      rw [hr] at hL
      simp only [List.map_cons, List.cons.injEq] at hL
      obtain ⟨rfl, rfl⟩ := hL
      have hi0 : x.cps[i]? = some k := by
        have : (x.cps.toList.drop i)[0]? = some k := by rw [hr]; rfl
        simpa using this
      refine wpAny_pyNext_wide_item hi hi0 fun h' hi' hs' => ?_
      have : x.cps.toList.drop (i + 1) = rest := by
        have := congrArg List.tail hr
        simpa using this
      exact ⟨_, rfl, .str _ _, this ▸ .wide hi', ⟨hs'.extBut, Nat.le_succ _, rfl, rfl⟩⟩

theorem ItAt.stop {c : Cx} {V s it} {A : Around} (hh : A.handled = none) (h : ItAt c V s it []) :
    wpAny c.M A (pyNext (.ref it)) (fun r s' => r = none ∧ ItStep it s s') (fun _ _ => False) s := by
  generalize hL : ([] : List D) = L at h
  cases h with
  | @list l i o vs n _ hi hv ho hcl hdt r =>
    subst hL
    cases hr : vs.toList.drop i with
    | cons v rest => rw [hr] at r; cases r
    | nil =>
      refine wpAny_pyNext_list_end hh hi ⟨o, ho, hcl, n, hdt⟩ ?_ fun h' hs' => ⟨rfl, hs', Nat.le_refl _, rfl, rfl⟩
      have : (vs.toList.drop i)[0]? = none := by rw [hr]; rfl
      simpa using this
  | @tuple l i o vs n _ hi hv ho hcl hdt r =>
    subst hL
    cases hr : vs.toList.drop i with
    | cons v rest => rw [hr] at r; cases r
    | nil =>
      refine wpAny_pyNext_tuple_end hh hi ⟨o, ho, hcl, n, hdt⟩ ?_ fun h' hs' => ⟨rfl, hs', Nat.le_refl _, rfl, rfl⟩
      have : (vs.toList.drop i)[0]? = none := by rw [hr]; rfl
      simpa using this
  | @range x left st hi =>
    have hz : left.toNat = 0 := by
      have := congrArg List.length hL
      simpa using this.symm
    exact wpAny_pyNext_range_end hh hi (by omega) fun h' hs' => ⟨rfl, hs', Nat.le_refl _, rfl, rfl⟩
  | @ascii x t i hi =>
    have hz : x.cps.toList.drop i = [] := by simpa using hL.symm
    refine wpAny_pyNext_ascii_end hh hi ?_ fun h' hs' => ⟨rfl, hs', Nat.le_refl _, rfl, rfl⟩
    have : (x.cps.toList.drop i)[0]? = none := by rw [hz]; rfl
    simpa using this
  | @wide x t i hi =>
    have hz : x.cps.toList.drop i = [] := by simpa using hL.symm
    refine wpAny_pyNext_wide_end hh hi ?_ fun h' hs' => ⟨rfl, hs', Nat.le_refl _, rfl, rfl⟩
    have : (x.cps.toList.drop i)[0]? = none := by rw [hz]; rfl
    simpa using this

/-- iterating over d gives ds -/
def IterR (c : Cx) (d : D) (ds : List D) : Prop :=
  ∀ A V s v, Room 0 A → St c V s → Rep c V s d v → wpAny c.M A (pyIter v) (fun it s' => Gr s s' ∧ ∃ a, it = .ref a ∧ s.heap.get? a = none ∧ ItAt c V s' a ds) (fun _ _ => False) s

theorem get_size (h : Heap) : h.get? h.objs.size = none := by
  cases e : h.get? h.objs.size with
  | none => rfl
  | some o => exact absurd (Heap.lt_size e) (Nat.lt_irrefl _)

theorem IterR.list {c : Cx} {ds : List D} : IterR c (.list ds) ds := fun A V s v _ _ r => by
  cases r with
  | list na ho hcl hd hdt r =>
    refine wpAny_pyIter_list ⟨_, ho, hcl, _, hdt⟩ ⟨.push _, _, rfl, get_size _, .list ⟨_, Heap.get?_push_size _ rfl, rfl, rfl⟩ na (Heap.get?_push_of_some _ ho) hcl hdt ?_⟩
    rw [List.drop_zero]; exact r.gr (.push _)
theorem IterR.tuple {c : Cx} {ds : List D} : IterR c (.tuple ds) ds := fun A V s v _ _ r => by
  cases r with
  | tuple na ho hcl hd hdt r =>
    refine wpAny_pyIter_tuple ⟨_, ho, hcl, _, hdt⟩ ⟨.push _, _, rfl, get_size _, .tuple ⟨_, Heap.get?_push_size _ rfl, rfl, rfl⟩ na (Heap.get?_push_of_some _ ho) hcl hdt ?_⟩
    rw [List.drop_zero]; exact r.gr (.push _)
theorem IterR.str {c : Cx} {x : Str} : IterR c (.str x) (x.cps.toList.map fun k => .str ⟨#[k]⟩) := fun A V s v _ _ r => by
  cases r with
  | str x t =>
    cases ha : x.cps.all (· < 128) with
    | true =>
      refine wpAny_pyIter_ascii ha ⟨.push _, _, rfl, get_size _, ?_⟩
      have := ItAt.ascii (c := c) (V := V) (s := { s with heap := s.heap.push { cls := .type "str_ascii_iterator", data := .fields #[.str x t, .int 0 0] } }) (x := x) (t := t) (i := 0) ⟨_, Heap.get?_push_size _ rfl, rfl, rfl⟩
      simpa using this
    | false =>
      refine wpAny_pyIter_wide ha ⟨.push _, _, rfl, get_size _, ?_⟩
      have := ItAt.wide (c := c) (V := V) (s := { s with heap := s.heap.push { cls := .type "str_iterator", data := .fields #[.str x t, .int 0 0] } }) (x := x) (t := t) (i := 0) ⟨_, Heap.get?_push_size _ rfl, rfl, rfl⟩
      simpa using this
theorem IterR.range {c : Cx} {a b st : Int} (hs : Builtin.Range.small a b st = true) : IterR c (.range a b st) ((List.range (Builtin.Range.rangeSize a b st).toNat).map fun k : Nat => .int (a + k * st)) := fun A V s v _ _ r => by
  cases r with
  | range na h =>
    refine wpAny_pyIter_range h hs ⟨.push _, _, rfl, get_size _, .range ?_⟩
    exact Heap.get?_push_size _ rfl

end Mine
namespace Mine

inductive AF where
  | next | brk | cont
  | ret (d : D)

inductive FlowR (c : Cx) (V : Addr → Prop) (s : Shared) : Flow → AF → Prop
  | next : FlowR c V s .next .next
  | brk : FlowR c V s .brk .brk
  | cont : FlowR c V s .cont .cont
  | ret {v d} : Rep c V s d v → FlowR c V s (.ret v) (.ret d)

def SPost (c : Cx) (sc : Scope) (env : Env) (V0 : Addr → Prop) (h0 : Heap) (Cs : List (Str × Addr)) (X : List Addr) (s : Shared) (P : AF → Sto → Prop) : Flow → Shared → Prop :=
  fun f s' => ∃ X' ρ' af, Stp X s X' s' ∧ Fm c sc env V0 h0 Cs X' ρ' s' ∧ FlowR c (Vol V0 X') s' f af ∧ P af ρ'

structure Sx (c : Cx) (n : Nat) (sc : Scope) (ρ : Sto) (st : Stmt) (P : AF → Sto → Prop) : Prop where
  run : ∀ A env V0 h0 Cs X s, Room n A → Own sc Cs → Fm c sc env V0 h0 Cs X ρ s → wpAny c.M A (exec st env) (SPost c sc env V0 h0 Cs X s P) (fun _ _ => False) s
structure Tr (c : Cx) (n : Nat) (sc : Scope) (ρ : Sto) (ss : List Stmt) (P : AF → Sto → Prop) : Prop where
  run : ∀ A env V0 h0 Cs X s, Room n A → Own sc Cs → Fm c sc env V0 h0 Cs X ρ s → wpAny c.M A (execs ss env) (SPost c sc env V0 h0 Cs X s P) (fun _ _ => False) s

/-- the statement goes on, with the store ρ₂ -/
abbrev Sn (c : Cx) (n : Nat) (sc : Scope) (ρ : Sto) (st : Stmt) (ρ₂ : Sto) : Prop := Sx c n sc ρ st fun af ρ' => af = .next ∧ ρ' = ρ₂

theorem SPost.mono {c sc env V0 h0 Cs X s P P' f s'} (h : SPost c sc env V0 h0 Cs X s P f s') (hp : ∀ af ρ', P af ρ' → P' af ρ') : SPost c sc env V0 h0 Cs X s P' f s' :=
  let ⟨X', ρ', af, a, b, d, e⟩ := h; ⟨X', ρ', af, a, b, d, hp _ _ e⟩
theorem SPost.stp {c sc env V0 h0 Cs X X₁ s s₁ P f s'} (h : SPost c sc env V0 h0 Cs X₁ s₁ P f s') (g : Stp X s X₁ s₁) : SPost c sc env V0 h0 Cs X s P f s' :=
  let ⟨X', ρ', af, a, b, d, e⟩ := h; ⟨X', ρ', af, g.trans a, b, d, e⟩

section
variable {c : Cx} {n : Nat} {sc : Scope} {ρ : Sto} {P P' : AF → Sto → Prop}

theorem Sx.mono {st : Stmt} (h : Sx c n sc ρ st P) (hp : ∀ af ρ', P af ρ' → P' af ρ') : Sx c n sc ρ st P' := .mk fun A env V0 h0 Cs X s hA hO F =>
  wpAny_mono (h.run A env V0 h0 Cs X s hA hO F) (fun _ _ q => q.mono hp) fun _ _ q => q
theorem Tr.mono {ss : List Stmt} (h : Tr c n sc ρ ss P) (hp : ∀ af ρ', P af ρ' → P' af ρ') : Tr c n sc ρ ss P' := .mk fun A env V0 h0 Cs X s hA hO F =>
  wpAny_mono (h.run A env V0 h0 Cs X s hA hO F) (fun _ _ q => q.mono hp) fun _ _ q => q

theorem Tr.nil (h : P .next ρ) : Tr c n sc ρ [] P := .mk fun A env V0 h0 Cs X s _ _ F =>
  wpAny_execs_nil ⟨X, ρ, .next, .refl X s, F, .next, h⟩
theorem Tr.cons {st : Stmt} {rest : List Stmt} {P₁ : AF → Sto → Prop} (h : Sx c n sc ρ st P₁) (hn : ∀ ρ', P₁ .next ρ' → Tr c n sc ρ' rest P) (ho : ∀ af ρ', af ≠ .next → P₁ af ρ' → P af ρ') :
    Tr c n sc ρ (st :: rest) P := .mk fun A env V0 h0 Cs X s hA hO F => wpAny_execs_cons (wpAny_mono (h.run A env V0 h0 Cs X s hA hO F) (fun f s' q => by
    obtain ⟨X', ρ', af, a, b, d, e⟩ := q
    cases d with
    | next => exact wpAny_mono ((hn _ e).run A env V0 h0 Cs X' s' hA hO b) (fun _ _ q => q.stp a) fun _ _ q => q
    | brk => exact ⟨X', ρ', _, a, b, .brk, ho _ _ (by intro q; cases q) e⟩
    | cont => exact ⟨X', ρ', _, a, b, .cont, ho _ _ (by intro q; cases q) e⟩
    | ret r => exact ⟨X', ρ', _, a, b, .ret r, ho _ _ (by intro q; cases q) e⟩) fun _ _ q => q)
theorem Tr.step {st : Stmt} {rest : List Stmt} {ρ₂ : Sto} (h : Sn c n sc ρ st ρ₂) (hr : Tr c n sc ρ₂ rest P) : Tr c n sc ρ (st :: rest) P :=
  Tr.cons h (fun _ q => q.2 ▸ hr) fun _ _ h q => absurd q.1 h
theorem Tr.last {st : Stmt} (h : Sx c n sc ρ st P) : Tr c n sc ρ [st] P := Tr.cons h (fun _ q => .nil q) fun _ _ _ q => q

/-- what a name may hold -/
theorem RepS.ofRep {V : Addr → Prop} {X : List Addr} {s : Shared} {d : D} {v : Value} (r : Rep c (VK true V X) s d v) : RepS c (Vol V (X ++ [])) s (.val d) v [] :=
  .val (r.weak fun a q => ⟨rfl, by simpa using q⟩)

theorem Sx.assign {x : String} {e : Expr} {p pos : Pos} {d : D} (h : Ev c n sc true ρ e d) (hk : CanStore sc x)
    (hs : ∀ env : Env, env.scope = sc → swapsWith e (some (.Name (Str.ofString x) p)) pos.line env = pure false := by intro _ _; rfl) : Sn c n sc ρ (.Assign [.Name (Str.ofString x) p] e pos) (setS ρ x (.val d)) :=
  .mk fun A env V0 h0 Cs X s hA hO F => wpAny_Assign_Name (wpAny_mono (h.run A env V0 h0 Cs X s hA F) (fun v s₁ q =>
    wpAny_mono (F.store q.1 (hO _) hk (RepS.ofRep q.2) .nil fun _ ha => nomatch ha) (fun _ s' q => let ⟨X', a, b⟩ := q; ⟨X', _, .next, a, b, .next, rfl, rfl⟩) fun _ _ q => q) fun _ _ q => q) (hs env F.scope)

/-- e has a fresh value that may be owned -/
structure EvS (c : Cx) (n : Nat) (sc : Scope) (ρ : Sto) (e : Expr) (sl : Slot) : Prop where
  run : ∀ A env V0 h0 Cs X s, Room n A → Fm c sc env V0 h0 Cs X ρ s →
    wpAny c.M A (eval e env) (fun v s' => Gr s s' ∧ ∃ fp, RepS c (Vol V0 (X ++ fp)) s' sl v fp ∧ fp.Nodup ∧ ∀ a ∈ fp, s.heap.get? a = none) (fun _ _ => False) s
theorem EvS.val {e : Expr} {d : D} (h : Ev c n sc true ρ e d) : EvS c n sc ρ e (.val d) := .mk fun A env V0 h0 Cs X s hA F =>
  wpAny_mono (h.run A env V0 h0 Cs X s hA F) (fun _ _ q => ⟨q.1, [], RepS.ofRep q.2, .nil, fun _ ha => nomatch ha⟩) fun _ _ q => q
theorem Sx.assignS {x : String} {e : Expr} {p pos : Pos} {sl : Slot} (h : EvS c n sc ρ e sl) (hk : CanStore sc x)
    (hs : ∀ env : Env, env.scope = sc → swapsWith e (some (.Name (Str.ofString x) p)) pos.line env = pure false := by intro _ _; rfl) : Sn c n sc ρ (.Assign [.Name (Str.ofString x) p] e pos) (setS ρ x sl) :=
  .mk fun A env V0 h0 Cs X s hA hO F => wpAny_Assign_Name (wpAny_mono (h.run A env V0 h0 Cs X s hA F) (fun v s₁ q =>
    let ⟨g, fp, r, hn, hf⟩ := q
    wpAny_mono (F.store g (hO _) hk r hn hf) (fun _ s' q => let ⟨X', a, b⟩ := q; ⟨X', _, .next, a, b, .next, rfl, rfl⟩) fun _ _ q => q) fun _ _ q => q) (hs env F.scope)

theorem Sx.aug {x : String} {e : Expr} {op : Operator} {p pos : Pos} {d₁ d₂ d : D} (hx : ρ.lookup x = some (.val d₁)) (h : Ev c n sc true ρ e d₂) (hop : InpR c op d₁ d₂ d) (hk : CanStore sc x) :
    Sn c n sc ρ (.AugAssign (.Name (Str.ofString x) p) op e pos) (setS ρ x (.val d)) := .mk fun A env V0 h0 Cs X s hA hO F => by
  refine wpAny_AugAssign_Name ?_
  obtain ⟨m, fps, hn, _, _, _, _, hs⟩ := F.sto
  obtain ⟨v, fp, l, r, _⟩ := hs.get hx
  refine l.load (by rw [F.scope]; exact F.kind) hn ?_
  cases r with
  | val r =>
    refine wpAny_mono (h.run A env V0 h0 Cs X s hA F) (fun v₂ s₂ q => ?_) fun _ _ q => q
    refine wpAny_mono (hop A _ s₂ v v₂ hA.zero ((F.st true).gr q.1) ((r.weak fun _ q => q.2).gr q.1) q.2) (fun v₃ s₃ q₃ => ?_) fun _ _ q => q
    exact wpAny_mono (F.store (q.1.trans q₃.1) (hO _) hk (RepS.ofRep q₃.2) .nil fun _ ha => nomatch ha) (fun _ s' q => let ⟨X', a, b⟩ := q; ⟨X', _, .next, a, b, .next, rfl, rfl⟩) fun _ _ q => q

theorem Sx.ite {t : Expr} {body orelse : List Stmt} {pos : Pos} {b : Bool} (h : Tst c n sc ρ t b) (ht : b = true → Tr c n sc ρ body P) (hf : b = false → Tr c n sc ρ orelse P) : Sx c n sc ρ (.If t body orelse pos) P :=
  .mk fun A env V0 h0 Cs X s hA hO F => wpAny_If (wpAny_mono (h.run A env V0 h0 Cs X s hA F) (fun r s' q => by
    obtain ⟨g, rfl⟩ := q
    cases r with
    | true => exact wpAny_mono ((ht rfl).run A env V0 h0 Cs X s' hA hO (F.gr g)) (fun _ _ q => q.stp (.of_gr g)) fun _ _ q => q
    | false => exact wpAny_mono ((hf rfl).run A env V0 h0 Cs X s' hA hO (F.gr g)) (fun _ _ q => q.stp (.of_gr g)) fun _ _ q => q) fun _ _ q => q)

theorem Sx.ret {e : Expr} {pos : Pos} {d : D} (h : Ev c n sc true ρ e d) (hp : P (.ret d) ρ) : Sx c n sc ρ (.Return (some e) pos) P := .mk fun A env V0 h0 Cs X s hA hO F =>
  wpAny_Return_some (wpAny_mono (h.run A env V0 h0 Cs X s hA F) (fun v s' q => ⟨X, ρ, .ret d, .of_gr q.1, F.gr q.1, .ret (q.2.weak fun _ q => ⟨rfl, q⟩), hp⟩) fun _ _ q => q)
theorem Sx.pass {pos : Pos} (h : P .next ρ) : Sx c n sc ρ (.Pass pos) P := .mk fun A env V0 h0 Cs X s hA hO F => wpAny_Pass ⟨X, ρ, .next, .refl X s, F, .next, h⟩

theorem Sx.try {body : List Stmt} {hd : ExceptHandler} {hs : List ExceptHandler} {pos : Pos} (h : Tr c n sc ρ body P) : Sx c n sc ρ (.Try body (hd :: hs) [] [] pos) P := .mk fun A env V0 h0 Cs X s hA hO F => by
  refine wpAny_Try_except (wpAny_mono (h.run A env V0 h0 Cs X s hA hO F) (fun f s' q => ?_) fun _ _ q => q.elim)
  cases f with
  | next => exact wpAny_execs_nil q
  | brk => exact q
  | cont => exact q
  | ret v => exact q

/-- storing into a target -/
structure TgtG (w : Bool) (c : Cx) (sc : Scope) (tgt : Expr) (d : D) (ρ ρ' : Sto) : Prop where
  run : ∀ A env V0 h0 Cs X s v, Room 0 A → (w = true → Own sc Cs) → Fm c sc env V0 h0 Cs X ρ s → Rep c (Vol V0 X) s d v →
    wpAny c.M A (assign tgt env v) (fun _ s' => ∃ X', Stp X s X' s' ∧ Fm c sc env V0 h0 Cs X' ρ' s') (fun _ _ => False) s
abbrev TgtR (c : Cx) (sc : Scope) (tgt : Expr) (d : D) (ρ ρ' : Sto) : Prop := TgtG true c sc tgt d ρ ρ'
theorem TgtG.name {w : Bool} {x : String} {p : Pos} {d : D} (hk : sc.names.lookup (Str.ofString x) = some .local ∨ (w = true ∧ sc.names.lookup (Str.ofString x) = some .cell)) : TgtG w c sc (.Name (Str.ofString x) p) d ρ (setS ρ x (.val d)) := .mk fun A env V0 h0 Cs X s v hA hO F r =>
  wpAny_assign_Name (F.store (.refl s) (fun q => hk.elim (fun q' => by rw [q] at q'; cases q') fun q' => hO q'.1 _ q) (hk.imp id And.right) (RepS.ofRep (r.weak fun _ q => q.2)) .nil fun _ ha => nomatch ha)

theorem Rep.stp {V0 : Addr → Prop} {X X' : List Addr} {s s' : Shared} {d : D} {v : Value} (r : Rep c (Vol V0 X) s d v) (g : Stp X s X' s') : Rep c (Vol V0 X') s' d v := by
  -- first the places that are new in X'
  have r2 : Rep c (fun a => Vol V0 X a ∨ (a ∈ X' ∧ s.heap.get? a = Option.none)) s d v := r.ext fun a q => q.2
  refine r2.calm ⟨g.tok, fun b o nb e _ => g.keep b o (fun q => nb (.inl (.inr q))) e⟩ fun a q => ?_
  rcases q with q | q
  · exact .inl (.inl q)
  · rcases g.new a q with q' | q'
    · exact .inl (.inr q')
    · exact .inr ⟨q, q'⟩
theorem RepL.stp {V0 : Addr → Prop} {X X' : List Addr} {s s' : Shared} {d : List D} {v : List Value} (r : RepL c (Vol V0 X) s d v) (g : Stp X s X' s') : RepL c (Vol V0 X') s' d v := by
  have r2 : RepL c (fun a => Vol V0 X a ∨ (a ∈ X' ∧ s.heap.get? a = none)) s d v := r.ext fun a q => q.2
  refine r2.calm ⟨g.tok, fun b o nb e _ => g.keep b o (fun q => nb (.inl (.inr q))) e⟩ fun a q => ?_
  rcases q with q | q
  · exact .inl (.inl q)
  · rcases g.new a q with q' | q'
    · exact .inl (.inr q')
    · exact .inr ⟨q, q'⟩

end

inductive TgtsR (w : Bool) (c : Cx) (sc : Scope) : List Expr → List D → Sto → Sto → Prop
  | nil {ρ} : TgtsR w c sc [] [] ρ ρ
  | cons {t d ts ds ρ ρ₁ ρ₂} : plainE t = true → TgtG w c sc t d ρ ρ₁ → TgtsR w c sc ts ds ρ₁ ρ₂ → TgtsR w c sc (t :: ts) (d :: ds) ρ ρ₂

section
variable {c : Cx} {n : Nat} {sc : Scope} {ρ : Sto} {P P' : AF → Sto → Prop}

theorem TgtsR.length {w ts ds ρ ρ'} (h : TgtsR w c sc ts ds ρ ρ') (env : Env) : (assignEach ts env).length = ds.length ∧ (assignEach ts env).findIdx? (·.1) = none := by
  induction h with
  | nil => exact ⟨rfl, rfl⟩
  | cons hp _ _ ih =>
    rw [assignEach_cons hp]
    refine ⟨by simp [ih.1], ?_⟩
    rw [List.findIdx?_cons]
    simp [ih.2]

theorem TgtsR.wp {w ts ds ρ ρ'} (h : TgtsR w c sc ts ds ρ ρ') : ∀ {A env V0 h0 Cs X s vs}, Room 0 A → (w = true → Own sc Cs) → Fm c sc env V0 h0 Cs X ρ s → RepL c (Vol V0 X) s ds vs →
    wpAny c.M A (assignInOrder ((assignEach ts env).map (·.2)) vs) (fun _ s' => ∃ X', Stp X s X' s' ∧ Fm c sc env V0 h0 Cs X' ρ' s') (fun _ _ => False) s := by
  induction h with
  | nil =>
    intro A env V0 h0 Cs X s vs hA hO F r
    exact wpAny_pure ⟨X, .refl X s, F⟩
  | cons hp ht _ ih =>
    intro A env V0 h0 Cs X s vs hA hO F r
    cases r with
    | cons r rs =>
      rw [assignEach_cons hp]
      refine wpAny_bind (wpAny_holding (wpAny_mono (ht.run A env V0 h0 Cs X s _ hA hO F r) (fun _ s' q => ?_) fun _ _ q => q))
      obtain ⟨X', g, F'⟩ := q
      exact wpAny_mono (ih hA hO F' (rs.stp g)) (fun _ s'' q => let ⟨X'', g', F''⟩ := q; ⟨X'', g.trans g', F''⟩) fun _ _ q => q

theorem Gr.ext {s : Shared} {h' : Heap} (h : Heap.ExtBut s.heap.objs.size s.heap h') : Gr s { s with heap := h' } :=
  ⟨fun b o e => h b o (Nat.ne_of_lt (Heap.lt_size e)) e, Nat.le_refl _, rfl, rfl⟩

theorem TgtG.tuple {w : Bool} {ts : List Expr} {k : Nat} {p : Pos} {ds : List D} {ρ' : Sto} (h : TgtsR w c sc ts ds ρ ρ') : TgtG w c sc (.Tuple ts k p) (.tuple ds) ρ ρ' := .mk fun A env V0 h0 Cs X s v hA hO F r => by
  cases r with
  | @tuple a o vs nn _ na ho hcl hd hdt r =>
    have hl := h.length env
    refine wpAny_assign_Tuple (items := vs) hA.handled ⟨o, ho, hcl, _, hdt⟩ (by rw [hl.1, r.length]; simp) hl.2 fun h' he => ?_
    have g := Gr.ext he
    exact wpAny_mono (h.wp hA hO (F.gr g) (r.gr g)) (fun _ s'' q => let ⟨X'', g', F''⟩ := q; ⟨X'', (Stp.of_gr g).trans g', F''⟩) fun _ _ q => q

/-- the frame when an iterator is looked at -/
theorem Fm.it {env V0 h0 Cs X s it ds s' V} (F : Fm c sc env V0 h0 Cs X ρ s) (hi : ItAt c V s it ds) (hX : it ∉ X) (hn : h0.get? it = none) (hv : ¬ V0 it) (t : ItStep it s s') : Fm c sc env V0 h0 Cs X ρ s' := by
  have hcm := fun W => t.calm hi W
  obtain ⟨oi, fs, T, hi1, hi2, _, _, _⟩ := hi.fields
  have hne : ∀ b ∈ X, b ≠ it := fun b hb q => hX (q ▸ hb)
  obtain ⟨m, fps, h1, h2, h3, h4, h6, h5⟩ := F.sto
  have hLX : env.locals ∈ X := h2 ▸ .head _
  exact ⟨F.good, F.scope, F.kind, F.globals, F.builtins, F.base, fun b o e => t.keep b o (fun q => by rw [q, hn] at e; cases e) (F.keep b o e), fun e => F.tok (Nat.le_zero.mp (e ▸ t.tok)), (fun a q => ⟨let ⟨o, e⟩ := (F.live0 a q).1; ⟨o, t.keep a o (fun q' => hv (q' ▸ q)) e⟩, (F.live0 a q).2⟩), F.ccells, F.new, F.cells, F.cinj,
    m, fps, h1.extBut t.keep (hne _ hLX), h2, h3, fun a ha => let ⟨o, e⟩ := h4 a ha; ⟨o, t.keep a o (hne a ha) e⟩,
    fun p hp => let ⟨v, o, e, d⟩ := h6 p hp; ⟨v, o, t.keep _ o (fun q => by rw [q, hi1] at e; cases e; rw [d] at hi2; cases hi2) e, d⟩,
    h5.change (hcm _) (fun a ha o e => t.keep a o (hne a (h2 ▸ .tail _ (List.mem_append_right _ ha))) e) (fun _ _ _ => rfl)
      fun p _ a o w _ e hw => t.keep a o (fun q => by rw [q, hi1] at e; cases e; rw [hw] at hi2; cases hi2) e⟩

theorem ItAt.stp {V0 : Addr → Prop} {X X' : List Addr} {s s' : Shared} {it : Addr} {ds : List D} (h : ItAt c (Vol V0 X) s it ds) (hX : it ∉ X) (g : Stp X s X' s') : ItAt c (Vol V0 X') s' it ds := by
  have hk : ∀ o, s.heap.get? it = some o → s'.heap.get? it = some o := fun o e => g.keep it o hX e
  have hv : ∀ l o, ¬ Vol V0 X l → s.heap.get? l = some o → ¬ Vol V0 X' l := fun l o nl e q => by
    rcases q with q | q
    · exact nl (.inl q)
    · rcases g.new l q with q' | q'
      · exact nl (.inr q')
      · rw [q'] at e; cases e
  cases h with
  | list hi nl ho hc hd r => obtain ⟨o, h1, h2⟩ := hi; exact .list ⟨o, hk o h1, h2⟩ (hv _ _ nl ho) (g.keep _ _ (fun q => nl (.inr q)) ho) hc hd (r.stp g)
  | tuple hi nl ho hc hd r => obtain ⟨o, h1, h2⟩ := hi; exact .tuple ⟨o, hk o h1, h2⟩ (hv _ _ nl ho) (g.keep _ _ (fun q => nl (.inr q)) ho) hc hd (r.stp g)
  | range hi => exact .range (hk _ hi)
  | ascii hi => obtain ⟨o, h1, h2⟩ := hi; exact .ascii ⟨o, hk o h1, h2⟩
  | wide hi => obtain ⟨o, h1, h2⟩ := hi; exact .wide ⟨o, hk o h1, h2⟩

theorem lotg {A : Around} {E : Value → Shared → Prop} {V s it ds tgt v} (h : ItAt c V s it ds) {Q : Unit → Shared → Prop} (hq : Q () s) : wpAny c.M A (letOwnedTupleGo tgt (.ref it) v) Q E s := by
  obtain ⟨o, vs, T, h1, h2, h3, _, h5⟩ := h.fields
  have key : ∀ a : Addr, wpAny c.M A (do
      let o ← load it
      match o.cls, o.data with
      | .type n, .fields vs =>
        if ["enumerate", "zip", "dict_itemiterator", "dict_reverseitemiterator", "odict_iterator", "itertools.zip_longest", "itertools.pairwise"].contains n && vs[0]? == some (rawInt a) then
          rule "for.unpacks-the-owned-tuple"
          updateField it 0 .none
      | _, _ => pure ()) Q E s := fun a => by
    refine wpAny_bind (wpAny_load h1 ?_)
    rw [h3, h2]
    dsimp only
    rw [h5]
    exact wpAny_pure hq
  unfold letOwnedTupleGo
  split
  · cases v <;> first | exact key _ | exact wpAny_pure hq
  · cases v <;> first | exact key _ | exact wpAny_pure hq
  · exact wpAny_pure hq

end
end Mine
namespace Mine

abbrev NoE : Value → Shared → Prop := fun _ _ => False

theorem code_for {c : Cx} {A : Around} {s : Shared} {R : Result → Shared → Prop} {target : Expr} {it : Value} {body orelse : List Stmt} {env : Env} (I : Nat → Shared → Prop)
    (turn : ∀ n s, I n s → wpAny c.M A (pyNext it) (fun r s₁ => match r with
      | none => wpAny c.M A (execs orelse env) (fun f s₃ => R (.ok f) s₃) NoE s₁
      | some v => wpAny c.M A (letOwnedTupleGo target it v) (fun _ s₁' => wpAny c.M A (assign target env v) (fun _ s₂ => wpAny c.M A (execs body env) (fun f s₃ => match f with
          | .next | .cont => ∃ m, m < n ∧ I m s₃
          | .brk => R (.ok .next) s₃
          | .ret v => R (.ok (.ret v)) s₃) NoE s₂) NoE s₁') NoE s₁) NoE s)
    (n : Nat) (h : I n s) : codeAny c.M A (.forLoop target it body orelse env) R s := by
  refine codeAny_loop' rfl I (fun n s hI => ?_) n h
  show wpAny _ _ ((forTurn target it body orelse env).onRaise (fun x => do noteFrame x env; theTreesLotGoes x)) _ _ s
  refine wpAny_noted ?_
  simp only [forTurn]
  refine wpAny_bind (wpAny_standAt (wpAny_bind (wpAny_onRaise (wpAny_mono (turn n s hI) (fun r s₁ h₁ => ?_) fun _ _ h' => h'.elim))))
  cases r with
  | none => exact wpAny_pure (.inr ⟨rfl, codeAny_block (wpAny_mono h₁ (fun _ _ q => q) fun _ _ q => q.elim)⟩)
  | some v =>
    refine wpAny_bind (wpAny_mono h₁ (fun _ s₁' h₁' => ?_) fun _ _ q => q.elim)
    refine wpAny_bind (wpAny_mono h₁' (fun _ s₂ h₂ => wpAny_bind (wpAny_mono h₂ (fun f s₃ h₃ => ?_) fun _ _ h' => h'.elim)) fun _ _ h' => h'.elim)
    cases f with
    | next => exact wpAny_pure (.inl ⟨rfl, h₃⟩)
    | cont => exact wpAny_pure (.inl ⟨rfl, h₃⟩)
    | brk => exact wpAny_pure h₃
    | ret v => exact wpAny_pure h₃

section
variable {c : Cx} {n : Nat} {sc : Scope} {ρ : Sto} {P P' : AF → Sto → Prop}

theorem Stp.it {X X' : List Addr} {s s' s₂ : Shared} {it : Addr} (a : Stp X s X' s') (hn : s.heap.get? it = none) (t : ItStep it s' s₂) : Stp X s X' s₂ :=
  have ne : ∀ b o, s.heap.get? b = some o → b ≠ it := fun b o e q => by rw [q, hn] at e; cases e
  ⟨fun b o hb e => t.keep b o (ne b o e) (a.keep b o hb e), Nat.le_trans a.tok t.tok, t.gens.trans a.gens, t.os.trans a.os, a.new,
   fun b hb o e => let ⟨o', e'⟩ := a.live b hb o e; ⟨o', t.keep b o' (ne b o e) e'⟩⟩

/-- what a turn must come to -/
def Turn (I : Sto → Prop) (P : AF → Sto → Prop) : AF → Sto → Prop
  | .next, ρ => I ρ
  | .cont, ρ => I ρ
  | .brk, ρ => P .next ρ
  | .ret d, ρ => P (.ret d) ρ

theorem Sx.for {tgt e : Expr} {body : List Stmt} {pos : Pos} {d₀ : D} {ds : List D} (I : List D → Sto → Prop) (he : Ev c n sc true ρ e d₀) (hit : IterR c d₀ ds) (hI : I [] ρ)
    (turn : ∀ done d rest ρ', ds = done ++ d :: rest → I done ρ' → ∃ ρ₁, TgtR c sc tgt d ρ' ρ₁ ∧ Tr c n sc ρ₁ body (Turn (I (done ++ [d])) P))
    (fin : ∀ ρ', I ds ρ' → P .next ρ') (hs : ∀ (env : Env) x, foldedSetIterable e env x = pure x := by intro _ _; rfl) : Sx c n sc ρ (.For tgt e body [] pos) P := .mk fun A env V0 h0 Cs X s hA hO F => by
  refine wpAny_For (wpAny_mono (he.run A env V0 h0 Cs X s hA F) (fun v₀ s₀ q₀ => ?_) fun _ _ q => q) (hs env)
  refine wpAny_mono (hit A _ s₀ v₀ hA.zero ((F.st true).gr q₀.1) q₀.2) (fun itv s₁ q₁ => ?_) fun _ _ q => q
  obtain ⟨g₁, it, rfl, hnew, hi⟩ := q₁
  have hnX : ∀ a ∈ X, a ≠ it := fun a ha q => by
    obtain ⟨_, _, _, _, _, h4, _, _⟩ := (F.gr q₀.1).sto
    obtain ⟨o, e⟩ := h4 a ha
    rw [q, hnew] at e; cases e
  have hn0 : h0.get? it = none := by
    cases e : h0.get? it with
    | none => rfl
    | some o => have := (F.gr q₀.1).keep _ _ e; rw [hnew] at this; cases this
  have hv0 : ¬ V0 it := fun q => by
    obtain ⟨⟨o, e⟩, _⟩ := (F.gr q₀.1).live0 it q
    rw [hnew] at e; cases e
  have hns : s.heap.get? it = none := by
    cases e : s.heap.get? it with
    | none => rfl
    | some o => have := q₀.1.keep _ _ e; rw [hnew] at this; cases this
  refine codeAny_mono (R := fun r s' => match r with | .ok f => SPost c sc env V0 h0 Cs X s P f s' | .error _ => False) ?_ (fun r s' q => by cases r with | ok f => exact q | error e => exact q.elim)
  refine code_for (fun k s' => ∃ done rest X' ρ', ds = done ++ rest ∧ k = rest.length ∧ I done ρ' ∧ Stp X s X' s' ∧ Fm c sc env V0 h0 Cs X' ρ' s' ∧ ItAt c (Vol V0 X') s' it rest ∧ it ∉ X') ?_ ds.length ?_
  · rintro k s' ⟨done, rest, X', ρ', rfl, rfl, hI', hst, F', hi', hX'⟩
    cases rest with
    | nil =>
      refine wpAny_mono (ItAt.stop hA.handled hi') (fun r s₂ q => ?_) fun _ _ q => q
      obtain ⟨rfl, t⟩ := q
      exact wpAny_execs_nil ⟨X', ρ', .next, hst.it hns t, F'.it hi' hX' hn0 hv0 t, .next, fin _ (by simpa using hI')⟩
    | cons d rest =>
      refine wpAny_mono (ItAt.next hi') (fun r s₂ q => ?_) fun _ _ q => q
      obtain ⟨v, rfl, rv, hi₂, t⟩ := q
      have F₂ := F'.it hi' hX' hn0 hv0 t
      obtain ⟨ρ₁, htg, hbody⟩ := turn done d rest ρ' rfl hI'
      refine lotg hi₂ (wpAny_mono (htg.run A env V0 h0 Cs X' s₂ v hA.zero (fun _ => hO) F₂ rv) (fun _ s₃ q => ?_) fun _ _ q => q)
      obtain ⟨X₃, g₃, F₃⟩ := q
      have alive : ∃ o, s₂.heap.get? it = some o := let ⟨o, _, _, e, _⟩ := hi₂.fields; ⟨o, e⟩
      have hX₃ : it ∉ X₃ := fun q => (g₃.new it q).elim hX' fun q => by obtain ⟨o, e⟩ := alive; rw [q] at e; cases e
      have hi₃ := hi₂.stp hX' g₃
      refine wpAny_mono (hbody.run A env V0 h0 Cs X₃ s₃ hA hO F₃) (fun f s₄ q => ?_) fun _ _ q => q
      obtain ⟨X₄, ρ₄, af, g₄, F₄, hf, hp⟩ := q
      have hX₄ : it ∉ X₄ := fun q => (g₄.new it q).elim hX₃ fun q => by obtain ⟨o, _, _, e, _⟩ := hi₃.fields; rw [q] at e; cases e
      have hall := ((hst.it hns t).trans g₃).trans g₄
      cases hf with
      | next => exact ⟨_, Nat.lt_succ_self _, done ++ [d], rest, X₄, ρ₄, by simp, rfl, hp, hall, F₄, hi₃.stp hX₃ g₄, hX₄⟩
      | cont => exact ⟨_, Nat.lt_succ_self _, done ++ [d], rest, X₄, ρ₄, by simp, rfl, hp, hall, F₄, hi₃.stp hX₃ g₄, hX₄⟩
      | brk => exact ⟨X₄, ρ₄, .next, hall, F₄, .next, hp⟩
      | ret r => exact ⟨X₄, ρ₄, _, hall, F₄, .ret r, hp⟩
  · have gg := q₀.1.trans g₁
    refine ⟨[], ds, X, ρ, rfl, rfl, hI, .of_gr gg, F.gr gg, ?_, fun q => hnX _ q rfl⟩
    have : VK true V0 X = Vol V0 X := by funext a; simp [VK]
    rw [this] at hi; exact hi

/-- a while by an invariant and a measure -/
theorem Sx.while {t : Expr} {body : List Stmt} {pos : Pos} (I : Nat → Sto → Prop) (k : Nat) (hI : I k ρ)
    (turn : ∀ k ρ', I k ρ' → ∃ b, Tst c n sc ρ' t b ∧ (b = true → Tr c n sc ρ' body (Turn (fun ρ₂ => ∃ m, m < k ∧ I m ρ₂) P)) ∧ (b = false → P .next ρ')) : Sx c n sc ρ (.While t body [] pos) P := .mk fun A env V0 h0 Cs X s hA hO F => by
  refine wpAny_While ?_
  refine codeAny_mono (R := fun r s' => match r with | .ok f => SPost c sc env V0 h0 Cs X s P f s' | .error _ => False) ?_ (fun r s' q => by cases r with | ok f => exact q | error e => exact q.elim)
  refine codeAny_whileLoop (fun k s' => ∃ X' ρ', I k ρ' ∧ Stp X s X' s' ∧ Fm c sc env V0 h0 Cs X' ρ' s') ?_ k ⟨X, ρ, hI, .refl X s, F⟩
  rintro k s' ⟨X', ρ', hI', hst, F'⟩
  obtain ⟨b, ht, h1, h2⟩ := turn k ρ' hI'
  refine wpAny_mono (ht.run A env V0 h0 Cs X' s' hA F') (fun r s₂ q => ?_) fun _ _ q => q.elim
  obtain ⟨g, rfl⟩ := q
  cases r with
  | false =>
    rw [if_neg Bool.false_ne_true]
    exact wpAny_execs_nil ⟨X', ρ', .next, hst.trans (.of_gr g), F'.gr g, .next, h2 rfl⟩
  | true =>
    rw [if_pos rfl]
    refine wpAny_mono ((h1 rfl).run A env V0 h0 Cs X' s₂ hA hO (F'.gr g)) (fun f s₃ q => ?_) fun _ _ q => q.elim
    obtain ⟨X₃, ρ₃, af, g₃, F₃, hf, hp⟩ := q
    have hall := (hst.trans (.of_gr g)).trans g₃
    cases hf with
    | next => obtain ⟨m, hm, hp⟩ := hp; exact ⟨m, hm, X₃, ρ₃, hp, hall, F₃⟩
    | cont => obtain ⟨m, hm, hp⟩ := hp; exact ⟨m, hm, X₃, ρ₃, hp, hall, F₃⟩
    | brk => exact ⟨X₃, ρ₃, .next, hall, F₃, .next, hp⟩
    | ret r => exact ⟨X₃, ρ₃, _, hall, F₃, .ret r, hp⟩

end
end Mine
namespace Mine

section
variable {c : Cx} {n : Nat} {sc : Scope} {ρ ρ' : Sto} {P P' : AF → Sto → Prop}

/-- one store may be taken for another -/
def Ent (c : Cx) (sc : Scope) (ρ ρ' : Sto) : Prop := ∀ env V0 h0 Cs X s, Fm c sc env V0 h0 Cs X ρ s → ∃ X', (∀ a ∈ X', a ∈ X) ∧ Fm c sc env V0 h0 Cs X' ρ' s
theorem Ent.refl (ρ : Sto) : Ent c sc ρ ρ := fun _ _ _ _ X _ F => ⟨X, fun _ h => h, F⟩
theorem Ent.trans {ρ₂ : Sto} (a : Ent c sc ρ ρ') (b : Ent c sc ρ' ρ₂) : Ent c sc ρ ρ₂ := fun env V0 h0 Cs X s F =>
  let ⟨X', h1, F'⟩ := a env V0 h0 Cs X s F
  let ⟨X'', h2, F''⟩ := b env V0 h0 Cs X' s F'
  ⟨X'', fun x hx => h1 x (h2 x hx), F''⟩
theorem Tr.ent {ss : List Stmt} (e : Ent c sc ρ ρ') (h : Tr c n sc ρ' ss P) : Tr c n sc ρ ss P := .mk fun A env V0 h0 Cs X s hA hO F =>
  let ⟨X', h1, F'⟩ := e env V0 h0 Cs X s F
  wpAny_mono (h.run A env V0 h0 Cs X' s hA hO F') (fun f s' q => let ⟨X₂, ρ₂, af, a, b, d, p⟩ := q; ⟨X₂, ρ₂, af, a.sub h1, b, d, p⟩) fun _ _ q => q
theorem Sx.ent {st : Stmt} (e : Ent c sc ρ ρ') (h : Sx c n sc ρ' st P) : Sx c n sc ρ st P := .mk fun A env V0 h0 Cs X s hA hO F =>
  let ⟨X', h1, F'⟩ := e env V0 h0 Cs X s F
  wpAny_mono (h.run A env V0 h0 Cs X' s hA hO F') (fun f s' q => let ⟨X₂, ρ₂, af, a, b, d, p⟩ := q; ⟨X₂, ρ₂, af, a.sub h1, b, d, p⟩) fun _ _ q => q
/-- the store behind the statements may be taken for another -/
theorem Tr.post {ss : List Stmt} (h : Tr c n sc ρ ss P) (hp : ∀ af ρ₁, P af ρ₁ → ∃ ρ₂, Ent c sc ρ₁ ρ₂ ∧ P' af ρ₂) : Tr c n sc ρ ss P' := .mk fun A env V0 h0 Cs X s hA hO F =>
  wpAny_mono (h.run A env V0 h0 Cs X s hA hO F) (fun f s' q => by
    obtain ⟨X₂, ρ₁, af, a, b, d, p⟩ := q
    obtain ⟨ρ₂, e, p'⟩ := hp af ρ₁ p
    obtain ⟨X₃, h3, F₃⟩ := e env V0 h0 Cs X₂ s' b
    refine ⟨X₃, ρ₂, af, a.sub' h3, F₃, ?_, p'⟩
    cases d with
    | next => exact .next
    | brk => exact .brk
    | cont => exact .cont
    | ret r => exact .ret (r.weak fun x q => q.imp id (h3 x))) fun _ _ q => q

/-- taking an entry out -/
theorem StoR.take {env : Env} {V : Addr → Prop} {s : Shared} {m : Str → Option Value} {x : String} {sl : Slot} : ∀ {ρ fps}, StoR c env V s m ρ fps → ρ.lookup x = some sl →
    ∃ v fp fps' rest, Loc env s m x v ∧ RepS c V s sl v fp ∧ StoR c env V s m (delS x ρ) fps' ∧ (rest ++ (fp ++ fps')).Perm fps
  | _, _, .nil, e => by cases e
  | _, _, .cons (x := y) (v := v) (fp := fp) l r rs, e => by
    rw [List.lookup_cons] at e
    unfold delS
    by_cases hy : x = y
    · subst hy
      simp only [beq_self_eq_true] at e
      cases e
      rw [if_pos rfl]
      obtain ⟨fps', rest, h1, h2⟩ := rs.del x
      refine ⟨v, fp, fps', rest, l, r, h1, ?_⟩
      rw [← List.append_assoc]
      refine (List.Perm.append_right _ List.perm_append_comm).trans ?_
      rw [List.append_assoc]; exact h2.append_left fp
    · have : (x == y) = false := by simpa using hy
      rw [this] at e
      rw [if_neg fun q => hy q.symm]
      obtain ⟨v', fp', fps', rest, h1, h2, h3, h4⟩ := rs.take e
      refine ⟨v', fp', fp ++ fps', rest, h1, h2, .cons l r h3, ?_⟩
      have e1 : (rest ++ (fp' ++ (fp ++ fps'))).Perm (fp ++ (rest ++ (fp' ++ fps'))) := by
        refine ((List.perm_append_comm_assoc fp' fp fps').append_left rest).trans ?_
        exact List.perm_append_comm_assoc rest fp (fp' ++ fps')
      exact e1.trans (h4.append_left fp)

theorem delS_lookup {x y : String} (h : y ≠ x) : ∀ (ρ : Sto), (delS x ρ).lookup y = ρ.lookup y
  | [] => rfl
  | (z, sl) :: r => by
    unfold delS
    by_cases hz : z = x
    · rw [if_pos hz, delS_lookup h r, List.lookup_cons]
      have : (y == z) = false := by simpa using fun q : y = z => h (q.trans hz)
      rw [this]
    · rw [if_neg hz, List.lookup_cons, List.lookup_cons, delS_lookup h r]

theorem Fm.mk' {env V0 h0 Cs X s} (F : Fm c sc env V0 h0 Cs X ρ s) {X' : List Addr} {m : Str → Option Value} {fps : List Addr} (hns : s.heap.Ns env.locals m) (hX : X' = env.locals :: (Cs.map (·.2) ++ fps)) (hn : X'.Nodup)
    (hs : ∀ a ∈ X', a ∈ X) (r : StoR c env (Vol V0 X') s m ρ' fps) : Fm c sc env V0 h0 Cs X' ρ' s :=
  ⟨F.good, F.scope, F.kind, F.globals, F.builtins, F.base, F.keep, F.tok, fun a q => ⟨(F.live0 a q).1, fun hx => (F.live0 a q).2 (hs a hx)⟩, F.ccells, fun a ha => F.new a (hs a ha), F.cells, F.cinj,
   let ⟨m₀, fps₀, h1, h2, h3, h4, h6, h5⟩ := F.sto
   ⟨m, fps, hns, hX, hn, fun a ha => h4 a (hs a ha), h6, r⟩⟩

inductive SubS : Sto → Sto → Prop
  | nil {ρ₁ : Sto} : SubS [] ρ₁
  | cons {x : String} {sl : Slot} {r ρ₁ : Sto} : ρ₁.lookup x = some sl → SubS r (delS x ρ₁) → SubS ((x, sl) :: r) ρ₁

theorem StoR.sub {env : Env} {V : Addr → Prop} {s : Shared} {m : Str → Option Value} {ρ' : Sto} {ρ : Sto} (h : SubS ρ' ρ) : ∀ {fps}, StoR c env V s m ρ fps →
    ∃ fps' rest, StoR c env V s m ρ' fps' ∧ (rest ++ fps').Perm fps := by
  induction h with
  | nil => intro fps _; exact ⟨[], fps, .nil, by simp⟩
  | cons hl _ ih =>
    intro fps r
    obtain ⟨v, fp, fps', rest, h1, h2, h3, h4⟩ := r.take hl
    obtain ⟨fps'', rest', h5, h6⟩ := ih h3
    refine ⟨fp ++ fps'', rest ++ rest', .cons h1 h2 h5, ?_⟩
    refine List.Perm.trans ?_ h4
    rw [List.append_assoc]
    refine List.Perm.append_left rest ?_
    exact (List.perm_append_comm_assoc rest' fp fps'').trans (h6.append_left fp)

theorem Ent.sub (h : SubS ρ' ρ) : Ent c sc ρ ρ' := fun env V0 h0 Cs X s F => by
  obtain ⟨m, fps, h1, h2, h3, h4, h6, h5⟩ := F.sto
  obtain ⟨fps', rest, r, hp⟩ := h5.sub h
  have hsub : ∀ a ∈ env.locals :: (Cs.map (·.2) ++ fps'), a ∈ X := fun a ha => by
    rw [h2]
    rcases List.mem_cons.mp ha with q | q
    · exact q ▸ .head _
    · refine .tail _ ?_
      rcases List.mem_append.mp q with q | q
      · exact List.mem_append_left _ q
      · exact List.mem_append_right _ (hp.subset (List.mem_append_right _ q))
  refine ⟨_, hsub, F.mk' h1 rfl ?_ hsub (r.weak fun a q => q.imp id (hsub a))⟩
  have hx1 : (env.locals :: (Cs.map (·.2) ++ fps)).Nodup := h2 ▸ h3
  have hpm : (rest ++ (env.locals :: (Cs.map (·.2) ++ fps'))).Perm (env.locals :: (Cs.map (·.2) ++ fps)) := by
    refine List.perm_middle.trans (List.Perm.cons _ ?_)
    exact (List.perm_append_comm_assoc rest _ fps').trans (hp.append_left _)
  exact (List.nodup_append.mp (hpm.nodup_iff.mpr hx1)).2.1

mutual
theorem RepS.freeze {V W : Addr → Prop} {s : Shared} : ∀ {sl v fp}, RepS c V s sl v fp → (∀ a, W a → V a) → (∀ a ∈ fp, ¬ W a) → Rep c W s sl.d v
  | _, _, _, .val r, hw, _ => r.weak hw
  | _, _, _, .own ho hcl hd hdt r, hw, hf => .list (hf _ (.head _)) ho hcl hd hdt (RepSL.freeze r hw fun a ha => hf a (.tail _ ha))
theorem RepSL.freeze {V W : Addr → Prop} {s : Shared} : ∀ {sl v fp}, RepSL c V s sl v fp → (∀ a, W a → V a) → (∀ a ∈ fp, ¬ W a) → RepL c W s (Slot.ds sl) v
  | _, _, _, .nil, _, _ => .nil
  | _, _, _, .cons r rs, hw, hf => .cons (RepS.freeze r hw fun a ha => hf a (List.mem_append_left _ ha)) (RepSL.freeze rs hw fun a ha => hf a (List.mem_append_right _ ha))
end

/-- an owned list is no longer turned -/
theorem Ent.freeze {x : String} {sl : Slot} (h : ρ.lookup x = some sl) : Ent c sc ρ (setS ρ x (.val sl.d)) := fun env V0 h0 Cs X s F => by
  obtain ⟨m, fps, h1, h2, h3, h4, h6, h5⟩ := F.sto
  obtain ⟨v, fp, fps', rest, l, rx, r, hp⟩ := h5.take h
  have hx1 : (env.locals :: (Cs.map (·.2) ++ fps)).Nodup := h2 ▸ h3
  have hpm : ((rest ++ fp) ++ (env.locals :: (Cs.map (·.2) ++ fps'))).Perm (env.locals :: (Cs.map (·.2) ++ fps)) := by
    refine List.perm_middle.trans (List.Perm.cons _ ?_)
    refine (List.perm_append_comm_assoc (rest ++ fp) _ fps').trans (List.Perm.append_left _ ?_)
    rw [List.append_assoc]; exact hp
  have hnd := List.nodup_append.mp (hpm.nodup_iff.mpr hx1)
  have hsub : ∀ a ∈ env.locals :: (Cs.map (·.2) ++ fps'), a ∈ X := fun a ha => h2 ▸ hpm.subset (List.mem_append_right _ ha)
  have hfX : ∀ a ∈ fp, a ∈ X := fun a ha => h2 ▸ .tail _ (List.mem_append_right _ (hp.subset (List.mem_append_right _ (List.mem_append_left _ ha))))
  refine ⟨_, hsub, F.mk' h1 (fps := [] ++ fps') rfl hnd.2.1 hsub (.cons l (.val (rx.freeze (fun a q => q.imp id (hsub a)) fun a ha q => ?_)) (r.weak fun a q => q.imp id (hsub a)))⟩
  rcases q with q | q
  · exact (F.live0 a q).2 (hfX a ha)
  · exact hnd.2.2 a (List.mem_append_right _ ha) a q rfl

end
end Mine
namespace Mine

theorem bindL_other {kindOf : Str → Option NameKind} {x : Str} : ∀ (binds : List (Str × Value)) (m : Str → Option Value), (∀ p ∈ binds, p.1 ≠ x) → bindL kindOf binds m x = m x
  | [], _, _ => rfl
  | (y, v) :: r, m, h => by
    unfold bindL
    rw [bindL_other r _ fun p hp => h p (.tail _ hp)]
    split
    · exact if_neg fun q => h _ (.head _) q.symm
    · rfl
theorem bindC_other {kindOf : Str → Option NameKind} {x : Str} : ∀ (binds : List (Str × Value)) (m : Str → Option Value), (∀ p ∈ binds, p.1 ≠ x) → bindC kindOf binds m x = m x
  | [], _, _ => rfl
  | (y, v) :: r, m, h => by
    unfold bindC
    rw [bindC_other r _ fun p hp => h p (.tail _ hp)]
    split
    · rfl
    · exact if_neg fun q => h _ (.head _) q.symm
theorem bindL_at {kindOf : Str → Option NameKind} {x : Str} {v : Value} (hk : kindOf x = some .local) : ∀ (binds : List (Str × Value)) (m : Str → Option Value), (binds.map (·.1)).Nodup → (x, v) ∈ binds → bindL kindOf binds m x = some v
  | (y, w) :: r, m, hn, h => by
    unfold bindL
    rcases List.mem_cons.mp h with q | q
    · cases q
      rw [bindL_other r _ fun p hp q => (List.nodup_cons.mp hn).1 (List.mem_map.mpr ⟨p, hp, q⟩), if_pos hk]
      exact if_pos rfl
    · exact bindL_at hk r _ (List.nodup_cons.mp hn).2 q
theorem bindC_at {kindOf : Str → Option NameKind} {x : Str} {v : Value} (hk : kindOf x ≠ some .local) : ∀ (binds : List (Str × Value)) (m : Str → Option Value), (binds.map (·.1)).Nodup → (x, v) ∈ binds → bindC kindOf binds m x = some v
  | (y, w) :: r, m, hn, h => by
    unfold bindC
    rcases List.mem_cons.mp h with q | q
    · cases q
      rw [bindC_other r _ fun p hp q => (List.nodup_cons.mp hn).1 (List.mem_map.mpr ⟨p, hp, q⟩), if_neg hk]
      exact if_pos rfl
    · exact bindC_at hk r _ (List.nodup_cons.mp hn).2 q

def bindsOf (ps : List String) (vs : List Value) : List (Str × Value) := (ps.map Str.ofString).zip vs
def stoOf : List String → List D → Sto
  | p :: ps, d :: ds => (p, .val d) :: stoOf ps ds
  | _, _ => []

/-- what is known of a def at the top -/
structure IsDef (c : Cx) (a : Addr) (sc : Scope) (ps : List String) (body : List Stmt) : Prop where
  ex : ∃ o fd, c.base.get? a = some o ∧ o.data = .func fd ∧ fd.body = .stmts body ∧ fd.scope = sc ∧ fd.closure = [] ∧ fd.globals = mainGlobals ∧ fd.builtins = builtinsNs ∧ c.base.CodeRec fd.code fd.qualname ∧
    (∀ vs : List Value, vs.length = ps.length → bindArgs fd ⟨vs, []⟩ = pure (bindsOf ps vs))
  kinds : ∀ p ∈ ps, CanStore sc p
  nodup : ps.Nodup
  cnd : ((cellsFrom 0 sc.names []).map (·.1)).Nodup
  co : sc.isCoroutine = false
  gen : sc.isGenerator = false
  kind : sc.kind = .function
  nofree : ∀ x, sc.names.lookup x ≠ some .free

theorem cellsFrom_shift : ∀ (names : List (Str × NameKind)) (n m : Nat) (acc acc' : List (Str × Addr)), acc.map (·.1) = acc'.map (·.1) → (cellsFrom n names acc).map (·.1) = (cellsFrom m names acc').map (·.1)
  | [], _, _, _, _, h => h
  | (x, k) :: r, n, m, acc, acc', h => by
    unfold cellsFrom
    split
    · exact cellsFrom_shift r _ _ _ _ (by simp [h])
    · exact cellsFrom_shift r _ _ _ _ h
theorem cellsFrom_has {x : Str} : ∀ (names : List (Str × NameKind)) (n : Nat) (acc : List (Str × Addr)), names.lookup x = some .cell → ((cellsFrom n names acc).lookup x).isSome = true := fun names n acc h =>
  cellsFrom_some names n acc (.inl h)
theorem lookup_inj {cs : List (Str × Addr)} (hp : cs.Pairwise fun x y => x.2 ≠ y.2) {x y : Str} {a : Addr} (hx : cs.lookup x = some a) (hy : cs.lookup y = some a) : x = y :=
  name_of_addr hp (mem_of_lookup hx) (mem_of_lookup hy)

theorem repL_zip {c V s} : ∀ {ps : List String} {ds : List D} {vs : List Value}, RepL c V s ds vs → ps.length = ds.length → ∀ (env : Env) (m : Str → Option Value),
    (∀ p v, (Str.ofString p, v) ∈ bindsOf ps vs → p ∈ ps → Loc env s m p v) → StoR c env V s m (stoOf ps ds) []
  | [], [], _, .nil, _, _, _, _ => .nil
  | p :: ps, d :: ds, _, .cons (v := v) r rs, hl, env, m, h =>
    .cons (fp := []) (h p v (.head _) (.head _)) (.val r) (repL_zip rs (by simpa using hl) env m fun q w hq hm => h q w (.tail _ hq) (.tail _ hm))
  | [], _ :: _, _, _, hl, _, _, _ => nomatch hl
  | _ :: _, [], _, _, hl, _, _, _ => nomatch hl

theorem FnR.def {c : Cx} {n : Nat} {a : Addr} {sc : Scope} {ps : List String} {body : List Stmt} {ds : List D} {d : D} (hd : IsDef c a sc ps body) (hl : ps.length = ds.length)
    (h : Tr c n sc (stoOf ps ds) body fun af _ => af = .ret d ∨ (af ≠ .ret d ∧ d = .none ∧ ∀ d', af ≠ .ret d')) : FnR c (n + 1) (.ref a) ds d := .mk fun A V s vs hA hS r => by
  obtain ⟨o, fd, ho, hdat, hbody, hsc, hclo, hgl, hbl, hcd, hbind⟩ := hd.ex
  subst hsc
  have hvl : vs.length = ps.length := by rw [← r.length, hl]
  have hbs := hbind vs hvl
  have hkinds : ∀ x ∈ bindsOf ps vs, fd.scope.names.lookup x.1 = some .local ∨ (fd.scope.names.lookup x.1 = some .cell ∧ ((cellsFrom (s.heap.objs.size + 1) fd.scope.names []).lookup x.1).isSome = true) := fun x hx => by
    obtain ⟨x1, x2⟩ := x
    have := List.of_mem_zip hx
    obtain ⟨p, hp, e⟩ := List.mem_map.mp this.1
    subst e
    rcases hd.kinds p hp with q | q
    · exact .inl q
    · exact .inr ⟨q, cellsFrom_has _ _ _ q⟩
  have hnames : ((bindsOf ps vs).map (·.1)).Nodup := by
    unfold bindsOf
    rw [List.map_fst_zip (by simp [hvl])]
    have : ∀ l : List String, l.Nodup → (l.map Str.ofString).Nodup := by
      intro l hl
      induction l with
      | nil => exact .nil
      | cons x l ih =>
        rw [List.map_cons, List.nodup_cons]
        refine ⟨fun q => ?_, ih (List.nodup_cons.mp hl).2⟩
        obtain ⟨y, hy, e⟩ := List.mem_map.mp q
        exact (List.nodup_cons.mp hl).1 (ofString_inj e ▸ hy)
    exact this ps hd.nodup
  refine wpAny_with_toks (Nat.le_refl _) (wpAny_call (codeAny_mono (R := fun r s' => match r with | .ok (.ret v) => Keeps s.heap s'.heap ∧ s'.gens = s.gens ∧ s'.os = s.os ∧ Rep c V s' d v | _ => False) ?_ (fun r s' q => ?_)))
  · refine codeAny_call_function hA.lim (hS.keep _ _ ho) hdat hd.co hd.gen hbody (hcd.keeps hS.keep) ?_
    rw [hbs, hclo]
    refine wpAny_pure (wpAny_with_toks (Nat.le_refl _) (wpAny_newFunctionEnv_cells hd.kind hkinds fun env he s₁ x htok => ?_))
    subst he
    refine ⟨(hS.good.lim.keeps hS.keep).keeps x.toInCall.keep, codeAny_func ?_⟩
    -- the body
    have hk₁ : Keeps s.heap s₁.heap := x.toInCall.keep
    have hca := x.apart
    obtain ⟨h₁, tk, rfl⟩ := x.toInCall.same
    have hcellAt : ∀ y b, (y, b) ∈ (callEnvC fd s.heap.objs.size a).cells → (callEnvC fd s.heap.objs.size a).cells.lookup y = some b := fun y b hm => by
      have hnd : ((cellsFrom (s.heap.objs.size + 1) fd.scope.names []).map (·.1)).Nodup := cellsFrom_shift fd.scope.names 0 (s.heap.objs.size + 1) [] [] rfl ▸ hd.cnd
      exact lookup_of_mem_nodup hnd hm
    have htk : 0 < tk := Nat.lt_of_lt_of_le hS.pos htok
    have gr₁ : Gr s { s with heap := h₁, toks := tk } := ⟨hk₁, htok, rfl, rfl⟩
    have hnew : ∀ b ∈ s.heap.objs.size :: ((callEnvC fd s.heap.objs.size a).cells.map (·.2) ++ []), s.heap.get? b = none := fun b hb => by
      have : s.heap.objs.size ≤ b := by
        rcases List.mem_cons.mp hb with q | q
        · exact Nat.le_of_eq q.symm
        · rw [List.append_nil] at q
          obtain ⟨p, hp, rfl⟩ := List.mem_map.mp q
          exact Nat.le_of_lt (x.above p.1 p.2 hp)
      cases e : s.heap.get? b with
      | none => rfl
      | some o' => exact absurd (Heap.lt_size e) (Nat.not_lt.mpr this)
    have F : Fm c fd.scope (callEnvC fd s.heap.objs.size a) V s.heap (callEnvC fd s.heap.objs.size a).cells (s.heap.objs.size :: ((callEnvC fd s.heap.objs.size a).cells.map (·.2) ++ [])) (stoOf ps ds) { s with heap := h₁, toks := tk } := by
      refine ⟨hS.good, rfl, hd.kind, hgl, hbl, hS.keep, hk₁, Nat.ne_of_gt htk, (fun b q => by
        obtain ⟨o', e⟩ := hS.live b q
        exact ⟨⟨o', hk₁ _ _ e⟩, fun hb => by rw [hnew b hb] at e; cases e⟩), (fun y hy => by
        rcases hy with hy | hy
        · exact Option.isSome_iff_exists.mp (cellsFrom_has fd.scope.names (s.heap.objs.size + 1) [] hy)
        · exact absurd hy (hd.nofree y)), hnew, fun _ _ q => q, fun y z b hy hz => lookup_inj hca hy hz,
        ⟨_, [], x.toInCall.ns, rfl, ?_, fun b hb => ?_, fun p hp => ⟨_, x.cell p.1 p.2 (hcellAt _ _ hp)⟩, ?_⟩⟩
      · rw [List.append_nil]
        refine List.nodup_cons.mpr ⟨fun q => ?_, ?_⟩
        · obtain ⟨p, hp, e⟩ := List.mem_map.mp q
          have := x.above p.1 p.2 hp
          exact Nat.lt_irrefl _ (e ▸ this)
        · exact List.pairwise_map.mpr hca
      · rcases List.mem_cons.mp hb with q | q
        · obtain ⟨oL, _, _, e, _⟩ := x.toInCall.ns
          exact ⟨oL, q ▸ e⟩
        · rw [List.append_nil] at q
          obtain ⟨p, hp, rfl⟩ := List.mem_map.mp q
          obtain ⟨oc, e, _⟩ := x.cell p.1 p.2 (hcellAt _ _ hp)
          exact ⟨oc, e⟩
      · have r2 : RepL c (Vol V (s.heap.objs.size :: ((callEnvC fd s.heap.objs.size a).cells.map (·.2) ++ []))) { s with heap := h₁, toks := tk } ds vs :=
          (r.ext (W := fun b => b ∈ s.heap.objs.size :: ((callEnvC fd s.heap.objs.size a).cells.map (·.2) ++ [])) hnew).gr gr₁
        refine repL_zip r2 hl _ _ fun p v hm hp => ?_
        rcases hd.kinds p hp with q | q
        · exact .loc q (bindL_at q _ _ hnames hm)
        · obtain ⟨b, hb⟩ := Option.isSome_iff_exists.mp (cellsFrom_has fd.scope.names (s.heap.objs.size + 1) [] q)
          obtain ⟨oc, e, hdc⟩ := x.cell _ _ hb
          refine .cell (.inl q) hb e (hdc.trans ?_)
          have : bindC (callEnvC fd s.heap.objs.size a).kindOf (bindsOf ps vs) (fun _ => none) (Str.ofString p) = some v := bindC_at (by
            show fd.scope.names.lookup _ ≠ _
            rw [q]; decide) _ _ hnames hm
          exact congrArg _ this
    refine wpAny_mono (h.run _ _ V s.heap _ _ _ (hA.deeper _) (fun y hy => ?_) F) (fun f s' q => ?_) fun _ _ q => q.elim
    · have := cellsFrom_has fd.scope.names (s.heap.objs.size + 1) [] hy
      exact Option.isSome_iff_exists.mp this
    · obtain ⟨X', ρ', af, g, F', hf, hp⟩ := q
      refine ⟨F'.keep, g.gens, g.os, ?_⟩
      cases hf with
      | next => rcases hp with hp | ⟨_, rfl, _⟩
                · cases hp
                · exact .none
      | brk => rcases hp with hp | ⟨_, rfl, _⟩
               · cases hp
               · exact .none
      | cont => rcases hp with hp | ⟨_, rfl, _⟩
                · cases hp
                · exact .none
      | ret r' =>
        rcases hp with hp | ⟨_, _, hp⟩
        · cases hp; exact r'.weak fun _ q => .inl q
        · exact absurd rfl (hp _)
  · cases r with
    | error e => exact q.elim
    | ok f =>
      cases f with
      | ret v => exact fun ht => ⟨⟨q.1, ht, q.2.1, q.2.2.1⟩, q.2.2.2⟩
      | _ => exact q.elim

/-- the plain case: every way ends in a return of d -/
theorem FnR.of {c : Cx} {n : Nat} {a : Addr} {sc : Scope} {ps : List String} {body : List Stmt} {ds : List D} {d : D} (hd : IsDef c a sc ps body) (hl : ps.length = ds.length)
    (h : Tr c n sc (stoOf ps ds) body fun af _ => af = .ret d) : FnR c (n + 1) (.ref a) ds d := FnR.def hd hl (h.mono fun _ _ q => .inl q)

theorem FnR.mono {c : Cx} {n m : Nat} {f : Value} {ds : List D} {d : D} (h : FnR c n f ds d) (hm : n ≤ m) : FnR c m f ds d := .mk fun A V s vs hA hS r => h.run A V s vs (hA.mono hm) hS r

end Mine
namespace Mine

section
variable {c : Cx} {n : Nat} {sc : Scope} {k : Bool} {ρ : Sto}

/-- the arguments, the items of a display -/
structure EvL (c : Cx) (n : Nat) (sc : Scope) (k : Bool) (ρ : Sto) (es : List Expr) (ds : List D) : Prop where
  run : ∀ A env V0 h0 Cs X s pos, Room n A → Fm c sc env V0 h0 Cs X ρ s →
    wpAny c.M A (spliced (backTo pos (starEach es env))) (fun vs s' => Gr s s' ∧ RepL c (VK k V0 X) s' ds vs) NoE s
theorem EvL.nil : EvL c n sc k ρ [] [] := .mk fun A env V0 h0 Cs X s pos _ _ => wpAny_items_nil ⟨.refl s, .nil⟩
theorem EvL.cons {e : Expr} {es : List Expr} {d : D} {ds : List D} (h : Ev c n sc k ρ e d) (hs : EvL c n sc k ρ es ds) (hp : plainE e = true := by rfl) : EvL c n sc k ρ (e :: es) (d :: ds) :=
  .mk fun A env V0 h0 Cs X s pos hA F => wpAny_items_cons (wpAny_mono (h.run A env V0 h0 Cs X s hA F) (fun v s₁ q₁ => wpAny_mono (hs.run A env V0 h0 Cs X s₁ pos hA (F.gr q₁.1)) (fun vs s₂ q₂ =>
    ⟨q₁.1.trans q₂.1, .cons (q₁.2.gr q₂.1) q₂.2⟩) fun _ _ q => q) fun _ _ q => q) (starEach_cons hp)

/-- what may stand in front of a call's brackets -/
inductive Callee (c : Cx) : Value → Prop
  | builtin (id : String) : Callee c (.builtin id)
  | type (T : String) : Callee c (.type T)
  | func {a o fd} : c.base.get? a = some o → o.data = .func fd → Callee c (.ref a)

theorem noStar_all {es : List Expr} {env : Env} {pos : Pos} (h : es.all plainE = true) : (backTo pos (starEach es env)).any (·.1) = false := by
  induction es with
  | nil => rfl
  | cons e es ih =>
    simp only [List.all_cons, Bool.and_eq_true] at h
    rw [starEach_cons h.1]
    exact ih h.2
theorem evalArgs_of {M : Model} {A : Around} {E : Value → Shared → Prop} {s : Shared} {env : Env} {f : Value} {es : List Expr} {pos : Pos} {Q : Args → Shared → Prop} (hp : es.all plainE = true)
    (h : wpAny M A (spliced (backTo pos (starEach es env))) (fun vs s' => Q ⟨vs, []⟩ s') E s) : wpAny M A (evalArgs f true (backTo pos (starEach es env)) []) Q E s := by
  cases es with
  | nil =>
    unfold evalArgs
    show wpAny M A (spliced [] >>= _) Q E s
    refine wpAny_bind (wpAny_mono h (fun vs s' h' => ?_) fun _ _ x => x)
    refine wpAny_holding ?_
    exact wpAny_bind (wpAny_pure (wpAny_bind (wpAny_pure (wpAny_pure h'))))
  | cons e es =>
    simp only [List.all_cons, Bool.and_eq_true] at hp
    rw [starEach_cons hp.1] at h ⊢
    exact Calls.evalArgs_plain h

theorem Callee.wp {M : Model} {A : Around} {E : Value → Shared → Prop} {s : Shared} {env : Env} {f : Value} {es : List Expr} {pos : Pos} {first : List Value} {Q : Value → Shared → Prop} (hf : Callee c f) (hp : es.all plainE = true)
    (h : wpAny M A (spliced (backTo pos (starEach es env))) (fun vs s' => Keeps c.base s'.heap ∧ wpAny M A (call f (first ++ vs)) Q E s') E s) :
    wpAny M A (callWith pos f first (backTo pos (starEach es env)) []) Q E s := by
  cases hf with
  | builtin id => exact Calls.callWith_builtin (noStar_all hp) (evalArgs_of hp (wpAny_mono h (fun _ _ q => q.2) fun _ _ q => q))
  | type T => exact PySem.callWith_type (noStar_all hp) (evalArgs_of hp (wpAny_mono h (fun _ _ q => q.2) fun _ _ q => q))
  | func ho hd => exact Calls.callWith_function (evalArgs_of hp (wpAny_mono h (fun _ _ q => ⟨⟨q.1 _ _ ho, hd⟩, q.2⟩) fun _ _ q => q))

theorem Ev.call {f : Expr} {es : List Expr} {pos : Pos} {fv : Value} {ds : List D} {d : D} (hf : Ev c n sc true ρ f (.val fv)) (hc : Callee c fv) (ha : EvL c n sc k ρ es ds) (h : FnR c n fv ds d)
    (hp : es.all plainE = true := by rfl)
    (he : ∀ env : Env, eval (.Call f es [] pos) env = (do callWith pos (← eval f env) [] (backTo pos (starEach es env)) (backToKw pos (keywordEach [] env))) := by intro _; rfl) : Ev c n sc k ρ (.Call f es [] pos) d :=
  .mk fun A env V0 h0 Cs X s hA F => by
    rw [he]
    refine wpAny_bind (wpAny_mono (hf.run A env V0 h0 Cs X s hA F) (fun v s₁ q₁ => ?_) fun _ _ q => q)
    obtain ⟨g₁, r₁⟩ := q₁
    cases r₁
    refine hc.wp hp (wpAny_mono (ha.run A env V0 h0 Cs X s₁ pos hA (F.gr g₁)) (fun vs s₂ q₂ => ⟨((F.gr g₁).gr q₂.1).base.trans ((F.gr g₁).gr q₂.1).keep, ?_⟩) fun _ _ q => q)
    exact wp_gr (g₁.trans q₂.1) (h.run A _ s₂ vs hA ((F.st k).gr (g₁.trans q₂.1)) q₂.2)

/-- arguments that are looked at only -/
theorem Ev.callF {f : Expr} {es : List Expr} {pos : Pos} {fv : Value} {ds : List D} {d : D} (hf : Ev c n sc true ρ f (.val fv)) (hc : Callee c fv) (ha : EvL c n sc false ρ es ds) (h : FnR c n fv ds d) (hd : d.flat = true)
    (hp : es.all plainE = true := by rfl)
    (he : ∀ env : Env, eval (.Call f es [] pos) env = (do callWith pos (← eval f env) [] (backTo pos (starEach es env)) (backToKw pos (keywordEach [] env))) := by intro _; rfl) : Ev c n sc k ρ (.Call f es [] pos) d :=
  (Ev.call hf hc ha h hp he).lookAt hd

def D.ty : D → Option String
  | .str _ => some "str"
  | .tstr _ => some "str"
  | .list _ => some "list"
  | .tuple _ => some "tuple"
  | .dict _ => some "dict"
  | .int _ => some "int"
  | .bool _ => some "bool"
  | _ => Option.none
theorem Rep.typeIs {V s d v T} (r : Rep c V s d v) (h : d.ty = some T) : s.TypeIs v T ∧ (∀ a, v = .ref a → ∃ ob, s.heap.get? a = some ob ∧ ob.dict = Option.none) := by
  cases r with
  | none => cases h
  | bool b => cases h; exact ⟨rfl, fun _ e => nomatch e⟩
  | int i t => cases h; exact ⟨rfl, fun _ e => nomatch e⟩
  | str x t => cases h; exact ⟨typeIs_str _ _ _, fun _ e => nomatch e⟩
  | tstr x t => cases h; exact ⟨typeIs_str _ _ _, fun _ e => nomatch e⟩
  | val v => cases h
  | range => cases h
  | list na ho hcl hd hdt r => cases h; exact ⟨⟨_, ho, hcl⟩, fun _ e => by cases e; exact ⟨_, ho, hd.1⟩⟩
  | tuple na ho hcl hd hdt r => cases h; exact ⟨⟨_, ho, hcl⟩, fun _ e => by cases e; exact ⟨_, ho, hd.1⟩⟩
  | dict na hsm ho hx hdt r => cases h; exact ⟨⟨_, ho, hx.1⟩, fun _ e => by cases e; exact ⟨_, ho, hx.2.1⟩⟩

theorem Ev.meth {o : Expr} {name : Str} {apos pos : Pos} {es : List Expr} {T id : String} {d₀ : D} {ds : List D} {d : D} (ho : Ev c n sc k ρ o d₀) (hT : d₀.ty = some T) (pa : PlainAttrs T) (slot : PySem.Slot T name id)
    (hty : typeOf (.builtin id) = pure (.type "method_descriptor")) (ha : EvL c n sc k ρ es ds) (h : FnR c n (.builtin id) (d₀ :: ds) d)
    (hline : (apos.endLine == pos.line) = true := by rfl) (hp : es.all plainE = true := by rfl) (hlen : decide (es.length < 30) = true := by rfl)
    (hbase : ∀ env : Env, attributeBase o name env (eval o env) = eval o env := by intro _; rfl) : Ev c n sc k ρ (.Call (.Attribute o name apos) es [] pos) d :=
  .mk fun A env V0 h0 Cs X s hA F => by
    refine wpAny_Call_method (hbase env) ?_ hline pa slot hty (wpAny_mono (ho.run A env V0 h0 Cs X s hA F) (fun v s₁ q₁ => ?_) fun _ _ q => q)
    · have : (backTo pos (starEach es env)).all (fun x => !x.1) = true := by
        have h2 := noStar_all (env := env) (pos := pos) hp
        rw [List.all_eq_not_any_not]
        simpa using h2
      rw [this]
      have hl : decide (es.length < 30) = true := hlen
      exact hl
    · have ht := q₁.2.typeIs hT
      refine ⟨ht.1, ht.2, (Callee.builtin (c := c) id).wp hp (wpAny_mono (ha.run A env V0 h0 Cs X s₁ pos hA (F.gr q₁.1)) (fun vs s₂ q₂ => ⟨((F.gr q₁.1).gr q₂.1).base.trans ((F.gr q₁.1).gr q₂.1).keep, ?_⟩) fun _ _ q => q)⟩
      exact wp_gr (q₁.1.trans q₂.1) (h.run A _ s₂ (v :: vs) hA ((F.st k).gr (q₁.1.trans q₂.1)) (.cons (q₁.2.gr q₂.1) q₂.2))

theorem Ev.list {es : List Expr} {pos : Pos} {ds : List D} (h : EvL c n sc k ρ es ds) (hsz : ds.length ≤ sizeLine) : Ev c n sc k ρ (.List es pos) (.list ds) := .mk fun A env V0 h0 Cs X s hA F =>
  wpAny_List (wpAny_mono (h.run A env V0 h0 Cs X s pos hA F) (fun vs s₁ q => ⟨q.2.length ▸ hsz, q.1.trans (.push _), .list (fun q' => by
    obtain ⟨o, e⟩ := ((F.st k).gr q.1).live _ q'
    exact absurd (Heap.lt_size e) (Nat.lt_irrefl _)) (Heap.get?_push_size _ rfl) rfl ⟨rfl, rfl⟩ rfl (by simpa using q.2.gr (.push _))⟩) fun _ _ q => q)
theorem Ev.tuple {es : List Expr} {kk : Nat} {pos : Pos} {ds : List D} (h : EvL c n sc k ρ es ds) (hsz : ds.length ≤ sizeLine) : Ev c n sc k ρ (.Tuple es kk pos) (.tuple ds) := .mk fun A env V0 h0 Cs X s hA F =>
  wpAny_Tuple (wpAny_mono (h.run A env V0 h0 Cs X s pos hA F) (fun vs s₁ q => ⟨q.2.length ▸ hsz, q.1.trans (.push _), .tuple (fun q' => by
    obtain ⟨o, e⟩ := ((F.st k).gr q.1).live _ q'
    exact absurd (Heap.lt_size e) (Nat.lt_irrefl _)) (Heap.get?_push_size _ rfl) rfl ⟨rfl, rfl⟩ rfl (by simpa using q.2.gr (.push _))⟩) fun _ _ q => q)

theorem Ev.sub {value slice : Expr} {pos : Pos} {d₁ d₂ d : D} {T id : String} (h1 : Ev c n sc k ρ value d₁) (h2 : Ev c n sc k ρ slice d₂) (hT : d₁.ty = some T) (hl : typeLookup (.type T) "__getitem__" = pure (some (.builtin id))) (h : ItemR c d₁ d₂ d)
    (hs : ∀ o i, subscripted slice false o i = operate [o, i] (getItem o i) := by intro _ _; rfl) : Ev c n sc k ρ (.Subscript value slice pos) d := .mk fun A env V0 h0 Cs X s hA F =>
  Subscript_ (wpAny_mono (h1.run A env V0 h0 Cs X s hA F) (fun o s₁ q₁ => wpAny_mono (h2.run A env V0 h0 Cs X s₁ hA (F.gr q₁.1)) (fun i s₂ q₂ =>
    tail_any ((q₁.2.gr q₂.1).typeIs hT).1 hl (wp_gr (q₁.1.trans q₂.1) (h A _ s₂ o i hA.zero ((F.st k).gr (q₁.1.trans q₂.1)) (q₁.2.gr q₂.1) q₂.2)) (hs o i)) fun _ _ q => q) fun _ _ q => q)

end
end Mine
namespace Mine

/-- the signs of a written text -/
def cs (x : String) : List Nat := x.toList.map Char.toNat
theorem ofString_S (x : String) : Str.ofString x = S (cs x) := Str.ofString_eq_toList x
theorem S_append (a b : List Nat) : S a ++ S b = S (a ++ b) := by
  show (⟨a.toArray ++ b.toArray⟩ : Str) = _
  simp
theorem S_length (a : List Nat) : (S a).length = a.length := by simp [Str.length]
theorem S_inj {a b : List Nat} (h : S a = S b) : a = b := by
  injection h with h; simpa using congrArg Array.toList h
theorem S_of (x : Str) : x = S x.cps.toList := by cases x; simp
theorem S_empty : Str.empty = S [] := rfl

abbrev sd (l : List Nat) : D := .str (S l)

section
variable {c : Cx} {n : Nat} {sc : Scope} {k : Bool} {ρ : Sto}

theorem Ev.lit {x : String} {kk : Nat} {pos : Pos} : Ev c n sc k ρ (.Constant (.str (Str.ofString x)) kk pos) (sd (cs x)) := by
  have := Ev.str (c := c) (n := n) (sc := sc) (k := k) (ρ := ρ) (x := Str.ofString x) (kk := kk) (pos := pos)
  rw [ofString_S] at this ⊢; exact this
theorem Ev.tlit {x : String} {kk : Nat} {pos : Pos} : Ev c n sc k ρ (.Constant (.str (Str.ofString x)) kk pos) (.tstr (S (cs x))) := by
  have := Ev.tstr (c := c) (n := n) (sc := sc) (k := k) (ρ := ρ) (x := Str.ofString x) (kk := kk) (pos := pos)
  rw [ofString_S] at this ⊢; exact this
theorem Rep.untold {V s x v} (r : Rep c V s (.tstr x) v) : Rep c V s (.str x) v := by cases r; exact .str _ _
theorem Ev.untold {e : Expr} {x : Str} (h : Ev c n sc k ρ e (.tstr x)) : Ev c n sc k ρ e (.str x) := .mk fun A env V0 h0 Cs X s hA F =>
  wpAny_mono (h.run A env V0 h0 Cs X s hA F) (fun _ _ q => ⟨q.1, q.2.untold⟩) fun _ _ q => q

/- ints -/
theorem BinR.add {a b : Int} : BinR c .Add (.int a) (.int b) (.int (a + b)) := fun A V s v₁ v₂ _ _ r₁ r₂ => by
  cases r₁; cases r₂; exact wp_end (P.add_int ⟨fun _ _ e => e, rfl, rfl, fun _ => .int _ _⟩)
theorem BinR.sub {a b : Int} : BinR c .Sub (.int a) (.int b) (.int (a - b)) := fun A V s v₁ v₂ _ _ r₁ r₂ => by
  cases r₁; cases r₂; exact wp_end (P.sub_int ⟨fun _ _ e => e, rfl, rfl, fun _ => .int _ _⟩)
theorem BinR.fdiv {a b : Int} (hb : b ≠ 0) (hs : b.natAbs < 1073741824) : BinR c .FloorDiv (.int a) (.int b) (.int (a.fdiv b)) := fun A V s v₁ v₂ _ _ r₁ r₂ => by
  cases r₁; cases r₂; exact wp_end (floordiv_int hb ⟨fun _ _ e => e, rfl, rfl, fun _ => .int _ _⟩ (.inl (PyProof.noPylong_small hs)))
theorem BinR.fmod {a b : Int} (hb : b ≠ 0) : BinR c .Mod (.int a) (.int b) (.int (a.fmod b)) := fun A V s v₁ v₂ hA _ r₁ r₂ => by
  cases r₁; cases r₂; exact wp_end (mod_int_or hA.handled (fun h => absurd h hb) fun _ => ⟨fun _ _ e => e, rfl, rfl, fun _ => .int _ _⟩)
theorem BinR.pow {a b : Int} (hn : 0 ≤ b) (hs : (Builtin.Int.intBits a : Int) * b ≤ 2 ^ 27) : BinR c .Pow (.int a) (.int b) (.int (a ^ b.toNat)) := fun A V s v₁ v₂ hA _ r₁ r₂ => by
  cases r₁; cases r₂; exact wp_end (pow_int hn hs ⟨fun _ _ e => e, rfl, rfl, fun _ => .int _ _⟩)
theorem InpR.add {a b : Int} : InpR c .Add (.int a) (.int b) (.int (a + b)) := fun A V s v₁ v₂ _ _ r₁ r₂ => by
  cases r₁; cases r₂; exact wp_end (P.iadd_int ⟨fun _ _ e => e, rfl, rfl, fun _ => .int _ _⟩)
theorem CmpR.eqI {a b : Int} : CmpR c .Eq (.int a) (.int b) (decide (a = b)) := fun A V s v₁ v₂ _ _ r₁ r₂ => by
  cases r₁; cases r₂; exact P.eq_int ⟨.refl s, by by_cases h : a = b <;> simp [h]⟩
theorem CmpR.neI {a b : Int} : CmpR c .NotEq (.int a) (.int b) (decide (a ≠ b)) := fun A V s v₁ v₂ _ _ r₁ r₂ => by
  cases r₁; cases r₂; exact P.ne_int ⟨.refl s, by by_cases h : a = b <;> simp [h]⟩
theorem CmpR.ltI {a b : Int} : CmpR c .Lt (.int a) (.int b) (decide (a < b)) := fun A V s v₁ v₂ _ _ r₁ r₂ => by
  cases r₁; cases r₂; exact P.lt_int ⟨.refl s, rfl⟩
theorem CmpR.leI {a b : Int} : CmpR c .LtE (.int a) (.int b) (decide (a ≤ b)) := fun A V s v₁ v₂ _ _ r₁ r₂ => by
  cases r₁; cases r₂; exact P.le_int ⟨.refl s, rfl⟩
theorem CmpR.gtI {a b : Int} : CmpR c .Gt (.int a) (.int b) (decide (a > b)) := fun A V s v₁ v₂ _ _ r₁ r₂ => by
  cases r₁; cases r₂; exact P.gt_int ⟨.refl s, rfl⟩
theorem CmpR.geI {a b : Int} : CmpR c .GtE (.int a) (.int b) (decide (a ≥ b)) := fun A V s v₁ v₂ _ _ r₁ r₂ => by
  cases r₁; cases r₂; exact P.ge_int ⟨.refl s, rfl⟩
theorem TruR.int {a : Int} : TruR c (.int a) (a != 0) := fun A V s v _ _ r => by
  cases r; exact P.truthy_int ⟨.refl s, rfl⟩
theorem TruR.bool {b : Bool} : TruR c (.bool b) b := fun A V s v _ _ r => by
  cases r; exact wpAny_truthy_bool ⟨.refl s, rfl⟩

/- texts -/
theorem BinR.cat {a b : List Nat} (hz : a.length + b.length ≤ 16777216) : BinR c .Add (sd a) (sd b) (sd (a ++ b)) := fun A V s v₁ v₂ _ _ r₁ r₂ => by
  cases r₁ with
  | str _ t => cases r₂ with
    | str _ u =>
      refine wp_end (P.add_str ?_)
      have e : S a ++ S b = S (a ++ b) := S_append a b
      by_cases h1 : ((S a).length == 0) = true
      · rw [if_pos h1]
        have : S b = S (a ++ b) := by rw [← e, Str.append_left_empty h1]
        exact ⟨fun _ _ e => e, rfl, rfl, fun _ => this ▸ .str _ _⟩
      · rw [if_neg h1]
        by_cases h2 : ((S b).length == 0) = true
        · rw [if_pos h2]
          have : S a = S (a ++ b) := by rw [← e, Str.append_right_empty h2]
          exact ⟨fun _ _ e => e, rfl, rfl, fun _ => this ▸ .str _ _⟩
        · rw [if_neg h2, e]
          exact ⟨by rw [S_length, List.length_append, sizeLine_eq]; exact hz, fun _ _ e => e, rfl, rfl, fun _ => .str _ _⟩
theorem InpR.cat {a b : List Nat} (hz : a.length + b.length ≤ 16777216) : InpR c .Add (sd a) (sd b) (sd (a ++ b)) := fun A V s v₁ v₂ _ _ r₁ r₂ => by
  cases r₁ with
  | str _ t => cases r₂ with
    | str _ u =>
      refine wp_end (P.iadd_str ?_)
      have e : S a ++ S b = S (a ++ b) := S_append a b
      by_cases h1 : ((S a).length == 0) = true
      · rw [if_pos h1]
        have : S b = S (a ++ b) := by rw [← e, Str.append_left_empty h1]
        exact ⟨fun _ _ e => e, rfl, rfl, fun _ => this ▸ .str _ _⟩
      · rw [if_neg h1]
        by_cases h2 : ((S b).length == 0) = true
        · rw [if_pos h2]
          have : S a = S (a ++ b) := by rw [← e, Str.append_right_empty h2]
          exact ⟨fun _ _ e => e, rfl, rfl, fun _ => this ▸ .str _ _⟩
        · rw [if_neg h2, e]
          exact ⟨by rw [S_length, List.length_append, sizeLine_eq]; exact hz, fun _ _ e => e, rfl, rfl, fun _ => .str _ _⟩
theorem CmpR.eqS {a b : List Nat} : CmpR c .Eq (sd a) (sd b) (decide (a = b)) := fun A V s v₁ v₂ _ _ r₁ r₂ => by
  cases r₁; cases r₂; exact P.eq_str ⟨.refl s, by by_cases h : a = b <;> simp [h]⟩
theorem CmpR.neS {a b : List Nat} : CmpR c .NotEq (sd a) (sd b) (decide (a ≠ b)) := fun A V s v₁ v₂ _ _ r₁ r₂ => by
  cases r₁; cases r₂; exact P.ne_str ⟨.refl s, by by_cases h : a = b <;> simp [h]⟩
theorem CmpR.inS {a : Nat} {y b : List Nat} (hy : y = [a]) : CmpR c .In (sd y) (sd b) (decide (a ∈ b)) := fun A V s v₁ v₂ _ _ r₁ r₂ => by
  subst hy; cases r₁; cases r₂; exact P.in_str ⟨.refl s, by rw [StrLaws.found_one]⟩
theorem CmpR.ninS {a : Nat} {y b : List Nat} (hy : y = [a]) : CmpR c .NotIn (sd y) (sd b) (decide (a ∉ b)) := fun A V s v₁ v₂ _ _ r₁ r₂ => by
  subst hy; cases r₁; cases r₂; exact P.notIn_str ⟨.refl s, by rw [StrLaws.found_one]; simp⟩

theorem FnR.lenS {a : List Nat} (h : a.length ≤ 16777216) : FnR c n (.builtin "len") [sd a] (.int a.length) := .mk fun A V s vs _ _ r => by
  cases r with
  | cons r rs => cases rs; cases r; refine wp_end (P.len_str (by rw [S_length]; omega) ⟨fun _ _ e => e, rfl, rfl, fun _ => ?_⟩); rw [S_length]; exact .int _ _
theorem FnR.chr {i : Int} (h0 : 0 ≤ i) (h1 : i ≤ 1114111) : FnR c n (.builtin "chr") [.int i] (sd [i.toNat]) := .mk fun A V s vs _ _ r => by
  cases r with
  | cons r rs => cases rs; cases r; exact wp_end (chr_of_range h0 h1 ⟨fun _ _ e => e, rfl, rfl, fun _ => .str _ _⟩)

/- items -/
theorem ItemR.list {ds : List D} {i : Int} {d : D} (h0 : 0 ≤ i) (hd : ds[i.toNat]? = some d) (hi : i < 2 ^ 63 := by omega) : ItemR c (.list ds) (.int i) d := fun A V s v₁ v₂ _ _ r₁ r₂ => by
  cases r₂
  cases r₁ with
  | list na ho hcl hdc hdt r =>
    obtain ⟨v, hv, rv⟩ := r.get hd
    exact wpAny_getItem_list ⟨_, ho, hcl, _, hdt⟩ h0 hi (by simpa using hv) ⟨.refl s, rv⟩
theorem ItemR.tuple {ds : List D} {i : Int} {j : Nat} {d : D} (hj : seqIndex? i ds.length = some j) (hd : ds[j]? = some d) (hlo : -(2 ^ 63) ≤ i := by omega) (hi : i < 2 ^ 63 := by omega) : ItemR c (.tuple ds) (.int i) d := fun A V s v₁ v₂ _ _ r₁ r₂ => by
  cases r₂
  cases r₁ with
  | tuple na ho hcl hdc hdt r =>
    obtain ⟨v, hv, rv⟩ := r.get hd
    have hl := r.length
    exact getItem_tuple ⟨_, ho, hcl, _, hdt⟩ hlo hi (by rw [← hj, hl]; simp) (by simpa using hv) ⟨.refl s, rv⟩
theorem ItemR.str {a : List Nat} {i : Int} {q : Nat} (h0 : 0 ≤ i) (hd : a[i.toNat]? = some q) (hi : i < 2 ^ 63 := by omega) : ItemR c (sd a) (.int i) (sd [q]) := fun A V s v₁ v₂ _ _ r₁ r₂ => by
  cases r₂
  cases r₁
  refine wp_end (P.getItem_str (c := q) ?_ (StrLaws.at_nonneg h0 (by simpa using hd)) ⟨fun _ _ e => e, rfl, rfl, fun _ => .str _ _⟩)
  have h1 : ¬ i < -(2 ^ 63 : Int) := by omega
  have h2 : ¬ i ≥ 2 ^ 63 := by omega
  rw [decide_eq_false h1, decide_eq_false h2]; rfl

theorem Ev.subL {value slice : Expr} {pos : Pos} {ds : List D} {i : Int} {d : D} (h1 : Ev c n sc k ρ value (.list ds)) (h2 : Ev c n sc k ρ slice (.int i)) (h : ItemR c (.list ds) (.int i) d)
    (hs : ∀ o i, subscripted slice false o i = operate [o, i] (getItem o i) := by intro _ _; rfl) : Ev c n sc k ρ (.Subscript value slice pos) d := Ev.sub h1 h2 rfl slot_list_getitem.lookup h hs
theorem Ev.subT {value slice : Expr} {pos : Pos} {ds : List D} {i : Int} {d : D} (h1 : Ev c n sc k ρ value (.tuple ds)) (h2 : Ev c n sc k ρ slice (.int i)) (h : ItemR c (.tuple ds) (.int i) d)
    (hs : ∀ o i, subscripted slice false o i = operate [o, i] (getItem o i) := by intro _ _; rfl) : Ev c n sc k ρ (.Subscript value slice pos) d := Ev.sub h1 h2 rfl slot_tuple_getitem.lookup h hs
theorem Ev.subS {value slice : Expr} {pos : Pos} {a : List Nat} {i : Int} {d : D} (h1 : Ev c n sc k ρ value (sd a)) (h2 : Ev c n sc k ρ slice (.int i)) (h : ItemR c (sd a) (.int i) d)
    (hs : ∀ o i, subscripted slice false o i = operate [o, i] (getItem o i) := by intro _ _; rfl) : Ev c n sc k ρ (.Subscript value slice pos) d := Ev.sub h1 h2 rfl F.slot_str_getitem.lookup h hs

end
end Mine
namespace Mine

/-- every c is spelled z -/
def rep (q : Nat) (z : List Nat) (l : List Nat) : List Nat := l.flatMap fun k => if k = q then z else [k]
theorem rep_append (q : Nat) (z a b : List Nat) : rep q z (a ++ b) = rep q z a ++ rep q z b := by simp [rep]
theorem rep_free (q : Nat) (z : List Nat) : ∀ l : List Nat, q ∉ l → rep q z l = l
  | [], _ => rfl
  | k :: r, h => by
    have h1 : k ≠ q := fun e => h (e ▸ .head _)
    have h2 : q ∉ r := fun e => h (.tail _ e)
    have := rep_free q z r h2
    simp only [rep] at this ⊢
    simp [h1, this]
theorem rep_one (q : Nat) (z : List Nat) : rep q z [q] = z := by simp [rep]
theorem rep_join (q : Nat) (z : List Nat) : ∀ parts : List Str, (∀ p ∈ parts, q ∉ p.cps.toList) → rep q z (Str.join ⟨#[q]⟩ parts).cps.toList = (Str.join (S z) parts).cps.toList
  | [], _ => rfl
  | [x], h => rep_free q z _ (h x (.head _))
  | x :: y :: r, h => by
    show rep q z (x ++ ⟨#[q]⟩ ++ Str.join ⟨#[q]⟩ (y :: r)).cps.toList = (x ++ S z ++ Str.join (S z) (y :: r)).cps.toList
    simp only [Str.cps_append, Array.toList_append, rep_append]
    rw [rep_join q z (y :: r) fun p hp => h p (.tail _ hp), rep_free q z _ (h x (.head _)), rep_one]
theorem replace_S (q : Nat) (z l : List Nat) : Txt.replace (S l) ⟨#[q]⟩ (S z) = S (rep q z l) := by
  rw [StrLaws.replace_one]
  have h1 := rep_join q z _ (StrLaws.split_free (S l) q)
  rw [StrLaws.join_split] at h1
  apply StrLaws.mk_of_toList
  rw [← h1]

section
variable {c : Cx} {n : Nat} {sc : Scope} {k : Bool} {ρ : Sto}

/-- a place's bound -/
def clip (n : Nat) (i : Option Int) (d : Nat) : Nat := i.elim d (clipAt n)
def cut {α : Type} (l : List α) (lo hi : Option Int) : List α := (l.drop (clip l.length lo 0)).take (clip l.length hi l.length - clip l.length lo 0)

structure EvO (c : Cx) (n : Nat) (sc : Scope) (k : Bool) (ρ : Sto) (e : Option Expr) (i : Option Int) : Prop where
  run : ∀ A env V0 h0 Cs X s, Room n A → Fm c sc env V0 h0 Cs X ρ s → wpAny c.M A (evalPart e env) (fun v s' => Gr s s' ∧ IsPart v i) NoE s
theorem EvO.none : EvO c n sc k ρ Option.none Option.none := .mk fun A env V0 h0 Cs X s _ _ => wpAny_evalPart_none ⟨.refl s, .none⟩
theorem EvO.some {e : Expr} {i : Int} (h : Ev c n sc k ρ e (.int i)) : EvO c n sc k ρ (Option.some e) (Option.some i) := .mk fun A env V0 h0 Cs X s hA F =>
  wpAny_evalPart_some (wpAny_mono (h.run A env V0 h0 Cs X s hA F) (fun v s' q => ⟨q.1, by obtain ⟨_, r⟩ := q; cases r; exact .int _ _⟩) fun _ _ q => q)

theorem clip_le (n : Nat) (i : Option Int) (d : Nat) (hd : d ≤ n) : clip n i d ≤ n := by
  cases i with
  | none => exact hd
  | some i => have := clipAt_cast n i; show clipAt n i ≤ n; omega
theorem sliceText_cut (l : List Nat) (lo hi : Option Int) : StrLaws.sliceText (S l) lo hi = S (cut l lo hi) := by
  have hlen : (S l).length = l.length := S_length l
  have e : Builtin.Str.strSliceIndices lo hi 1 (S l).length = Builtin.Str.strSliceIndices (some (clip l.length lo 0 : Nat)) (some (clip l.length hi l.length : Nat)) 1 (S l).length := by
    simp only [Builtin.Str.strSliceIndices, hlen, clip]
    cases lo with
    | none => cases hi with
      | none => simp; congr 1; omega
      | some j => simp [clipAt_cast]; congr 1 <;> omega
    | some i => cases hi with
      | none => simp [clipAt_cast]; congr 1 <;> (try split) <;> omega
      | some j => simp [clipAt_cast]; congr 1 <;> omega
  have ha : clip l.length lo 0 ≤ l.length := clip_le _ _ _ (Nat.zero_le _)
  have hb : clip l.length hi l.length ≤ l.length := clip_le _ _ _ (Nat.le_refl _)
  unfold StrLaws.sliceText
  rw [e]
  unfold cut
  generalize clip l.length lo 0 = a at ha
  generalize clip l.length hi l.length = b at hb
  by_cases hab : a ≤ b
  · exact StrLaws.sliceText_nat (S l) hab (hlen ▸ hb)
  · have e0 : Builtin.Str.strSliceIndices (some (a : Int)) (some (b : Int)) 1 (S l).length = [] := by
      have h1 : ¬ ((a : Int) < 0) := by omega
      have h2 : ¬ ((b : Int) < 0) := by omega
      have e1 : max (0 : Int) (min (a : Int) ((S l).length : Int)) = a := by rw [hlen]; omega
      have e2 : max (0 : Int) (min (b : Int) ((S l).length : Int)) = b := by rw [hlen]; omega
      have h3 : ¬ ((a : Int) < b) := by omega
      simp only [Builtin.Str.strSliceIndices, sliceRange, h1, h2, if_false, e1, e2, show ((1 : Int) > 0) = True from by simp, if_true, h3]
      rfl
    rw [e0, show b - a = 0 by omega, List.take_zero]
    split
    · rename_i h
      have : 0 = l.length := by simpa [hlen] using h
      rw [List.length_eq_zero_iff.mp this.symm]
    · rfl

theorem Txt_slice_cut (l : List Nat) (t : Tok) (pl pu : Option (Int × Tok)) {Q : Value → Shared → Prop} {s : Shared} (hz : l.length ≤ 16777216)
    (h : ∀ t' k, Q (.str (S (cut l (pl.map (·.1)) (pu.map (·.1)))) t') { s with toks := k }) : (sliceMade (S l) t pl pu none).post Q s := by
  have e := sliceText_cut l (pl.map (·.1)) (pu.map (·.1))
  unfold sliceMade slicePicked
  unfold StrLaws.sliceText at e
  refine post_val_or_str ⟨?_, fun t' k => ?_⟩
  · show (if _ then _ else _ : Str).length ≤ _
    have e' : (if (((none : Option (Int × Tok)).map (·.1)).getD 1 == 1 && (Builtin.Str.strSliceIndices (pl.map (·.1)) (pu.map (·.1)) (((none : Option (Int × Tok)).map (·.1)).getD 1) (S l).length).length == (S l).length) = true then S l
       else ⟨((Builtin.Str.strSliceIndices (pl.map (·.1)) (pu.map (·.1)) (((none : Option (Int × Tok)).map (·.1)).getD 1) (S l).length).filterMap ((S l).cps[·]?)).toArray⟩) = S (cut l (pl.map (·.1)) (pu.map (·.1))) := e
    rw [e', S_length, sizeLine_eq]
    unfold cut
    have := List.length_take_le (clip l.length (pu.map (·.1)) l.length - clip l.length (pl.map (·.1)) 0) (l.drop (clip l.length (pl.map (·.1)) 0))
    have h2 : (l.drop (clip l.length (pl.map (·.1)) 0)).length ≤ l.length := by simp
    have h3 := List.length_take (l := l.drop (clip l.length (pl.map (·.1)) 0)) (i := clip l.length (pu.map (·.1)) l.length - clip l.length (pl.map (·.1)) 0)
    omega
  · have h1 := h t' k
    rw [← e] at h1
    exact h1

theorem isPart_pair {v : Value} {i : Option Int} (h : IsPart v i) : ∃ p : Option (Int × Tok), v = partValue p ∧ p.map (·.1) = i := by
  cases h with
  | none => exact ⟨none, rfl, rfl⟩
  | int i t => exact ⟨some (i, t), rfl, rfl⟩

theorem Ev.sliceS {value : Expr} {lower upper : Option Expr} {p pos : Pos} {l : List Nat} {lo hi : Option Int} (h1 : Ev c n sc k ρ value (sd l)) (h2 : EvO c n sc k ρ lower lo) (h3 : EvO c n sc k ρ upper hi) (hz : l.length ≤ 16777216) :
    Ev c n sc k ρ (.Subscript value (.Slice lower upper Option.none p) pos) (sd (cut l lo hi)) := .mk fun A env V0 h0 Cs X s hA F => by
  refine Subscript_ (wpAny_mono (h1.run A env V0 h0 Cs X s hA F) (fun o s₁ q₁ => wpAny_Slice (wpAny_mono (h2.run A env V0 h0 Cs X s₁ hA (F.gr q₁.1)) (fun vl s₂ q₂ => wpAny_mono (h3.run A env V0 h0 Cs X s₂ hA ((F.gr q₁.1).gr q₂.1)) (fun vu s₃ q₃ => ?_) fun _ _ q => q) fun _ _ q => q)) fun _ _ q => q)
  refine wpAny_evalPart_none ?_
  obtain ⟨g₁, r⟩ := q₁
  cases r with
  | str _ t =>
    obtain ⟨pl, rfl, epl⟩ := isPart_pair q₂.2
    obtain ⟨pu, rfl, epu⟩ := isPart_pair q₃.2
    subst epl epu
    have g : Gr s { s₃ with heap := s₃.heap.push { cls := .type "slice", data := .fields #[partValue pl, partValue pu, .none] } } := ((g₁.trans q₂.1).trans q₃.1).trans (.push _)
    refine tail_any (typeIs_str _ _ t) PySem.F.slot_str_getitem.lookup (wp_gr g (wp_end (wpAny_getItem_str_slice (l := pl) (u := pu) (st := Option.none) ⟨_, Heap.get?_push_size _ rfl, rfl, rfl⟩ rfl
      (Txt_slice_cut l t pl pu hz fun t' k => ⟨fun _ _ e => e, rfl, rfl, fun _ => .str _ _⟩)))) (ops := [_, _]) rfl

theorem Ev.sliceL {value : Expr} {lower upper : Option Expr} {p pos : Pos} {ds : List D} {lo hi : Option Int} (h1 : Ev c n sc k ρ value (.list ds)) (h2 : EvO c n sc k ρ lower lo) (h3 : EvO c n sc k ρ upper hi) (hz : ds.length ≤ 16777216) :
    Ev c n sc k ρ (.Subscript value (.Slice lower upper Option.none p) pos) (.list (cut ds lo hi)) := .mk fun A env V0 h0 Cs X s hA F => by
  refine Subscript_ (wpAny_mono (h1.run A env V0 h0 Cs X s hA F) (fun o s₁ q₁ => wpAny_Slice (wpAny_mono (h2.run A env V0 h0 Cs X s₁ hA (F.gr q₁.1)) (fun vl s₂ q₂ => wpAny_mono (h3.run A env V0 h0 Cs X s₂ hA ((F.gr q₁.1).gr q₂.1)) (fun vu s₃ q₃ => ?_) fun _ _ q => q) fun _ _ q => q)) fun _ _ q => q)
  refine wpAny_evalPart_none ?_
  obtain ⟨g₁, r⟩ := q₁
  have g3 := (g₁.trans q₂.1).trans q₃.1
  have r3 := r.gr (q₂.1.trans q₃.1)
  have g : Gr s { s₃ with heap := s₃.heap.push { cls := .type "slice", data := .fields #[vl, vu, .none] } } := g3.trans (.push _)
  have r4 := r3.gr (Gr.push (s := s₃) { cls := .type "slice", data := .fields #[vl, vu, .none] })
  have hst := (F.st k).gr g
  cases r4 with
  | @list a o' vs nn _ na ho hcl hd hdt r4 =>
    have hlen := r4.length
    have hsz : vs.size = ds.length := by rw [hlen]; simp
    refine tail_any (Heap.IsList.typeIs ⟨o', ho, hcl, nn, hdt⟩) slot_list_getitem.lookup (wp_gr g (wpAny_getItem_list_slice ⟨o', ho, hcl, nn, hdt⟩ (Heap.IsSliceOf.new ..) q₂.2 q₃.2 .none (by simp)
      ⟨.push _, .list (fun q' => ?_) (Heap.get?_push_size _ rfl) rfl ⟨rfl, rfl⟩ rfl ?_⟩ (by rw [hsz, sizeLine_eq]; exact hz))) (ops := [_, _]) rfl
    · obtain ⟨o, e⟩ := hst.live _ q'
      exact absurd (Heap.lt_size e) (Nat.lt_irrefl _)
    · rw [slicePick_plain]
      have e : cut ds lo hi = (ds.drop (lo.elim 0 (clipAt vs.size))).take (hi.elim vs.size (clipAt vs.size) - lo.elim 0 (clipAt vs.size)) := by
        unfold cut clip
        rw [hsz]
      rw [e]
      simpa using ((r4.drop _).take _).gr (.push _)

theorem BinR.catL {ds es : List D} (hz : ds.length + es.length ≤ 16777216) : BinR c .Add (.list ds) (.list es) (.list (ds ++ es)) := fun A V s v₁ v₂ _ hS r₁ r₂ => by
  cases r₁ with
  | @list a o vs nn _ na ho hcl hd hdt r₁ => cases r₂ with
    | @list b o2 ws nn2 _ na2 ho2 hcl2 hd2 hdt2 r₂ =>
      obtain ⟨cls, dd, data, sl⟩ := o
      obtain ⟨cls2, dd2, data2, sl2⟩ := o2
      simp only at hcl hdt hcl2 hdt2
      subst hcl hdt hcl2 hdt2
      have l1 := r₁.length
      have l2 := r₂.length
      simp only [Array.length_toList] at l1 l2
      refine concat_meets ⟨_, ho, rfl⟩ ⟨_, ho2, rfl⟩ noFill_list_add seq_list_add PySem.F.slot_list_add PySem.F.entry_list_add (PySem.F.args_list_add_2 _ _)
        (list_addW a b vs ws nn nn2 dd dd2 sl sl2 (by rw [sizeLine_eq]; omega)) ⟨ho, ho2, .push _, .list (fun q' => ?_) (Heap.get?_push_size _ rfl) rfl ⟨rfl, rfl⟩ rfl ?_⟩
      · obtain ⟨o, e⟩ := hS.live _ q'
        exact absurd (Heap.lt_size e) (Nat.lt_irrefl _)
      · simpa using (r₁.append r₂).gr (.push _)

theorem FnR.min2 {a b : Int} : FnR c n (.builtin "min") [.int a, .int b] (.int (min a b)) := .mk fun A V s vs hA _ r => by
  cases r with
  | cons r rs => cases rs with
    | cons r' rs => cases rs; cases r; cases r'
                    refine wp_end (min_two_ints hA.handled fun h' tk hk => ⟨hk, rfl, rfl, fun _ => ?_⟩)
                    by_cases h : b < a
                    · rw [if_pos h, show min a b = b by omega]; exact .int _ _
                    · rw [if_neg h, show min a b = a by omega]; exact .int _ _
theorem FnR.max2 {a b : Int} : FnR c n (.builtin "max") [.int a, .int b] (.int (max a b)) := .mk fun A V s vs hA _ r => by
  cases r with
  | cons r rs => cases rs with
    | cons r' rs => cases rs; cases r; cases r'
                    refine wp_end (max_two_ints hA.handled fun h' tk hk => ⟨hk, rfl, rfl, fun _ => ?_⟩)
                    by_cases h : b > a
                    · rw [if_pos h, show max a b = b by omega]; exact .int _ _
                    · rw [if_neg h, show max a b = a by omega]; exact .int _ _

theorem RepL.ints {V s} : ∀ {ns : List Int} {vs : List Value}, RepL c V s (ns.map D.int) vs → IntsAre vs ns
  | [], _, .nil => .nil
  | n :: r, _, .cons (.int _ t) rs => .cons n t rs.ints

theorem FnR.maxL {ns : List Int} {m : Int} (hm : m ∈ ns) (hmax : ∀ a ∈ ns, a ≤ m) : FnR c n (.builtin "max") [.list (ns.map D.int)] (.int m) := .mk fun A V s vs hA _ r => by
  cases r with
  | cons r rs => cases rs; cases r with
    | @list a o vs nn _ na ho hcl hd hdt r =>
      have hi := r.ints
      obtain ⟨xs, e⟩ := hi.allInts.items
      have hns : ns = xs.toList.map (·.1) := by
        rw [← hi.numsOf, ← nums_intItems, ← e]
      have hne : 0 < ns.length := List.length_pos_of_mem hm
      have hsz : 0 < xs.size := by
        have h3 := hne; rw [hns, List.length_map, Array.length_toList] at h3; exact h3
      have hl : s.heap.IsList a (intItems xs) := ⟨o, ho, hcl, nn, by rw [hdt, ← e]⟩
      refine wp_end (max_intList hA.handled hl hsz fun v h' tk hv hk => ⟨hk, rfl, rfl, fun _ => ?_⟩)
      obtain ⟨t, rfl⟩ := intItems_at hv
      obtain ⟨h1, h2⟩ := argBest_gt (numAt xs) (xs.size - 1)
      have h3 : numAt xs (argBest (fun i j => decide (numAt xs i > numAt xs j)) (xs.size - 1)) = m := by
        refine Int.le_antisymm (hmax _ ?_) ?_
        · rw [hns, numAt_eq]; exact getD_mem (by rw [List.length_map, Array.length_toList]; omega)
        · rw [hns] at hm
          obtain ⟨j, hj, rfl⟩ := mem_getD hm
          rw [List.length_map, Array.length_toList] at hj
          rw [← numAt_eq]; exact h2 j (by omega)
      rw [h3]; exact .int _ _

/-- text.replace with both texts written -/
theorem Ev.replace {o : Expr} {x z : String} {k1 k2 : Nat} {p1 p2 apos pos : Pos} {l : List Nat} {q : Nat} (h : Ev c n sc k ρ o (sd l)) (hq : cs x = [q]) (hxz : x ≠ z) (hz : l.length + (l.length + 1) * (cs z).length ≤ 16777216)
    (hline : (apos.endLine == pos.line) = true := by rfl) (hbase : ∀ env : Env, attributeBase o (Str.ofString "replace") env (eval o env) = eval o env := by intro _; rfl) :
    Ev c n sc k ρ (.Call (.Attribute o (Str.ofString "replace") apos) [.Constant (.str (Str.ofString x)) k1 p1, .Constant (.str (Str.ofString z)) k2 p2] [] pos) (sd (rep q (cs z) l)) := .mk fun A env V0 h0 Cs X s hA F => by
  refine wpAny_Call_method (hbase env) rfl hline PySem.F.plainAttrs_str PySem.F.slot_str_replace PySem.F.type_str_replace (wpAny_mono (h.run A env V0 h0 Cs X s hA F) (fun v s₁ q₁ => ?_) fun _ _ q => q)
  obtain ⟨g₁, r⟩ := q₁
  cases r with
  | str _ t =>
    refine ⟨typeIs_str _ _ _, (fun _ e => nomatch e), (Callee.builtin (c := c) "str.replace").wp rfl ?_⟩
    have ht : s₁.toks ≠ 0 := (F.gr g₁).tok
    refine wpAny_items_cons (wpAny_Constant_str (wpAny_items_cons (wpAny_Constant_str (wpAny_items_nil ⟨((F.gr g₁).base.trans (F.gr g₁).keep), ?_⟩))))
    have g2 : Gr s { s₁ with toks := s₁.toks + 1 + 1 } := g₁.trans (Gr.toks (by omega))
    refine wp_gr g2 (wp_end (SC.replace (s := { s₁ with toks := s₁.toks + 1 + 1 }) ht (Nat.succ_ne_zero _) (Nat.ne_of_lt (Nat.lt_succ_self _)) (ofString_ne hxz) ?_ fun t' k => ⟨fun _ _ e => e, rfl, rfl, fun _ => ?_⟩))
    · rw [ofString_S z, S_length, S_length]; exact hz
    · have e : Txt.replace (S l) (Str.ofString x) (Str.ofString z) = S (rep q (cs z) l) := by
        rw [ofString_S x, ofString_S z, hq]; exact replace_S q (cs z) l
      rw [e]; exact .str _ _

end
end Mine
namespace Mine

section
variable {c : Cx} {n : Nat} {sc : Scope} {k : Bool} {ρ : Sto}

theorem isStrOf_iff (c : Cx) {x : Str} {v : Value} : Value.isStrOf x v = true ↔ ∃ t, v = .str x t := by
  constructor
  · exact Value.isStrOf_shape
  · rintro ⟨t, rfl⟩; exact strKind_is c.prog c.w x t

theorem Fm.addV {env V0 h0 Cs X s s'} {a : Addr} (F : Fm c sc env V0 h0 Cs X ρ s) (hn : s.heap.get? a = none) (g : Gr s s') (hl : ∃ o, s'.heap.get? a = some o) : Fm c sc env (fun b => V0 b ∨ b = a) h0 Cs X ρ s' := by
  have F' := F.gr g
  refine ⟨F'.good, F'.scope, F'.kind, F'.globals, F'.builtins, F'.base, F'.keep, F'.tok, fun b q => ?_, F'.ccells, F'.new, F'.cells, F'.cinj, ?_⟩
  · rcases q with q | rfl
    · exact F'.live0 b q
    · refine ⟨hl, fun q => ?_⟩
      obtain ⟨_, _, _, _, _, h4, _, _⟩ := F.sto
      obtain ⟨o, e⟩ := h4 _ q
      rw [hn] at e; cases e
  · obtain ⟨m, fps, h1, h2, h3, h4, h6, h5⟩ := F.sto
    obtain ⟨_, _, _, _, _, h4', h6', _⟩ := F'.sto
    exact ⟨m, fps, h1.keeps g.keep, h2, h3, h4', h6', ((h5.ext (W := fun b => b = a) fun b q => q ▸ hn).gr g).weak fun b q => by
      rcases q with (q | q) | q
      · exact .inl (.inl q)
      · exact .inr q
      · exact .inl (.inr q)⟩

theorem RepD.find {V s} (x : List Nat) : ∀ {kvs : List (List Nat × D)} {es : List DictEntry}, RepD c V s kvs es →
    match kvs.lookup x with
    | some d => ∃ v, (es.find? fun e => Value.isStrOf (S x) e.key).map (·.val) = some v ∧ Rep c V s d v
    | none => (es.find? fun e => Value.isStrOf (S x) e.key).map (·.val) = none
  | _, _, .nil => rfl
  | _, _, .cons (k := y) (d := d) (t := t) (e := e) (kvs := kvs) (es := es) hk hh r rs => by
    have ih := rs.find x
    rw [List.lookup_cons]
    by_cases hy : x = y
    · subst hy
      simp only [beq_self_eq_true]
      refine ⟨e.val, ?_, r⟩
      have : Value.isStrOf (S x) e.key = true := (isStrOf_iff c).mpr ⟨t, hk⟩
      rw [List.find?_cons_of_pos (by simpa using this)]; rfl
    · have hb : (x == y) = false := by simpa using hy
      rw [hb]
      have : ¬ Value.isStrOf (S x) e.key = true := fun q => by
        obtain ⟨t', e'⟩ := (isStrOf_iff c).mp q
        rw [hk] at e'; injection e' with e'
        exact hy (S_inj e').symm
      rw [List.find?_cons_of_neg (by simpa using this)]
      exact ih
theorem RepD.keys {V s} : ∀ {kvs : List (List Nat × D)} {es : List DictEntry}, RepD c V s kvs es → ∀ e ∈ es, ∃ k, (strKind c.prog c.w).is k e.key = true ∧ e.hash = (strKind c.prog c.w).hash k
  | _, _, .nil, e, he => by cases he
  | _, _, .cons (k := y) (t := t) hk hh r rs, e, he => by
    rcases List.mem_cons.mp he with rfl | he
    · exact ⟨S y, by rw [hk]; exact strKind_is c.prog c.w _ _, hh⟩
    · exact rs.keys e he

theorem Rep.map {V s kvs a} (r : Rep c V s (.dict kvs) (.ref a)) : ∃ f, s.heap.MapOf (strKind c.prog c.w) a f ∧ (a == sysModules) = false ∧
    ∀ x : List Nat, match kvs.lookup x with | Option.some d => ∃ v, f (S x) = some v ∧ Rep c V s d v | Option.none => f (S x) = Option.none := by
  cases r with
  | @dict _ o es nn _ na hsm ho hx hdt r =>
    refine ⟨_, ⟨o, es, nn, ho, hx, hdt, fun e he => r.keys e (Array.mem_toList_iff.mpr he), fun _ => rfl⟩, hsm, fun x => ?_⟩
    have h := r.find x
    have e : findBy (strKind c.prog c.w).is es (S x) = (es.toList.find? fun e => Value.isStrOf (S x) e.key).map (·.val) := by
      obtain ⟨l⟩ := es
      unfold findBy
      rw [List.find?_toArray]; rfl
    rw [e]; exact h

theorem ItemR.dict {kvs : List (List Nat × D)} {x : List Nat} {d : D} (h : kvs.lookup x = some d) : ItemR c (.dict kvs) (sd x) d := fun A V s v₁ v₂ _ _ r₁ r₂ => by
  cases r₂ with
  | str _ t =>
    cases v₁ with
    | ref a =>
      obtain ⟨f, hm, hsm, hf⟩ := r₁.map
      have := hf x
      rw [h] at this
      obtain ⟨v, hv, rv⟩ := this
      exact wp_end (wpAny_getItem_of (strKind_is c.prog c.w _ t) hm hv ⟨fun _ _ e => e, rfl, rfl, fun ht => rv.gr (Gr.toks ht)⟩)
    | _ => cases r₁
theorem CmpR.inD {kvs : List (List Nat × D)} {x : List Nat} : CmpR c .In (sd x) (.dict kvs) (kvs.lookup x).isSome := fun A V s v₁ v₂ _ _ r₁ r₂ => by
  cases r₁ with
  | str _ t =>
    cases v₂ with
    | ref a =>
      obtain ⟨f, hm, hsm, hf⟩ := r₂.map
      have := hf x
      refine wp_end (wpAny_in_of (strKind_is c.prog c.w _ t) hsm hm ⟨fun _ _ e => e, rfl, rfl, fun _ => ?_⟩)
      cases h : kvs.lookup x with
      | some d => rw [h] at this; obtain ⟨v, hv, _⟩ := this; rw [hv]; rfl
      | none => rw [h] at this; rw [this]; rfl
    | _ => cases r₂
theorem CmpR.ninD {kvs : List (List Nat × D)} {x : List Nat} : CmpR c .NotIn (sd x) (.dict kvs) (kvs.lookup x).isNone := fun A V s v₁ v₂ _ _ r₁ r₂ => by
  cases r₁ with
  | str _ t =>
    cases v₂ with
    | ref a =>
      obtain ⟨f, hm, hsm, hf⟩ := r₂.map
      have := hf x
      refine wp_end (wpAny_notIn_of (strKind_is c.prog c.w _ t) hsm hm ⟨fun _ _ e => e, rfl, rfl, fun _ => ?_⟩)
      cases h : kvs.lookup x with
      | some d => rw [h] at this; obtain ⟨v, hv, _⟩ := this; rw [hv]; rfl
      | none => rw [h] at this; rw [this]; rfl
    | _ => cases r₂
theorem Ev.subD {value slice : Expr} {pos : Pos} {kvs : List (List Nat × D)} {x : List Nat} {d : D} (h1 : Ev c n sc k ρ value (.dict kvs)) (h2 : Ev c n sc k ρ slice (sd x)) (h : kvs.lookup x = some d)
    (hs : ∀ o i, subscripted slice false o i = operate [o, i] (getItem o i) := by intro _ _; rfl) : Ev c n sc k ρ (.Subscript value slice pos) d := Ev.sub h1 h2 rfl slot_dict_getitem.lookup (ItemR.dict h) hs

/- a display of a table with written keys -/
inductive EvP (c : Cx) (n : Nat) (sc : Scope) (k : Bool) (ρ : Sto) : List (Option Expr) → List Expr → List (List Nat × D) → Prop
  | nil : EvP c n sc k ρ [] [] []
  | cons {ke ve x d ks vs kvs} : Ev c n sc k ρ ke (sd x) → Ev c n sc k ρ ve d → EvP c n sc k ρ ks vs kvs → EvP c n sc k ρ (some ke :: ks) (ve :: vs) ((x, d) :: kvs)

end

section
variable {c : Cx} {n : Nat} {sc : Scope} {k : Bool} {ρ : Sto}

/-- the trees of the pairs -/
def pairTrees (pos : Pos) (env : Env) : List (Option Expr) → List Expr → List (Sem Value × Sem Value)
  | some ke :: ks, ve :: vs => (eval ke env, do let x ← eval ve env; standAt pos; pure x) :: pairTrees pos env ks vs
  | _, _ => []

theorem EvP.shape {ks vs kvs} (h : EvP c n sc k ρ ks vs kvs) (pos : Pos) (env : Env) :
    (evalEachOpt ks env).zip ((evalEach vs env).map fun v => do let x ← v; standAt pos; pure x) = (pairTrees pos env ks vs).map (fun p => (some p.1, p.2)) ∧ (pairTrees pos env ks vs).length = kvs.length := by
  induction h with
  | nil => exact ⟨rfl, rfl⟩
  | cons _ _ _ ih =>
    refine ⟨?_, by simp [pairTrees, ih.2]⟩
    simp only [pairTrees, List.map_cons]
    rw [← ih.1]
    rfl

theorem EvP.wp {ks vs kvs} (h : EvP c n sc k ρ ks vs kvs) : ∀ {A env V0 h0 Cs X s} (pos : Pos), Room n A → Fm c sc env V0 h0 Cs X ρ s →
    wpAny c.M A (evalPairs (pairTrees pos env ks vs)) (fun ps s' => Gr s s' ∧ ∃ kvv : List (Str × Value), Carries (strKind c.prog c.w) ps kvv ∧ kvv.map (·.1) = kvs.map (fun p => S p.1) ∧ RepL c (VK k V0 X) s' (kvs.map (·.2)) (kvv.map (·.2))) NoE s := by
  induction h with
  | nil => intro A env V0 h0 Cs X s pos _ _; exact evalPairs_nil ⟨.refl s, [], trivial, rfl, .nil⟩
  | cons h1 h2 _ ih =>
    intro A env V0 h0 Cs X s pos hA F
    refine evalPairs_cons (wpAny_mono (h1.run A env V0 h0 Cs X s hA F) (fun kv s₁ q₁ => ?_) fun _ _ q => q)
    refine wpAny_bind (wpAny_mono (h2.run A env V0 h0 Cs X s₁ hA (F.gr q₁.1)) (fun vv s₂ q₂ => wpAny_bind (wpAny_standAt (wpAny_pure ?_))) fun _ _ q => q)
    refine wpAny_mono (ih pos hA ((F.gr q₁.1).gr q₂.1)) (fun ps s₃ q₃ => ?_) fun _ _ q => q
    obtain ⟨g₃, kvv, hc, hk, hr⟩ := q₃
    obtain ⟨g₁, r₁⟩ := q₁
    cases r₁ with
    | str x t => exact ⟨(g₁.trans q₂.1).trans g₃, (S _, vv) :: kvv, ⟨strKind_is c.prog c.w _ t, rfl, hc⟩, by simp [hk], .cons (q₂.2.gr g₃) hr⟩

theorem merged_nodup {kvs : List (Str × Value)} : ∀ (acc : List (Str × Value)), ((acc ++ kvs).map (·.1)).Nodup → merged acc kvs = acc ++ kvs := by
  induction kvs with
  | nil => intro acc _; simp [merged]
  | cons p r ih =>
    intro acc h
    have hst : stored acc p.1 p.2 = acc ++ [p] := by
      unfold stored
      rw [if_neg]
      intro q
      obtain ⟨x, hx, e⟩ := List.any_eq_true.mp q
      have e' : x.1 = p.1 := by simpa using e
      rw [List.map_append, List.nodup_append] at h
      exact h.2.2 x.1 (List.mem_map_of_mem hx) p.1 (by simp) e'
    have := ih (acc ++ [p]) (by simpa using h)
    unfold merged at this ⊢
    rw [List.foldl_cons, hst, this]; simp

theorem repD_of {V s} : ∀ {es : List DictEntry} {kvv : List (Str × Value)} {kvs : List (List Nat × D)}, Pairs (strKind c.prog c.w) es kvv → (∀ e ∈ es, ∃ k, (strKind c.prog c.w).is k e.key = true ∧ e.hash = (strKind c.prog c.w).hash k) →
    kvv.map (·.1) = kvs.map (fun p => S p.1) → RepL c V s (kvs.map (·.2)) (kvv.map (·.2)) → RepD c V s kvs es
  | _, _, [], .nil, _, _, _ => .nil
  | _, _, (x, d) :: kvs, .cons (e := e) hk hv hp, hh, hn, hr => by
    simp only [List.map_cons, List.cons.injEq] at hn
    cases hr with
    | cons r rs =>
      obtain ⟨t, et⟩ := (isStrOf_iff c).mp hk
      obtain ⟨k', hk', hhash⟩ := hh e (.head _)
      obtain ⟨t', et'⟩ := (isStrOf_iff c).mp hk'
      rw [hn.1] at et
      rw [et] at et'
      injection et' with et'
      refine .cons et (by rw [hhash, ← et']; rfl) (hv ▸ r) (repD_of hp (fun e he => hh e (.tail _ he)) hn.2 rs)
  | _, _, [], .cons .., _, hn, _ => nomatch hn
  | _, _, _ :: _, .nil, _, hn, _ => nomatch hn

theorem Ev.dict {ks : List (Option Expr)} {vs : List Expr} {pos : Pos} {kvs : List (List Nat × D)} (h : EvP c n sc true ρ ks vs kvs) (hne : kvs ≠ []) (hlen : kvs.length ≤ 15) (hnd : (kvs.map (·.1)).Nodup) : Ev c n sc k ρ (.Dict ks vs pos) (.dict kvs) :=
  Ev.weak <| .mk fun A env V0 h0 Cs X s hA F => by
    have hsh := h.shape pos env
    refine wpAny_with_toks (Nat.le_refl _) (wpAny_Dict_pairs (knd := strKind c.prog c.w) hsh.1 (fun q => hne (List.length_eq_zero_iff.mp (by rw [← hsh.2, q]; rfl))) (by rw [hsh.2]; exact hlen) ?_)
    have g0 := Gr.push (s := s) { cls := .type "dict", data := .dict #[] }
    have hnone := get_size s.heap
    have hd0 : (s.heap.push { cls := .type "dict", data := .dict #[] }).get? s.heap.objs.size = some { cls := .type "dict", data := .dict #[] } := Heap.get?_push_size _ rfl
    refine wpAny_mono (h.wp pos hA (F.addV hnone g0 ⟨_, hd0⟩)) (fun ps s₁ q => ?_) fun _ _ q => fun _ => q
    obtain ⟨g, kvv, hc, hk, hr⟩ := q
    refine ⟨kvv, hc, ⟨_, #[], 0, g.keep _ _ hd0, ⟨rfl, rfl, rfl⟩, rfl, fun e he => by simp at he, .nil, .nil⟩, fun h' hdo hs' => fun ht => ?_⟩
    have hkeep : Keeps s.heap h' := fun b o e => (hs'.2 b fun q => by rw [q, hnone] at e; cases e).trans (g.keep _ _ (g0.keep _ _ e))
    have hndv : (kvv.map (·.1)).Nodup := by
      rw [hk]
      have : ∀ l : List (List Nat × D), (l.map (·.1)).Nodup → (l.map fun p => S p.1).Nodup := by
        intro l hl
        induction l with
        | nil => exact .nil
        | cons x l ih =>
          rw [List.map_cons, List.nodup_cons] at hl ⊢
          refine ⟨fun q => ?_, ih hl.2⟩
          obtain ⟨y, hy, e⟩ := List.mem_map.mp q
          exact hl.1 (List.mem_map.mpr ⟨y, hy, S_inj e⟩)
      exact this kvs hnd
    rw [merged_nodup [] (by simpa using hndv), List.nil_append] at hdo
    obtain ⟨o, es, ep, ho, hx, hdt, hkeys, hpairs, _⟩ := hdo
    have hlive := ((F.st true).live)
    have hvn : ¬ VK true V0 X s.heap.objs.size := fun q => by obtain ⟨o', e⟩ := hlive _ q; rw [hnone] at e; cases e
    have hsys : (s.heap.objs.size == sysModules) = false := by
      obtain ⟨_, _, _, e, _⟩ := (F.good.g.keeps F.base).keeps F.keep
      have := Heap.lt_size e
      have h3 : (3 : Nat) < s.heap.objs.size := this
      have : s.heap.objs.size ≠ (1 : Nat) := by omega
      simpa [sysModules] using this
    refine ⟨⟨hkeep, ht, g.gens, g.os⟩, .dict hvn hsys ho hx hdt (repD_of hpairs (fun e he => hkeys e (Array.mem_toList_iff.mp he)) hk ?_)⟩
    refine hr.calm ⟨Nat.le_add_right _ _, fun b o nb e _ => (hs'.2 b fun q => nb ⟨rfl, .inl (.inr q)⟩).trans e⟩ fun a q => ⟨rfl, q.2.imp .inl id⟩

/- text.partition -/
def before (q : Nat) (l : List Nat) : List Nat := l.takeWhile (· != q)
def behind (q : Nat) (l : List Nat) : List Nat := (l.dropWhile (· != q)).drop 1
theorem first_at (q : Nat) : ∀ (l : List Nat) (i : Nat), l[i]? = some q → (∀ j, j < i → l[j]? ≠ some q) → l.take i = before q l ∧ l.drop (i + 1) = behind q l
  | [], i, h, _ => by simp at h
  | x :: r, 0, h, _ => by
    have : x = q := by simpa using h
    subst this
    simp [before, behind]
  | x :: r, i + 1, h, hn => by
    have hx : x ≠ q := fun e => hn 0 (Nat.succ_pos _) (by simp [e])
    have ih := first_at q r i (by simpa using h) fun j hj => by simpa using hn (j + 1) (Nat.succ_lt_succ hj)
    simp only [before, behind] at ih ⊢
    have hb : (x != q) = true := by simpa using hx
    rw [List.take_succ_cons, List.drop_succ_cons, ih.1, ih.2]
    simp [List.takeWhile_cons, List.dropWhile_cons, hx]

theorem FnR.partition {l y : List Nat} {q : Nat} (hy : y = [q]) (hq : q ∈ l) (hz : l.length ≤ 16777216) : FnR c n (.builtin "str.partition") [sd l, sd y] (.tuple [sd (before q l), sd y, sd (behind q l)]) := .mk fun A V s vs hA hS r => by
  subst hy
  cases r with
  | cons r rs => cases rs with
    | cons r' rs => cases rs; cases r with
      | str _ t => cases r' with
        | str _ u =>
          refine wp_end (call_meets PySem.F.slot_str_partition (typeIs_str _ _ _) PySem.F.entry_str_partition (PySem.F.args_str_partition_2 _ _) (meets_str_partition (S l) (S [q]) t u rfl (by rw [S_length, sizeLine_eq]; exact hz)) ?_)
          have hnv : ¬ V s.heap.objs.size := fun q => by obtain ⟨o', e⟩ := hS.live _ q; rw [get_size] at e; cases e
          rcases StrLaws.occ_head (S l) (S [q]) 1 (Nat.le_refl _) with ⟨h1, h2⟩ | ⟨i, rr, h1, h2, h3⟩
          · exfalso
            obtain ⟨i, hi⟩ := List.mem_iff_getElem?.mp hq
            exact h2 i ((StrLaws.subAt_one (S l) q i).mpr (by simpa using hi))
          · have hi : l[i]? = some q := by simpa using (StrLaws.subAt_one (S l) q i).mp h2
            have hf := first_at q l i hi fun j hj e => h3 j hj ((StrLaws.subAt_one (S l) q j).mpr (by simpa using e))
            have hlen := (List.getElem?_eq_some_iff.mp hi).1
            have e1 : Builtin.Str.strSub (S l) 0 i = S (before q l) := by
              apply StrLaws.mk_of_toList
              rw [StrLaws.strSub_toList]; simpa using hf.1
            have e2 : Builtin.Str.strSub (S l) (i + (S [q]).length) (S l).length = S (behind q l) := by
              apply StrLaws.mk_of_toList
              rw [StrLaws.strSub_toList, S_length, S_length]
              have : (List.drop (i + [q].length) (S l).cps.toList) = behind q l := by simpa using hf.2
              rw [this]
              refine List.take_of_length_le ?_
              rw [← hf.2]; simp
            have e3 : Builtin.Str.occurrences (S l) (S [q]) 0 (S l).length 1 = i :: rr := h1
            simp only [e3, wants]
            refine ⟨fun _ _ e => Heap.get?_push_of_some _ e, trivial, trivial, fun _ => .tuple hnv (Heap.get?_push_size _ rfl) rfl ⟨rfl, rfl⟩ rfl ?_⟩
            rw [e1, e2]
            exact .cons (.str _ _) (.cons (.str _ _) (.cons (.str _ _) .nil))

end
end Mine
namespace Mine

theorem code_comp {c : Cx} {A : Around} {s : Shared} {R : Result → Shared → Prop} {elt target iter : Expr} {ifs : List Expr} {scope : Scope} {pos : Pos} {it acc : Value} {env : Env} (I : Nat → Shared → Prop)
    (turn : ∀ n s, I n s → wpAny c.M A (pyNext it) (fun r s₁ => match r with
      | none => R (.ok .next) s₁
      | some v => wpAny c.M A (letOwnedTupleGo target it v) (fun _ s₁' => wpAny c.M A (assign target env v) (fun _ s₂ =>
          wpAny c.M A (forIn ifs true fun c r => if r = true then do let ok ← isTrue c env (eval c env); pure (ForInStep.yield ok) else pure (ForInStep.yield r)) (fun ok s₃ =>
            if ok = true then wpAny c.M A (eval elt env) (fun x s₄ => wpAny c.M A (call (.builtin "list.append") [acc, x]) (fun _ s₅ => ∃ m, m < n ∧ I m s₅) NoE s₄) NoE s₃
            else ∃ m, m < n ∧ I m s₃) NoE s₂) NoE s₁') NoE s₁) NoE s)
    (n : Nat) (h : I n s) : codeAny c.M A (.compLoop (.ListComp elt [⟨target, iter, ifs, 0⟩] scope pos) 0 it acc env) R s := by
  refine codeAny_loop rfl I (fun n s hI => ?_) n h
  show wpAny _ A ((compTurn (.ListComp elt [⟨target, iter, ifs, 0⟩] scope pos) 0 it acc env).onRaise (fun x => do noteFrame x env; theTreesLotGoes x)) _ _ s
  refine wpAny_noted ?_
  rw [compTurn_list]
  refine wpAny_bind (wpAny_standAt (wpAny_bind (wpAny_mono (turn n s hI) (fun r s₁ h₁ => ?_) fun _ _ h' => h'.elim)))
  cases r with
  | none => exact wpAny_pure h₁
  | some v =>
    refine wpAny_bind (wpAny_mono h₁ (fun _ s₁' h₁' => ?_) fun _ _ h' => h'.elim)
    refine wpAny_bind (wpAny_mono h₁' (fun _ s₂ h₂ => wpAny_bind (wpAny_mono h₂ (fun ok s₃ h₃ => ?_) fun _ _ h' => h'.elim)) fun _ _ h' => h'.elim)
    cases ok with
    | true =>
      rw [if_pos rfl] at h₃ ⊢
      refine wpAny_bind (wpAny_bind (wpAny_mono h₃ (fun x s₄ h₄ => wpAny_bind (wpAny_mono h₄ (fun _ s₅ h₅ => wpAny_pure (wpAny_pure ⟨rfl, h₅⟩)) fun _ _ h' => h'.elim)) fun _ _ h' => h'.elim))
    | false =>
      rw [if_neg Bool.false_ne_true] at h₃ ⊢
      exact wpAny_pure ⟨rfl, h₃⟩

theorem ItAt.self {c : Cx} {V s it ds} {A : Around} {E : Value → Shared → Prop} {Q : Value → Shared → Prop} (h : ItAt c V s it ds) (hq : Q (.ref it) s) : wpAny c.M A (pyIter (.ref it)) Q E s := by
  cases h with
  | list h => exact wpAny_pyIter_listiter h hq
  | tuple h => exact wpAny_pyIter_tupleiter h hq
  | range h => exact wpAny_pyIter_rangeiter h hq
  | ascii h => exact wpAny_pyIter_striter_ascii h hq
  | wide h => exact wpAny_pyIter_striter_wide h hq

theorem Obj.dict_mapSeq (o : Obj) (f) : (o.mapSeq f).dict = o.dict ∧ (o.mapSeq f).slots = o.slots := by
  obtain ⟨c, d, dt, sl⟩ := o; cases dt <;> exact ⟨rfl, rfl⟩

/-- a list with one more -/
theorem append_wp {prog : Program} {w : World} {A : Around} {E : Value → Shared → Prop} {s : Shared} {l : Addr} {o : Obj} {items : Array Value} {nn : Nat} {x : Value} {Q : Value → Shared → Prop} (ho : s.heap.get? l = some o) (hc : o.cls = .type "list") (hdc : o.dict = none ∧ o.slots = #[]) (hd : o.data = .seq items nn)
    (hQ : ∀ h' o' n', h'.get? l = some o' → o'.cls = .type "list" → (o'.dict = none ∧ o'.slots = #[]) → o'.data = .seq (items.push x) n' → Heap.SameBut l s.heap h' → Q .none { s with heap := h' }) (hsz : items.size ≤ 16777216) :
    wpAny (model prog w) A (call (.builtin "list.append") [.ref l, x]) Q E s := by
  have hT : s.TypeIs (.ref l) "list" := ⟨o, ho, hc⟩
  obtain ⟨n', hd'⟩ := Obj.data_mapSeq hd (·.push x)
  refine wpAny_call_entry slot_list_append hT entry_list_append ?_ (args_list_append _ _)
  show wpAny _ _ (updateSeq l (·.push x) >>= fun _ => ret .none) _ _ s
  refine wpAny_bind ?_
  refine wpAny_updateSeq ho hd (wpAny_pure ⟨.none, rfl, hQ _ _ n' (Heap.get?_update_self _ ho (Obj.isFreed_of_seq hd')) ((Obj.cls_mapSeq ..).trans hc) ⟨(Obj.dict_mapSeq ..).1.trans hdc.1, (Obj.dict_mapSeq ..).2.trans hdc.2⟩ hd' (Heap.SameBut.update ..)⟩) (by rw [sizeLine_eq]; exact hsz)

/-- the cells that a comprehension takes along -/
theorem closure_of {scope : Scope} {env : Env} (h : ∀ p ∈ scope.names, p.2 = .free → ∃ a, env.cells.lookup p.1 = some a) :
    ∃ cl, closureFor scope env = pure cl ∧ (∀ p ∈ scope.names, p.2 = .free → cl.lookup p.1 = env.cells.lookup p.1) ∧ (∀ x a, cl.lookup x = some a → env.cells.lookup x = some a) := by
  unfold closureFor
  have key : ∀ (names : List (Str × NameKind)) (acc : List (Str × Addr)), (∀ p ∈ names, p.2 = .free → ∃ a, env.cells.lookup p.1 = some a) → (∀ x a, acc.lookup x = some a → env.cells.lookup x = some a) →
      ∃ cl, (forIn names acc fun (x : Str × NameKind) (cs : List (Str × Addr)) => match x with
        | (name, kind) => if (kind == NameKind.free) = true then do let a ← cellOf env name; pure (ForInStep.yield ((name, a) :: cs)) else pure (ForInStep.yield cs) : Sem (List (Str × Addr))) = pure cl ∧
        (∀ p ∈ names, p.2 = .free → cl.lookup p.1 = env.cells.lookup p.1) ∧ (∀ x a, acc.lookup x = some a → cl.lookup x = some a) ∧ (∀ x a, cl.lookup x = some a → env.cells.lookup x = some a) := by
    intro names
    induction names with
    | nil => intro acc _ ha; exact ⟨acc, rfl, (fun p hp => nomatch hp), fun _ _ q => q, ha⟩
    | cons p r ih =>
      intro acc hn ha
      obtain ⟨name, kind⟩ := p
      rw [List.forIn_cons]
      by_cases hk : kind = .free
      · subst hk
        obtain ⟨a, he⟩ := hn _ (.head _) rfl
        have hc : cellOf env name = pure a := by unfold cellOf; rw [he]
        have hacc : ∀ x b, ((name, a) :: acc).lookup x = some b → env.cells.lookup x = some b := fun x b q => by
          rw [List.lookup_cons] at q
          by_cases hx : x = name
          · subst hx; simp only [beq_self_eq_true] at q; cases q; exact he
          · have : (x == name) = false := by simpa using hx
            rw [this] at q; exact ha x b q
        obtain ⟨cl, e, h1, h2, h3⟩ := ih ((name, a) :: acc) (fun p hp => hn p (.tail _ hp)) hacc
        refine ⟨cl, ?_, fun p hp hf => ?_, fun x b q => ?_, h3⟩
        · simp only [beq_self_eq_true, if_true, hc]
          exact e
        · rcases List.mem_cons.mp hp with rfl | hp
          · rw [he]; exact h2 name a (by simp [List.lookup_cons])
          · exact h1 p hp hf
        · by_cases hx : x = name
          · subst hx
            have hb := ha x b q
            rw [he] at hb; cases hb
            exact h2 x a (by simp [List.lookup_cons])
          · refine h2 x b ?_
            have : (x == name) = false := by simpa using hx
            rw [List.lookup_cons, this]; exact q
      · have hb : (kind == NameKind.free) = false := by simpa using hk
        obtain ⟨cl, e, h1, h2, h3⟩ := ih acc (fun p hp => hn p (.tail _ hp)) ha
        refine ⟨cl, ?_, fun p hp hf => ?_, h2, h3⟩
        · simp only [hb, Bool.false_eq_true, if_false]
          exact e
        · rcases List.mem_cons.mp hp with rfl | hp
          · exact absurd hf hk
          · exact h1 p hp hf
  obtain ⟨cl, e, h1, _, h3⟩ := key scope.names [] h fun _ _ q => by cases q
  refine ⟨cl, ?_, h1, h3⟩
  have := e
  simp only [bind_pure] 
  exact this

theorem Fm.weakV {c sc env V0 V0' h0 Cs X ρ s} (F : Fm c sc env V0 h0 Cs X ρ s) (h : ∀ a, V0' a → V0 a) : Fm c sc env V0' h0 Cs X ρ s :=
  ⟨F.good, F.scope, F.kind, F.globals, F.builtins, F.base, F.keep, F.tok, fun a q => F.live0 a (h a q), F.ccells, F.new, F.cells, F.cinj,
   let ⟨m, fps, h1, h2, h3, h4, h6, h5⟩ := F.sto
   ⟨m, fps, h1, h2, h3, h4, h6, h5.weak fun a q => q.imp (h a) id⟩⟩

/-- a change at a place that nothing of the frame holds -/
theorem Fm.change {c sc env V0 h0 Cs X ρ s} {a : Addr} {h' : Heap} (F : Fm c sc env V0 h0 Cs X ρ s) (ha : V0 a) (hn : h0.get? a = none) (hs : Heap.SameBut a s.heap h') (hl : ∃ o, h'.get? a = some o)
    (hc : ∀ o v, s.heap.get? a = some o → o.data ≠ .cell v) : Fm c sc env V0 h0 Cs X ρ { s with heap := h' } := by
  have hx := (F.live0 a ha).2
  obtain ⟨m, fps, h1, h2, h3, h4, h6, h5⟩ := F.sto
  have hLX : env.locals ∈ X := h2 ▸ .head _
  have ne : ∀ b ∈ X, b ≠ a := fun b hb q => hx (q ▸ hb)
  refine ⟨F.good, F.scope, F.kind, F.globals, F.builtins, F.base, fun b o e => (hs.2 b fun q => by rw [q, hn] at e; cases e).trans (F.keep b o e), F.tok, fun b q => ⟨?_, (F.live0 b q).2⟩, F.ccells, F.new, F.cells, F.cinj,
    m, fps, h1.sameBut hs (ne _ hLX), h2, h3, fun b hb => let ⟨o, e⟩ := h4 b hb; ⟨o, (hs.2 b (ne b hb)).trans e⟩, fun p hp => ?_, ?_⟩
  · by_cases hb : b = a
    · subst hb; exact hl
    · obtain ⟨o, e⟩ := (F.live0 b q).1; exact ⟨o, (hs.2 b hb).trans e⟩
  · obtain ⟨v, o, e, hd⟩ := h6 p hp
    exact ⟨v, o, (hs.2 _ fun q => hc o v (q ▸ e) hd).trans e, hd⟩
  · refine h5.change (s := s) (s' := { s with heap := h' }) ⟨Nat.le_refl _, fun b o nb e _ => (hs.2 b fun q => nb (.inl (q ▸ ha))).trans e⟩ (fun b hb o e => (hs.2 b (ne b (h2 ▸ .tail _ (List.mem_append_right _ hb)))).trans e) (fun _ _ _ => rfl)
      fun p _ b o w _ e hw => (hs.2 b fun q => hc o w (q ▸ e) hw).trans e

/-- the same, and the place is forgotten -/
theorem Fm.changeOff {c sc env V0 h0 Cs X ρ s} {a : Addr} {h' : Heap} (F : Fm c sc env (fun b => V0 b ∨ b = a) h0 Cs X ρ s) (ha : ¬ V0 a) (hn : h0.get? a = none) (hs : Heap.SameBut a s.heap h')
    (hc : ∀ o v, s.heap.get? a = some o → o.data ≠ .cell v) : Fm c sc env V0 h0 Cs X ρ { s with heap := h' } := by
  have hx := (F.live0 a (.inr rfl)).2
  obtain ⟨m, fps, h1, h2, h3, h4, h6, h5⟩ := F.sto
  have hLX : env.locals ∈ X := h2 ▸ .head _
  have ne : ∀ b ∈ X, b ≠ a := fun b hb q => hx (q ▸ hb)
  refine ⟨F.good, F.scope, F.kind, F.globals, F.builtins, F.base, fun b o e => (hs.2 b fun q => by rw [q, hn] at e; cases e).trans (F.keep b o e), F.tok, fun b q => ⟨?_, (F.live0 b (.inl q)).2⟩, F.ccells, F.new, F.cells, F.cinj,
    m, fps, h1.sameBut hs (ne _ hLX), h2, h3, fun b hb => let ⟨o, e⟩ := h4 b hb; ⟨o, (hs.2 b (ne b hb)).trans e⟩, fun p hp => ?_, ?_⟩
  · obtain ⟨o, e⟩ := (F.live0 b (.inl q)).1; exact ⟨o, (hs.2 b fun q' => ha (q' ▸ q)).trans e⟩
  · obtain ⟨v, o, e, hd⟩ := h6 p hp
    exact ⟨v, o, (hs.2 _ fun q => hc o v (q ▸ e) hd).trans e, hd⟩
  · refine (h5.change (s := s) (s' := { s with heap := h' }) ⟨Nat.le_refl _, fun b o nb e _ => (hs.2 b fun q => nb (.inl (.inr q))).trans e⟩ (fun b hb o e => (hs.2 b (ne b (h2 ▸ .tail _ (List.mem_append_right _ hb)))).trans e) (fun _ _ _ => rfl)
      fun p _ b o w _ e hw => (hs.2 b fun q => hc o w (q ▸ e) hw).trans e).weak fun b q => q.imp .inl id

def relab (sc scope : Scope) : Scope := { scope with names := scope.names.map fun (n, k) => if (k == .free && sc.kind == .function && sc.names.lookup n == some .cell) then (n, .cell) else (n, k) }

theorem relab_free {sc scope : Scope} {x : Str} : ∀ {names : List (Str × NameKind)}, names.lookup x = some .free →
    (names.map fun (n, k) => if (k == NameKind.free && sc.kind == .function && sc.names.lookup n == some .cell) then (n, NameKind.cell) else (n, k)).lookup x = some .cell ∨
    (names.map fun (n, k) => if (k == NameKind.free && sc.kind == .function && sc.names.lookup n == some .cell) then (n, NameKind.cell) else (n, k)).lookup x = some .free
  | [], h => by cases h
  | (y, k) :: r, h => by
    rw [List.lookup_cons] at h
    by_cases hy : x = y
    · subst hy
      simp only [beq_self_eq_true] at h
      cases h
      simp only [List.map_cons]
      split <;> simp [List.lookup_cons]
    · have hb : (x == y) = false := by simpa using hy
      rw [hb] at h
      have := relab_free (sc := sc) (scope := scope) h
      simp only [List.map_cons]
      split <;> simpa [List.lookup_cons, hb] using this

theorem relab_mem {sc scope : Scope} {x : Str} {k : NameKind} (hk : k = .cell ∨ k = .free) (hnc : ∀ p ∈ scope.names, p.2 ≠ .cell) (h : (relab sc scope).names.lookup x = some k) : (x, NameKind.free) ∈ scope.names := by
  have hm := mem_lookup h
  obtain ⟨p, hp, e⟩ := List.mem_map.mp hm
  obtain ⟨y, ky⟩ := p
  simp only at e
  split at e
  · rename_i hc
    simp only [Bool.and_eq_true, beq_iff_eq] at hc
    injection e with e1 e2
    subst e1
    rw [← hc.1.1]; exact hp
  · injection e with e1 e2
    subst e1 e2
    rcases hk with rfl | rfl
    · exact absurd rfl (hnc _ hp)
    · exact hp

/-- tests of a comprehension -/
structure TstI (c : Cx) (n : Nat) (sc : Scope) (ρ : Sto) (ifs : List Expr) (b : Bool) : Prop where
  run : ∀ A env V0 h0 Cs X s, Room n A → Fm c sc env V0 h0 Cs X ρ s →
    wpAny c.M A (forIn ifs true fun c r => if r = true then do let ok ← isTrue c env (eval c env); pure (ForInStep.yield ok) else pure (ForInStep.yield r)) (fun r s' => Gr s s' ∧ r = b) NoE s
theorem TstI.nil {c n sc ρ} : TstI c n sc ρ [] true := .mk fun A env V0 h0 Cs X s _ _ => wpAny_tests_nil ⟨.refl s, rfl⟩
theorem TstI.one {c n sc ρ e b} (h : Tst c n sc ρ e b) : TstI c n sc ρ [e] b := .mk fun A env V0 h0 Cs X s hA F => wpAny_tests_one (h.run A env V0 h0 Cs X s hA F)

/-- one turn of a comprehension -/
def CItem (c : Cx) (n : Nat) (sc : Scope) (ρ : Sto) (tgt : Expr) (ifs : List Expr) (elt : Expr) (d : D) (r : Option D) : Prop :=
  ∃ ρ₁, TgtG false c sc tgt d ρ ρ₁ ∧ SubS ρ ρ₁ ∧ match r with
    | some x => TstI c n sc ρ₁ ifs true ∧ Ev c n sc true ρ₁ elt x
    | none => TstI c n sc ρ₁ ifs false

/-- what a comprehension sees of the names around -/
structure Capt (sc scope : Scope) (ρ ρi : Sto) : Prop where
  kind : scope.kind = .function
  nocell : ∀ p ∈ scope.names, p.2 ≠ .cell
  names : ∀ x ∈ scope.names, x.2 = .local → scope.names.lookup x.1 = some .local
  free : ∀ p ∈ scope.names, p.2 = .free → sc.names.lookup p.1 = some .cell ∨ sc.names.lookup p.1 = some .free
  sto : ∀ p ∈ ρi, ∃ d, p.2 = .val d ∧ ρ.lookup p.1 = some (.val d) ∧ scope.names.lookup (Str.ofString p.1) = some .free ∧ p.1 ≠ "__classdict__"

section
variable {c : Cx} {n : Nat} {sc : Scope} {k : Bool} {ρ : Sto}

theorem StoR.vals {env : Env} {V : Addr → Prop} {s : Shared} {m : Str → Option Value} : ∀ {ρ fps}, StoR c env V s m ρ fps → (∀ p ∈ ρ, ∃ d, p.2 = .val d) → fps = []
  | _, _, .nil, _ => rfl
  | _, _, .cons l r rs, h => by
    obtain ⟨d, e⟩ := h _ (.head _)
    simp only at e
    subst e
    cases r with
    | val r => rw [rs.vals fun p hp => h p (.tail _ hp)]; rfl

/-- where a comprehension has come to -/
structure CDone (c : Cx) (V : Addr → Prop) (s : Shared) (Dd C : Addr) (rs : List D) (s' : Shared) : Prop where
  keep : Keeps s.heap s'.heap
  tok : s.toks ≤ s'.toks
  gens : s'.gens = s.gens
  os : s'.os = s.os
  ns : ∃ m, s'.heap.Ns C m
  lst : ∃ o vs nn, s'.heap.get? Dd = some o ∧ o.cls = .type "list" ∧ (o.dict = none ∧ o.slots = #[]) ∧ o.data = .seq vs nn ∧ RepL c (fun a => V a ∨ a = Dd ∨ a = C) s' rs vs.toList

theorem ItAt.carry {V V' : Addr → Prop} {s s' : Shared} {it : Addr} {ds : List D} (h : ItAt c V s it ds) (hk : ∀ o, s.heap.get? it = some o → s'.heap.get? it = some o)
    (hl : ∀ l o, ¬ V l → s.heap.get? l = some o → ¬ V' l ∧ s'.heap.get? l = some o) (hr : ∀ {dd vv}, RepL c V s dd vv → RepL c V' s' dd vv) : ItAt c V' s' it ds := by
  cases h with
  | list i1 nl ho hc hd r => obtain ⟨oi, e1, e2⟩ := i1; exact .list ⟨oi, hk _ e1, e2⟩ (hl _ _ nl ho).1 (hl _ _ nl ho).2 hc hd (hr r)
  | tuple i1 nl ho hc hd r => obtain ⟨oi, e1, e2⟩ := i1; exact .tuple ⟨oi, hk _ e1, e2⟩ (hl _ _ nl ho).1 (hl _ _ nl ho).2 hc hd (hr r)
  | range i1 => exact .range (hk _ i1)
  | ascii i1 => obtain ⟨oi, e1, e2⟩ := i1; exact .ascii ⟨oi, hk _ e1, e2⟩
  | wide i1 => obtain ⟨oi, e1, e2⟩ := i1; exact .wide ⟨oi, hk _ e1, e2⟩

theorem comp_core {elt tgt iter : Expr} {ifs : List Expr} {scope : Scope} {pos p : Pos} {d₀ : D} {α : Type} {g : α → D} {ds : List α} {f : α → Option D} {ρi : Sto} {use : Option (Value → Sem Unit)} {A : Around} {env : Env} {V0 : Addr → Prop} {h0 : Heap} {Cs : List (Str × Addr)} {X : List Addr} {s : Shared}
    {Q : Value → Shared → Prop}
    (hA : Room n A) (F : Fm c sc env V0 h0 Cs X ρ s) (he : Ev c n sc true ρ iter d₀) (hit : IterR c d₀ (ds.map g)) (hc : Capt sc scope ρ ρi) (hz : ds.length ≤ 16777216)
    (item : ∀ d ∈ ds, CItem c n (relab sc scope) ρi tgt ifs elt (g d) (f d)) (hs : ∀ (env : Env) x, foldedSetIterable iter env x = pure x)
    (fin : ∀ Dd C s', s.heap.get? Dd = none → s.heap.get? C = none → Dd ≠ C → CDone c (Vol V0 X) s Dd C (ds.filterMap f) s' → compPost c.M A NoE use Q (.ref Dd) C (.ok .next) s') :
    wpAny c.M A (comprehension (.ListComp elt [⟨tgt, iter, ifs, 0⟩] scope pos) scope env p (newList []) false (eval iter env) use) Q NoE s := by
  obtain ⟨cl, hcl, hclf, hcle⟩ := closure_of (scope := scope) (env := env) fun p hp hf => F.ccells _ (hc.free p hp hf)
  refine wpAny_comprehension_free (use := use) rfl (hs env) hcl hc.kind hc.names (wpAny_mono (he.run A env V0 h0 Cs X s hA F) (fun xv s₁ q₁ => ?_) fun _ _ q => q)
  refine wpAny_mono (hit A _ s₁ xv hA.zero ((F.st true).gr q₁.1) q₁.2) (fun itv s₂ q₂ => ?_) fun _ _ q => q
  obtain ⟨g₂, it, rfl, hitn, hi⟩ := q₂
  have hV : VK true V0 X = Vol V0 X := by funext a; simp [VK]
  rw [hV] at hi
  have g12 := q₁.1.trans g₂
  have hits : s.heap.get? it = none := by
    cases e : s.heap.get? it with
    | none => rfl
    | some o => have := q₁.1.keep _ _ e; rw [hitn] at this; cases this
  -- the list to be filled
  refine wpAny_newObj_type (wpAny_newFunctionEnv hc.nocell (by intro y hy; simp at hy) (fun h₁ hns₁ hsb₁ => ?_) hc.kind)
  dsimp only at hns₁ hsb₁ ⊢
  have hDn : s₂.heap.get? s₂.heap.objs.size = none := get_size _
  generalize hH : s₂.heap.push { cls := .type "list", dict := none, data := .seq ([] : List Value).toArray } = H2 at hns₁ hsb₁ ⊢
  have hC : H2.objs.size = s₂.heap.objs.size + 1 := by rw [← hH, Heap.size_push]
  have hCn2 : s₂.heap.get? H2.objs.size = none := by
    cases e : s₂.heap.get? H2.objs.size with
    | none => rfl
    | some o => have := Heap.lt_size e; rw [hC] at this; exact absurd this (Nat.not_lt.mpr (Nat.le_succ _))
  have hDC : s₂.heap.objs.size ≠ H2.objs.size := by rw [hC]; exact Nat.ne_of_lt (Nat.lt_succ_self _)
  have hDh1 : h₁.get? s₂.heap.objs.size = some { cls := .type "list", dict := none, data := .seq ([] : List Value).toArray } := by
    refine (hsb₁.2 _ hDC).trans (Heap.get?_push_of_some _ ?_)
    rw [← hH]; exact Heap.get?_push_size _ rfl
  have hk1 : Keeps s₂.heap h₁ := fun b o e => (hsb₁.2 b fun q => by rw [q, hCn2] at e; cases e).trans (Heap.get?_push_of_some _ (hH ▸ Heap.get?_push_of_some _ e))
  generalize s₂.heap.objs.size = Dd at hDn hDC hDh1 ⊢
  generalize H2.objs.size = C at hns₁ hCn2 hDC ⊢
  have hDs : s.heap.get? Dd = none := by
    cases e : s.heap.get? Dd with
    | none => rfl
    | some o => have := g12.keep _ _ e; rw [hDn] at this; cases this
  have hCs' : s.heap.get? C = none := by
    cases e : s.heap.get? C with
    | none => rfl
    | some o => have := g12.keep _ _ e; rw [hCn2] at this; cases this
  -- the names inside
  have hF2 := F.gr g12
  have g23 : Gr s₂ { s₂ with heap := h₁, toks := s₂.toks + ([] : List (Str × Value)).length } := ⟨hk1, Nat.le_add_right _ _, rfl, rfl⟩
  have hDX : Dd ∉ X := fun q => by
    obtain ⟨_, _, _, _, _, h4, _, _⟩ := hF2.sto
    obtain ⟨o, e⟩ := h4 _ q; rw [hDn] at e; cases e
  have hCX : C ∉ X := fun q => by
    obtain ⟨_, _, _, _, _, h4, _, _⟩ := hF2.sto
    obtain ⟨o, e⟩ := h4 _ q; rw [hCn2] at e; cases e
  have hCV : ¬ V0 C := fun q => by obtain ⟨o, e⟩ := (hF2.live0 C q).1; rw [hCn2] at e; cases e
  have hDV : ¬ V0 Dd := fun q => by obtain ⟨o, e⟩ := (hF2.live0 Dd q).1; rw [hDn] at e; cases e
  let Vi : Addr → Prop := fun a => Vol V0 X a ∨ a = Dd
  have hCo : ∃ oC, h₁.get? C = some oC ∧ ∃ es ep, oC.data = .dict es ep := let ⟨o, es, ep, e, hd, _⟩ := hns₁; ⟨o, e, es, ep, hd⟩
  have Fi : Fm c (relab sc scope) (compEnvC scope cl C env) Vi s.heap [] [C] ρi { s₂ with heap := h₁, toks := s₂.toks + ([] : List (Str × Value)).length } := by
    refine ⟨F.good, ?_, hc.kind, F.globals, F.builtins, F.base.trans F.keep, g12.keep.trans hk1, (hF2.gr g23).tok, fun a q => ?_, fun x hx => ?_, fun a ha => ?_, (fun _ _ q => nomatch q), fun x y a hx hy => F.cinj _ _ _ (hcle _ _ hx) (hcle _ _ hy), ⟨_, [], hns₁, by simp [compEnvC], by simp, fun a ha => ?_, (fun p hp => nomatch hp), ?_⟩⟩
    · show relabel scope env = relab sc scope
      unfold relabel relab
      rw [← F.scope]; rfl
    · rcases q with q | rfl
      · refine ⟨?_, fun q' => ?_⟩
        · rcases q with q | q
          · obtain ⟨o, e⟩ := (hF2.live0 a q).1; exact ⟨o, hk1 _ _ e⟩
          · obtain ⟨_, _, _, _, _, h4, _, _⟩ := hF2.sto
            obtain ⟨o, e⟩ := h4 _ q; exact ⟨o, hk1 _ _ e⟩
        · rw [List.mem_singleton] at q'; subst q'
          exact q.elim hCV hCX
      · exact ⟨⟨_, hDh1⟩, fun q' => hDC (List.mem_singleton.mp q')⟩
    · have hm := hx.elim (fun h => relab_mem (.inl rfl) hc.nocell h) fun h => relab_mem (.inr rfl) hc.nocell h
      obtain ⟨a, ha⟩ := F.ccells _ (hc.free _ hm rfl)
      exact ⟨a, (hclf _ hm rfl).trans ha⟩
    · rw [List.mem_singleton] at ha; subst ha; exact hCs'
    · rw [List.mem_singleton] at ha; subst ha
      obtain ⟨o, e, _⟩ := hCo; exact ⟨o, e⟩
    · -- the captured names
      obtain ⟨m, fps, hn, hXX, hnd, hlv, hcel, hst⟩ := F.sto
      have key : ∀ (r : Sto), (∀ p ∈ r, p ∈ ρi) → StoR c (compEnvC scope cl C env) (Vol Vi [C]) { s₂ with heap := h₁, toks := s₂.toks + ([] : List (Str × Value)).length } (fun x => ([] : List (Str × Value)).reverse.lookup x) r [] := by
        intro r
        induction r with
        | nil => intro _; exact .nil
        | cons p r ih =>
          intro hp
          obtain ⟨x, sl⟩ := p
          obtain ⟨d, hd, hl, hfr, hcd⟩ := hc.sto _ (hp _ (.head _))
          simp only at hd hl hfr hcd
          subst hd
          obtain ⟨v, fp, lo, rp, _⟩ := hst.get hl
          cases rp with
          | val rp =>
            refine .cons (fp := []) (v := v) ?_ (.val ?_) (ih fun p hp' => hp p (.tail _ hp'))
            · have hm := mem_lookup hfr
              have hkk := hc.free _ hm rfl
              cases lo with
              | loc h1 _ =>
                have h1' : sc.names.lookup (Str.ofString x) = some .local := by rw [← F.scope]; exact h1
                rw [h1'] at hkk
                rcases hkk with q | q <;> cases q
              | @cell a o h1 h2 h3 h4 =>
                refine .cell (a := a) (o := o) ?_ ((hclf _ hm rfl).trans h2) (hk1 _ _ (g12.keep _ _ h3)) h4
                have hrl : (relabel scope env).names.lookup (Str.ofString x) = some .cell ∨ (relabel scope env).names.lookup (Str.ofString x) = some .free := relab_free (sc := env.scope) (scope := scope) hfr
                exact hrl.imp id fun q => ⟨q, hcd⟩
            · have r2 : Rep c (fun a => Vol V0 X a ∨ (a = Dd ∨ a = C)) s d v := rp.ext fun a q => by
                rcases q with rfl | rfl
                · exact hDs
                · exact hCs'
              refine (r2.gr (g12.trans g23)).weak fun a q => ?_
              rcases q with (q | q) | q
              · exact .inl q
              · exact .inr (.inl q)
              · exact .inr (.inr (List.mem_singleton.mp q))
      exact key ρi fun _ h => h
  -- the loop
  have hitX : it ∉ X := fun q => by
    obtain ⟨_, _, _, _, _, h4, _, _⟩ := F.sto
    obtain ⟨o, e⟩ := h4 _ q; rw [hits] at e; cases e
  have hitV : ¬ V0 it := fun q => by obtain ⟨o, e⟩ := (F.live0 it q).1; rw [hits] at e; cases e
  have hitalive : ∃ o, s₂.heap.get? it = some o := let ⟨o, _, _, e, _⟩ := hi.fields; ⟨o, e⟩
  have hitD : it ≠ Dd := fun q => by obtain ⟨o, e⟩ := hitalive; rw [q, hDn] at e; cases e
  have hitC : it ≠ C := fun q => by obtain ⟨o, e⟩ := hitalive; rw [q, hCn2] at e; cases e
  have loop : codeAny c.M A (.compLoop (.ListComp elt [⟨tgt, iter, ifs, 0⟩] scope pos) 0 (.ref it) (.ref Dd) (compEnvC scope cl C env)) (compPost c.M A NoE use Q (.ref Dd) C) { s₂ with heap := h₁, toks := s₂.toks + ([] : List (Str × Value)).length } := by
    refine code_comp (fun kk s' => ∃ done rest, ds = done ++ rest ∧ kk = rest.length ∧ Keeps s.heap s'.heap ∧ s'.gens = s.gens ∧ s'.os = s.os ∧ s.toks ≤ s'.toks ∧
      Fm c (relab sc scope) (compEnvC scope cl C env) Vi s.heap [] [C] ρi s' ∧ ItAt c (Vol Vi [C]) s' it (rest.map g) ∧
      (∃ o vs nn, s'.heap.get? Dd = some o ∧ o.cls = .type "list" ∧ (o.dict = none ∧ o.slots = #[]) ∧ o.data = .seq vs nn ∧ RepL c (Vol Vi [C]) s' (done.filterMap f) vs.toList)) ?_ ds.length ?_
    · rintro kk s' ⟨done, rest, rfl, rfl, hk, hg, hos, htk, F', hi', hl'⟩
      have hitCC : it ∉ [C] := fun q => hitC (List.mem_singleton.mp q)
      have hitVi : ¬ Vi it := fun q => q.elim (fun q => q.elim hitV hitX) hitD
      obtain ⟨o, vs, nn, hl1, hl2, hl3, hl4, hl5⟩ := hl'
      have step : ∀ s₃, ItStep it s' s₃ → Keeps s.heap s₃.heap ∧ s₃.gens = s.gens ∧ s₃.os = s.os ∧ s.toks ≤ s₃.toks ∧ Fm c (relab sc scope) (compEnvC scope cl C env) Vi s.heap [] [C] ρi s₃ ∧
          s₃.heap.get? Dd = some o ∧ RepL c (Vol Vi [C]) s₃ (done.filterMap f) vs.toList := fun s₃ t =>
        ⟨fun b o e => t.keep b o (fun q => by rw [q, hits] at e; cases e) (hk b o e), t.gens.trans hg, t.os.trans hos, Nat.le_trans htk t.tok, F'.it hi' hitCC hits hitVi t, t.keep _ _ (Ne.symm hitD) hl1, hl5.calm (t.calm hi' _) fun _ q => q⟩
      cases rest with
      | nil =>
        refine wpAny_mono (ItAt.stop hA.handled hi') (fun r s₃ q => ?_) fun _ _ q => q
        obtain ⟨rfl, t⟩ := q
        obtain ⟨k1, k2, k3, k4, F₃, k5, k6⟩ := step s₃ t
        obtain ⟨m₃, _, n₃, _⟩ := F₃.sto
        refine fin Dd C s₃ hDs hCs' hDC ⟨k1, k4, k2, k3, ⟨m₃, n₃⟩, o, vs, nn, k5, hl2, hl3, hl4, ?_⟩
        have := k6.weak (V' := fun a => Vol V0 X a ∨ a = Dd ∨ a = C) fun a q => by
          rcases q with q | q | q
          · exact .inl (.inl q)
          · exact .inl (.inr q)
          · exact .inr (List.mem_singleton.mpr q)
        simpa using this
      | cons d rest =>
        refine wpAny_mono (ItAt.next hi') (fun r s₃ q => ?_) fun _ _ q => q
        obtain ⟨v, rfl, rv, hi₃, t⟩ := q
        obtain ⟨k1, k2, k3, k4, F₃, k5, k6⟩ := step s₃ t
        obtain ⟨ρ₁, htg, hsub, hm⟩ := item d (List.mem_append_right _ (.head _))
        refine lotg hi₃ (wpAny_mono (htg.run A (compEnvC scope cl C env) Vi s.heap [] [C] s₃ v hA.zero (fun q => nomatch q) F₃ rv) (fun _ s₄ q => ?_) fun _ _ q => q)
        obtain ⟨X₄, g₄, F₄⟩ := q
        have alive : ∃ o, s₃.heap.get? it = some o := let ⟨o, _, _, e, _⟩ := hi₃.fields; ⟨o, e⟩
        -- behind the tests, and behind a value
        have fresh4 : ∀ b ∈ X₄, b = C ∨ s₃.heap.get? b = none := fun b hb => (g₄.new b hb).imp List.mem_singleton.mp id
        have hD4 : Dd ∉ [C] := fun q => hDC (List.mem_singleton.mp q)
        have hl4' : s₄.heap.get? Dd = some o := g₄.keep _ _ hD4 k5
        have back : ∀ s₅, Gr s₄ s₅ → Keeps s.heap s₅.heap ∧ s₅.gens = s.gens ∧ s₅.os = s.os ∧ s.toks ≤ s₅.toks ∧ Fm c (relab sc scope) (compEnvC scope cl C env) Vi s.heap [] [C] ρi s₅ ∧ ItAt c (Vol Vi [C]) s₅ it (rest.map g) ∧
            s₅.heap.get? Dd = some o ∧ RepL c (Vol Vi [C]) s₅ (done.filterMap f) vs.toList := fun s₅ g₅ => by
          obtain ⟨X₅, hX₅, F₅⟩ := Ent.sub (c := c) (sc := relab sc scope) hsub (compEnvC scope cl C env) Vi s.heap [] X₄ s₅ (F₄.gr g₅)
          have hfps : X₅ = [C] := by
            obtain ⟨_, fps, _, h2, _, _, _, h5⟩ := F₅.sto
            rw [h2, h5.vals fun p hp => let ⟨d, e, _⟩ := hc.sto p hp; ⟨d, e⟩]; rfl
          subst hfps
          have g45 : Stp [C] s₃ [C] s₅ := (g₄.trans (Stp.of_gr g₅)).sub' hX₅
          refine ⟨fun b o e => g₅.keep _ _ (g₄.keep b o (fun q => by rw [List.mem_singleton.mp q, hCs'] at e; cases e) (k1 b o e)), (g₅.gens.trans g₄.gens).trans k2, (g₅.os.trans g₄.os).trans k3, Nat.le_trans k4 (Nat.le_trans g₄.tok g₅.tok), F₅,
            hi₃.stp hitCC g45, g₅.keep _ _ hl4', k6.stp g45⟩
        cases hf : f d with
        | none =>
          rw [hf] at hm
          refine wpAny_mono (TstI.run hm A _ _ _ _ _ s₄ hA F₄) (fun ok s₅ q => ?_) fun _ _ q => q
          obtain ⟨g₅, rfl⟩ := q
          rw [if_neg Bool.false_ne_true]
          obtain ⟨j1, j2, j3, j4, j5, j6, j7, j8⟩ := back s₅ g₅
          exact ⟨_, Nat.lt_succ_self _, done ++ [d], rest, by simp, rfl, j1, j2, j3, j4, j5, j6, o, vs, nn, j7, hl2, hl3, hl4, by simpa [hf] using j8⟩
        | some r =>
          rw [hf] at hm
          refine wpAny_mono (hm.1.run A _ _ _ _ _ s₄ hA F₄) (fun ok s₅ q => ?_) fun _ _ q => q
          obtain ⟨g₅, rfl⟩ := q
          rw [if_pos rfl]
          refine wpAny_mono (hm.2.run A _ _ _ _ _ s₅ hA (F₄.gr g₅)) (fun x s₆ q => ?_) fun _ _ q => q
          obtain ⟨g₆, rx⟩ := q
          obtain ⟨j1, j2, j3, j4, j5, j6, j7, j8⟩ := back s₆ (g₅.trans g₆)
          refine append_wp j7 hl2 hl3 hl4 (fun h' o' n' a1 a2 a3 a4 a5 => ?_) ?_
          · have hcm : Calm (Vol Vi [C]) s₆ { s₆ with heap := h' } := ⟨Nat.le_refl _, fun b ob nb e _ => (a5.2 b fun q => nb (.inl (.inr q))).trans e⟩
            have hne : ∀ b ob, s.heap.get? b = some ob → b ≠ Dd := fun b ob e q => by rw [q, hDs] at e; cases e
            have hCX4 : C ∈ X₄ := by
              obtain ⟨_, _, _, h2, _⟩ := F₄.sto
              rw [h2]; exact .head _
            refine ⟨_, Nat.lt_succ_self _, done ++ [d], rest, by simp, rfl, fun b ob e => (a5.2 b (hne b ob e)).trans (j1 b ob e), j2, j3, j4, j5.change (.inr rfl) hDs a5 ⟨_, a1⟩ (fun ob w e hw => by rw [j7] at e; cases e; rw [hl4] at hw; cases hw), ?_, o', vs.push x, n', a1, a2, a3, a4, ?_⟩
            · have hnl : ∀ l : Addr, ¬ Vol Vi [C] l → l ≠ Dd := fun l nl q => nl (.inl (.inr q))
              exact j6.carry (fun o e => (a5.2 _ hitD).trans e) (fun l o nl e => ⟨nl, (a5.2 _ (hnl _ nl)).trans e⟩) fun r => r.calm hcm fun _ q => q
            · have rx' : Rep c (Vol Vi [C]) s₆ r x := rx.weak fun a q => ⟨rfl, q.imp id fun q => by rw [List.mem_singleton.mp q]; exact hCX4⟩
              have := (j8.append (.cons rx' .nil)).calm hcm fun _ q => q
              simpa [hf] using this
          · have := hl5.length
            have h2 := List.length_filterMap_le f done
            simp only [List.length_append, List.length_cons] at hz
            have h3 : vs.size = (done.filterMap f).length := by rw [this]; simp
            omega
    · refine ⟨[], ds, rfl, rfl, g12.keep.trans hk1, g12.gens, g12.os, Nat.le_trans g12.tok g23.tok, Fi, ?_, _, _, 0, hDh1, rfl, ⟨rfl, rfl⟩, rfl, .nil⟩
      have gi := g23
      have hv : ∀ l, ¬ Vol V0 X l → (∃ o, s₂.heap.get? l = some o) → ¬ Vol Vi [C] l := fun l nl hal q => by
        obtain ⟨o, e⟩ := hal
        rcases q with (q | q) | q
        · exact nl q
        · rw [q, hDn] at e; cases e
        · rw [List.mem_singleton.mp q, hCn2] at e; cases e
      have hrl : ∀ {dd vv}, RepL c (Vol V0 X) s₂ dd vv → RepL c (Vol Vi [C]) { s₂ with heap := h₁, toks := s₂.toks + ([] : List (Str × Value)).length } dd vv := fun r => by
        have r2 := r.ext (W := fun a => a = Dd ∨ a = C) fun a q => by
          rcases q with rfl | rfl
          · exact hDn
          · exact hCn2
        refine (r2.gr gi).weak fun a q => ?_
        rcases q with (q | q) | q
        · exact .inl q
        · exact .inr (.inl q)
        · exact .inr (.inr (List.mem_singleton.mp q))
      exact hi.carry (fun o e => hk1 _ _ e) (fun l o nl e => ⟨hv _ nl ⟨_, e⟩, hk1 _ _ e⟩) fun r => hrl r
  have hself : wpAny c.M A (pyIter (.ref it)) (fun it' s' => codeAny c.M A (.compLoop (.ListComp elt [⟨tgt, iter, ifs, 0⟩] scope pos) 0 it' (.ref Dd) (compEnvC scope cl C env)) (compPost c.M A NoE use Q (.ref Dd) C) s')
      (notedBy c.M A (compEnvC scope cl C env) fun x s' => compPost c.M A NoE use Q (.ref Dd) C (.error x) s') { s₂ with heap := h₁, toks := s₂.toks + ([] : List (Str × Value)).length } := by
    have hi1 : ItAt c Vol0 { s₂ with heap := h₁, toks := s₂.toks + ([] : List (Str × Value)).length } it (ds.map g) := by
      have w : ∀ {dd vv}, RepL c (Vol V0 X) s₂ dd vv → RepL c Vol0 { s₂ with heap := h₁, toks := s₂.toks + ([] : List (Str × Value)).length } dd vv := fun r => (r.gr g23).weak fun _ q => q.elim
      exact hi.carry (fun o e => hk1 _ _ e) (fun l o nl e => ⟨id, hk1 _ _ e⟩) fun r => w r
    exact hi1.self loop
  exact codeAny_compStart_list loop hself


theorem Ev.comp {elt tgt iter : Expr} {ifs : List Expr} {scope : Scope} {pos : Pos} {d₀ : D} {α : Type} {g : α → D} {ds : List α} (f : α → Option D) (ρi : Sto) (he : Ev c n sc true ρ iter d₀) (hit : IterR c d₀ (ds.map g)) (hc : Capt sc scope ρ ρi) (hz : ds.length ≤ 16777216)
    (item : ∀ d ∈ ds, CItem c n (relab sc scope) ρi tgt ifs elt (g d) (f d)) (hs : ∀ (env : Env) x, foldedSetIterable iter env x = pure x := by intro _ _; rfl) : Ev c n sc k ρ (.ListComp elt [⟨tgt, iter, ifs, 0⟩] scope pos) (.list (ds.filterMap f)) :=
  Ev.weak <| .mk fun A env V0 h0 Cs X s hA F => by
    rw [eval_ListComp]
    refine comp_core hA F he hit hc hz item hs fun Dd C s' hD hC hDC h => ?_
    obtain ⟨m, hm⟩ := h.ns
    obtain ⟨o, vs, nn, l1, l2, l3, l4, l5⟩ := h.lst
    have hlv := (F.st true).live
    refine ⟨m, hm, fun h' hs' => ⟨⟨fun b ob e => (hs'.2 b fun q => by rw [q, hC] at e; cases e).trans (h.keep b ob e), h.tok, h.gens, h.os⟩, .list (fun q => ?_) ((hs'.2 _ hDC).trans l1) l2 l3 l4 ?_⟩⟩
    · obtain ⟨o', e⟩ := hlv _ q; rw [hD] at e; cases e
    · exact l5.calm (s := s') (s' := { s' with heap := h' }) ⟨Nat.le_refl _, fun b ob nb e _ => (hs'.2 b fun q => nb (.inr (.inr q))).trans e⟩ fun a q => .inl q.2

/-- y = [..] : the store lies within the comprehension -/
theorem Sx.comp {elt tgt iter : Expr} {ifs : List Expr} {scope : Scope} {pos spos p : Pos} {y : String} {d₀ : D} {α : Type} {g : α → D} {ds : List α} (f : α → Option D) (ρi : Sto) (he : Ev c n sc true ρ iter d₀) (hit : IterR c d₀ (ds.map g)) (hc : Capt sc scope ρ ρi) (hz : ds.length ≤ 16777216)
    (item : ∀ d ∈ ds, CItem c n (relab sc scope) ρi tgt ifs elt (g d) (f d)) (hk : CanStore sc y)
    (hsw : ∀ env : Env, env.scope = sc → swapsWith (.ListComp elt [⟨tgt, iter, ifs, 0⟩] scope pos) (some (.Name (Str.ofString y) p)) spos.line env = pure true)
    (hs : ∀ (env : Env) x, foldedSetIterable iter env x = pure x := by intro _ _; rfl) :
    Sn c n sc ρ (.Assign [.Name (Str.ofString y) p] (.ListComp elt [⟨tgt, iter, ifs, 0⟩] scope pos) spos) (setS ρ y (.val (.list (ds.filterMap f)))) := .mk fun A env V0 h0 Cs X s hA hO F => by
  rw [exec_Assign_Name_used _ _ _ _ (hsw env F.scope)]
  refine wpAny_bind (wpAny_standAt (wpAny_bind ?_))
  show wpAny _ A (do let _ ← comprehension (.ListComp elt [⟨tgt, iter, ifs, 0⟩] scope pos) scope env _ (newList []) false (eval iter env) (some (PySem.assign (.Name (Str.ofString y) p) env))) _ _ s
  refine wpAny_bind (wpAny_mono (Q := fun _ s' => SPost c sc env V0 h0 Cs X s (fun af ρ' => af = .next ∧ ρ' = setS ρ y (.val (.list (ds.filterMap f)))) .next s') (E := NoE) ?_ (fun _ s' hq => wpAny_pure (wpAny_pure hq)) fun _ _ e => e)
  refine comp_core hA F he hit hc hz item hs fun Dd C s' hD hC hDC h => ?_
  obtain ⟨m, hm⟩ := h.ns
  obtain ⟨o, vs, nn, l1, l2, l3, l4, l5⟩ := h.lst
  have gr : Gr s s' := ⟨h.keep, h.tok, h.gens, h.os⟩
  obtain ⟨oC, es, ep, eC, dC, _⟩ := id hm
  have FC := F.addV hC gr ⟨oC, eC⟩
  have hlv := (F.st true).live
  show wpAny c.M A (PySem.assign (.Name (Str.ofString y) p) env (.ref Dd)) _ _ s'
  have rD : Rep c (VK true (fun b => V0 b ∨ b = C) X) s' (.list (ds.filterMap f)) (.ref Dd) := by
    refine .list (fun q => ?_) l1 l2 l3 l4 (l5.weak fun a q => ?_)
    · rcases q.2 with (q | q) | q
      · obtain ⟨o', e⟩ := hlv _ ⟨rfl, .inl q⟩; rw [hD] at e; cases e
      · exact hDC q
      · obtain ⟨o', e⟩ := hlv _ ⟨rfl, .inr q⟩; rw [hD] at e; cases e
    · rcases q.2 with (q | q) | q
      · exact .inl (.inl q)
      · exact .inr (.inr q)
      · exact .inl (.inr q)
  refine wpAny_assign_Name (wpAny_mono (FC.store (.refl s') (hO _) hk (RepS.ofRep rD) .nil fun _ ha => nomatch ha) (fun _ s'' q => ?_) fun _ _ q => q)
  obtain ⟨X', g, F''⟩ := q
  have hCX' : C ∉ X' := (F''.live0 C (.inr rfl)).2
  have hCX : C ∉ X := (FC.live0 C (.inr rfl)).2
  have eC'' : s''.heap.get? C = some oC := g.keep _ _ hCX eC
  refine ⟨m, (by obtain ⟨o1, es1, ep1, e1, r1⟩ := hm; rw [eC] at e1; cases e1; exact ⟨oC, es1, ep1, eC'', r1⟩), fun h' hs' => ?_⟩
  have hVC : ¬ V0 C := fun q => by obtain ⟨o', e⟩ := hlv _ ⟨rfl, .inl q⟩; rw [hC] at e; cases e
  have hn0 : h0.get? C = none := by
    cases e : h0.get? C with
    | none => rfl
    | some o => have := F.keep _ _ e; rw [hC] at this; cases this
  have F₃ := F''.changeOff hVC hn0 hs' (fun ob w e hw => by rw [eC''] at e; cases e; rw [dC] at hw; cases hw)
  have st := (Stp.of_gr (X := X) gr).trans g
  refine ⟨X', _, .next, ⟨fun b ob hb e => (hs'.2 b fun q => by rw [q, hC] at e; cases e).trans (st.keep b ob hb e), st.tok, st.gens, st.os, st.new, fun b hb ob e => ?_⟩, F₃, .next, rfl, rfl⟩
  obtain ⟨o', e'⟩ := st.live b hb ob e
  exact ⟨o', (hs'.2 b fun q => by rw [q, hC] at e; cases e).trans e'⟩

end
end Mine
namespace Mine

section
variable {c : Cx} {n : Nat} {sc : Scope} {k : Bool} {ρ : Sto}

theorem St.new {V s} (h : St c V s) : ¬ V s.heap.objs.size := fun q => by obtain ⟨o', e⟩ := h.live _ q; rw [get_size] at e; cases e

theorem FnR.range1 {b : Int} : FnR c n (.type "range") [.int b] (.range 0 b 1) := .mk fun A V s vs hA hS r => by
  cases r with
  | cons r rs => cases rs; cases r
                 exact wp_end (call_range_1 ⟨fun _ _ e => Heap.get?_push_of_some _ e, rfl, rfl, fun _ => .range hS.new (Heap.get?_push_size _ rfl)⟩)
theorem FnR.range2 {a b : Int} : FnR c n (.type "range") [.int a, .int b] (.range a b 1) := .mk fun A V s vs hA hS r => by
  cases r with
  | cons r rs => cases rs with
    | cons r' rs => cases rs; cases r; cases r'
                    exact wp_end (call_range_2 ⟨fun _ _ e => Heap.get?_push_of_some _ e, rfl, rfl, fun _ => .range hS.new (Heap.get?_push_size _ rfl)⟩)
theorem FnR.range3 {a b st : Int} (h0 : st ≠ 0) (hs : st.natAbs < 1073741824) : FnR c n (.type "range") [.int a, .int b, .int st] (.range a b st) := .mk fun A V s vs hA hS r => by
  cases r with
  | cons r rs => cases rs with
    | cons r' rs => cases rs with
      | cons r'' rs => cases rs; cases r; cases r'; cases r''
                       exact wp_end (call_range_3 h0 ⟨fun _ _ e => Heap.get?_push_of_some _ e, rfl, rfl, fun _ => .range hS.new (Heap.get?_push_size _ rfl)⟩ (.inl (PyProof.noPylong_small hs)))

theorem FnR.lenL {ds : List D} (h : ds.length ≤ 16777216) : FnR c n (.builtin "len") [.list ds] (.int ds.length) := .mk fun A V s vs _ _ r => by
  cases r with
  | cons r rs => cases rs; cases r with
    | @list a o vs nn _ na ho hcl hd hdt r =>
      have hl := r.length
      simp only [Array.length_toList] at hl
      refine wp_end (PySem.Calls.call_len_list ⟨o, ho, hcl, nn, hdt⟩ (by omega) ⟨fun _ _ e => e, rfl, rfl, fun _ => ?_⟩)
      rw [hl]; exact .int _ _

/-- range(b): 0, 1, .. -/
theorem range_ints (b : Nat) : (List.range (Builtin.Range.rangeSize 0 b 1).toNat).map (fun k : Nat => D.int (0 + k * 1)) = (List.range b).map fun k : Nat => D.int k := by
  have e : (Builtin.Range.rangeSize 0 b 1).toNat = b := by
    rw [rangeSize_one]; split <;> omega
  rw [e]
  refine List.map_congr_left fun k _ => ?_
  congr 1; omega
theorem range_small (b : Nat) (h : b ≤ 16777216) : Builtin.Range.small 0 b 1 = true := by
  have h1 : (Builtin.Range.rangeSize 0 b 1) = b := by
    rw [rangeSize_one]; split <;> omega
  have h2 : ∀ i : Int, -1 ≤ i → i ≤ 16777217 → Builtin.Range.rangeFitsLong i = true := fun i a b => by
    unfold Builtin.Range.rangeFitsLong
    simp; omega
  unfold Builtin.Range.small
  rw [h1, h2 0 (by omega) (by omega), h2 b (by omega) (by omega), h2 1 (by omega) (by omega)]
  simp only [Bool.and_self, Bool.true_and]
  rw [if_pos (by omega), h2 _ (by omega) (by omega)]
  simp
theorem IterR.range0 {b : Nat} (h : b ≤ 16777216) : IterR c (.range 0 b 1) ((List.range b).map fun k : Nat => D.int k) := by
  have := IterR.range (c := c) (range_small b h)
  rw [range_ints] at this; exact this

/-- a, b = .. (no display on the right) -/
theorem Sx.assignT {ts : List Expr} {kk : Nat} {tp pos : Pos} {e : Expr} {d : D} {ρ₂ : Sto} (h : Ev c n sc true ρ e d) (ht : TgtR c sc (.Tuple ts kk tp) d ρ ρ₂)
    (hs : ∀ env : Env, swapsWithSole [.Tuple ts kk tp] e pos.line env = pure false := by intro _; rfl)
    (hw : ∀ env : Env, swappedStores [.Tuple ts kk tp] e env = pure none := by intro _; rfl) : Sn c n sc ρ (.Assign [.Tuple ts kk tp] e pos) ρ₂ := .mk fun A env V0 h0 Cs X s hA hO F =>
  Assign_Tuple (wpAny_mono (h.run A env V0 h0 Cs X s hA F) (fun v s₁ q => wpAny_mono (ht.run A env V0 h0 Cs X s₁ v hA.zero (fun _ => hO) (F.gr q.1) (q.2.weak fun _ q => ⟨rfl, q⟩)) (fun _ s₂ q₂ => by
    obtain ⟨X', g, F'⟩ := q₂
    exact ⟨X', ρ₂, .next, (Stp.of_gr q.1).trans g, F', .next, rfl, rfl⟩) fun _ _ q => q) fun _ _ q => q) (hs env) (hw env)

end
end Mine
namespace Mine

/-- the i-th statement of the text's top, a def -/
def fnAt (p : Program) (i : Nat) : Scope × List Stmt := match p.main.body[i]? with
  | some (.FunctionDef _ _ body _ _ _ sc _ _ _) => (sc, body)
  | _ => (⟨.function, [], false, false, []⟩, [])
def scAt (p : Program) (i : Nat) : Scope := (fnAt p i).1
def bodyAt (p : Program) (i : Nat) : List Stmt := (fnAt p i).2

theorem intsAre_rep {c : Cx} {V : Addr → Prop} {s : Shared} : ∀ {vs ns}, IntsAre vs ns → RepL c V s (ns.map D.int) vs
  | _, _, .nil => .nil
  | _, _, .cons n t r => .cons (.int n t) (intsAre_rep r)

theorem head_end {l : OpenLaw} {w : World} {s₀ s₁ : Shared} {mg mb : Str → Option Value} {p : Program} {lw : List Str} {mean : ExcName → Option Value} {R : WRecords} {cl : Str → Option Addr} {t : Nat} {ns : List Int} {vs : List Value} {a fa : Addr} {as : List Addr}
    (T : Top p lw mean mg mb s₁.heap) (L : Laid R w s₀ s₁ [ofPy (PyData.list (ns.map PyData.int))] [.ref a] as) (hL : s₁.heap.IsList a vs.toArray) (hI : IntsAre vs ns) (hg : s₁.gens = #[]) (ht : s₀.toks = t) (h0 : 0 < t)
    (h : FnR ⟨l.row.prog, w, s₁.heap, mg, mb⟩ 40 (.ref fa) [.list (ns.map .int)] (.bool true)) :
    wpAny (model l.row.prog w) callerA (call (.ref fa) [.ref a]) (fun v s' => GoodWG l.row.claim cl mean [ofPy (PyData.list (ns.map PyData.int))] s₁ (.ok (.ret v)) s')
      (fun e s' => GoodWG l.row.claim cl mean [ofPy (PyData.list (ns.map PyData.int))] s₁ (.error e) s') s₁ := by
  have htk := Nat.lt_of_lt_of_le h0 (X.script_toks L ht)
  have ho := X.script_obj L hL
  refine wpAny_mono (h.run callerA Vol0 s₁ [.ref a] ⟨rfl, by decide, by decide⟩ ⟨⟨T.g, T.b, T.nolimit⟩, Keeps.refl _, Nat.ne_of_gt htk, fun _ q => q.elim⟩ (.cons (.list id ho rfl ⟨rfl, rfl⟩ rfl (intsAre_rep hI)) .nil)) (fun v s' q => ?_) fun _ _ q => q.elim
  obtain ⟨g, r⟩ := q
  have hpost : l.row.claim.post [ofPy (PyData.list (ns.map PyData.int))] (WData.bool true) [ofPy (PyData.list (ns.map PyData.int))] = true := by
    show (WShape.has [] (.bool true) .bool && WTm.holds [] (.eq .res (.lit (.bool true))) _) = true
    with_unfolding_all rfl
  cases r
  refine GoodW.toG ⟨.inl ⟨_, _, _, rfl, fun _ => rfl, .bool true, hpost, fun _ => ⟨.nil, fun _ ha => nomatch ha⟩⟩, g.keep, g.os, g.gens.trans hg⟩

/-- a def's facts from the written heap -/
theorem IsDef.of {c : Cx} {K : Frag} {a : Addr} {sc : Scope} {ps : List String} {body : List Stmt} {oc : Value} {od : Option Addr} {fd : FuncData} {osl : Array (Option Value)} (X : K.In c.base) (ho : K.lookup a = some ⟨oc, od, .func fd, osl⟩)
    (hb : fd.body = .stmts body) (hs : fd.scope = sc) (hc : fd.closure = []) (hg : fd.globals = mainGlobals) (hbl : fd.builtins = builtinsNs) (hcd : codeIn K fd.code fd.qualname = true)
    (hbind : ∀ vs : List Value, vs.length = ps.length → bindArgs fd ⟨vs, []⟩ = pure (bindsOf ps vs)) (kinds : ∀ p ∈ ps, CanStore sc p) (nodup : ps.Nodup) (cnd : ((cellsFrom 0 sc.names []).map (·.1)).Nodup) (co : sc.isCoroutine = false) (gen : sc.isGenerator = false) (kind : sc.kind = .function)
    (nofree : sc.names.all (fun p => p.2 != .free) = true) : IsDef c a sc ps body :=
  ⟨⟨_, fd, X _ _ ho, rfl, hb, hs, hc, hg, hbl, codeRec_of X hcd, hbind⟩, kinds, nodup, cnd, co, gen, kind, fun x q => by
    have := List.all_eq_true.mp nofree _ (mem_lookup q)
    simp at this⟩

end Mine
namespace Mine
section
variable {c : Cx} {n : Nat} {sc : Scope} {k : Bool} {ρ ρ' : Sto} {P P' : AF → Sto → Prop}

theorem Tst.ent {e : Expr} {b : Bool} (h : Ent c sc ρ ρ') (t : Tst c n sc ρ' e b) : Tst c n sc ρ e b := .mk fun A env V0 h0 Cs X s hA F =>
  let ⟨X', _, F'⟩ := h env V0 h0 Cs X s F
  t.run A env V0 h0 Cs X' s hA F'
theorem TgtG.ent {w : Bool} {tgt : Expr} {d : D} {ρ₁ : Sto} (h : Ent c sc ρ ρ') (t : TgtG w c sc tgt d ρ' ρ₁) : TgtG w c sc tgt d ρ ρ₁ := .mk fun A env V0 h0 Cs X s v hA hO F r =>
  let ⟨X', h1, F'⟩ := h env V0 h0 Cs X s F
  wpAny_mono (t.run A env V0 h0 Cs X' s v hA hO F' (r.weak fun a q => q.imp id (h1 a))) (fun _ s' q => let ⟨X₂, g, F₂⟩ := q; ⟨X₂, g.sub h1, F₂⟩) fun _ _ q => q
theorem Sx.post {st : Stmt} (h : Sx c n sc ρ st P) (hp : ∀ af ρ₁, P af ρ₁ → ∃ ρ₂, Ent c sc ρ₁ ρ₂ ∧ P' af ρ₂) : Sx c n sc ρ st P' := .mk fun A env V0 h0 Cs X s hA hO F =>
  wpAny_mono (h.run A env V0 h0 Cs X s hA hO F) (fun f s' q => by
    obtain ⟨X₂, ρ₁, af, a, b, d, p⟩ := q
    obtain ⟨ρ₂, e, p'⟩ := hp _ _ p
    obtain ⟨X₃, h3, F₃⟩ := e _ _ _ _ _ _ b
    refine ⟨X₃, ρ₂, af, a.sub' h3, F₃, ?_, p'⟩
    cases d with
    | next => exact .next
    | brk => exact .brk
    | cont => exact .cont
    | ret r => exact .ret (r.weak fun a q => q.imp id (h3 a))) fun _ _ q => q

/-- for x in ..: with the store as a function of what is done -/
theorem Sx.forS {α : Type} {g : α → D} {xs : List α} {tgt e : Expr} {body : List Stmt} {pos : Pos} {d₀ : D} (σ : List α → Sto) (he : Ev c n sc true ρ e d₀) (hit : IterR c d₀ (xs.map g)) (hI : SubS (σ []) ρ)
    (turn : ∀ done x rest, xs = done ++ x :: rest → ∃ ρ₁, TgtR c sc tgt (g x) (σ done) ρ₁ ∧ Tr c n sc ρ₁ body (Turn (SubS (σ (done ++ [x]))) P)) (fin : P .next (σ xs))
    (hs : ∀ (env : Env) x, foldedSetIterable e env x = pure x := by intro _ _; rfl) : Sx c n sc ρ (.For tgt e body [] pos) P := by
  refine Sx.post (P := fun af ρ' => (af = .next ∧ SubS (σ xs) ρ') ∨ P af ρ') (Sx.for (fun done ρ' => ∃ dx rest, xs = dx ++ rest ∧ done = dx.map g ∧ SubS (σ dx) ρ') he hit ⟨[], xs, rfl, rfl, hI⟩ ?_ ?_ hs) fun af ρ₁ q => ?_
  · intro done d rest ρ' e ⟨dx, rx, e1, e2, hsub⟩
    subst e2
    rw [e1, List.map_append] at e
    have := List.append_cancel_left e
    cases rx with
    | nil => cases this
    | cons x rx =>
      rw [List.map_cons] at this
      cases this
      obtain ⟨ρ₁, ht, hb⟩ := turn dx x rx e1
      refine ⟨ρ₁, ht.ent (Ent.sub hsub), hb.mono fun af ρ₂ q => ?_⟩
      cases af with
      | next => exact ⟨dx ++ [x], rx, by rw [e1]; simp, by simp, q⟩
      | cont => exact ⟨dx ++ [x], rx, by rw [e1]; simp, by simp, q⟩
      | brk => exact .inr q
      | ret d => exact .inr q
  · intro ρ' ⟨dx, rx, e1, e2, hsub⟩
    have : rx = [] := by
      have := congrArg List.length e2
      rw [e1] at this
      simp at this
      exact this
    subst this
    rw [List.append_nil] at e1
    subst e1
    exact .inl ⟨rfl, hsub⟩
  · rcases q with ⟨rfl, q⟩ | q
    · exact ⟨_, Ent.sub q, fin⟩
    · exact ⟨_, .refl _, q⟩

theorem Sx.forR {α β : Type} {g : α → D} {xs : List α} {tgt e : Expr} {body : List Stmt} {pos : Pos} {d₀ : D} (σ : β → Sto) (I : List α → β → Prop) (b₀ : β) (he : Ev c n sc true ρ e d₀) (hit : IterR c d₀ (xs.map g)) (h0 : I [] b₀) (hI : SubS (σ b₀) ρ)
    (turn : ∀ done x rest b, xs = done ++ x :: rest → I done b → ∃ ρ₁, TgtR c sc tgt (g x) (σ b) ρ₁ ∧ Tr c n sc ρ₁ body (Turn (fun ρ' => ∃ b', I (done ++ [x]) b' ∧ SubS (σ b') ρ') P)) (fin : ∀ b, I xs b → P .next (σ b))
    (hs : ∀ (env : Env) x, foldedSetIterable e env x = pure x := by intro _ _; rfl) : Sx c n sc ρ (.For tgt e body [] pos) P := by
  refine Sx.post (P := fun af ρ' => (af = .next ∧ ∃ b, I xs b ∧ SubS (σ b) ρ') ∨ P af ρ') (Sx.for (fun done ρ' => ∃ dx rest, xs = dx ++ rest ∧ done = dx.map g ∧ ∃ b, I dx b ∧ SubS (σ b) ρ') he hit ⟨[], xs, rfl, rfl, b₀, h0, hI⟩ ?_ ?_ hs) fun af ρ₁ q => ?_
  · intro done d rest ρ' e ⟨dx, rx, e1, e2, b, hb0, hsub⟩
    subst e2
    rw [e1, List.map_append] at e
    have := List.append_cancel_left e
    cases rx with
    | nil => cases this
    | cons x rx =>
      rw [List.map_cons] at this
      cases this
      obtain ⟨ρ₁, ht, hb⟩ := turn dx x rx b e1 hb0
      refine ⟨ρ₁, ht.ent (Ent.sub hsub), hb.mono fun af ρ₂ q => ?_⟩
      cases af with
      | next => exact ⟨dx ++ [x], rx, by rw [e1]; simp, by simp, q⟩
      | cont => exact ⟨dx ++ [x], rx, by rw [e1]; simp, by simp, q⟩
      | brk => exact .inr q
      | ret d => exact .inr q
  · intro ρ' ⟨dx, rx, e1, e2, b, hb, hsub⟩
    have : rx = [] := by
      have := congrArg List.length e2
      rw [e1] at this
      simp at this
      exact this
    subst this
    rw [List.append_nil] at e1
    subst e1
    exact .inl ⟨rfl, b, hb, hsub⟩
  · rcases q with ⟨rfl, b, hb, q⟩ | q
    · exact ⟨_, Ent.sub q, fin b hb⟩
    · exact ⟨_, .refl _, q⟩

theorem Sx.whileS {α : Type} {t : Expr} {body : List Stmt} {pos : Pos} (σ : α → Sto) (inv : α → Prop) (μ : α → Nat) (a₀ : α) (h0 : inv a₀) (hI : SubS (σ a₀) ρ)
    (turn : ∀ a, inv a → ∃ b, Tst c n sc (σ a) t b ∧ (b = true → Tr c n sc (σ a) body (Turn (fun ρ' => ∃ a', μ a' < μ a ∧ inv a' ∧ SubS (σ a') ρ') P)) ∧ (b = false → P .next (σ a))) : Sx c n sc ρ (.While t body [] pos) P := by
  refine Sx.post (P := fun af ρ' => (af = .next ∧ ∃ a, P .next (σ a) ∧ SubS (σ a) ρ') ∨ P af ρ') (Sx.while (fun k ρ' => ∃ a, μ a = k ∧ inv a ∧ SubS (σ a) ρ') (μ a₀) ⟨a₀, rfl, h0, hI⟩ ?_) fun af ρ₁ q => ?_
  · rintro k ρ' ⟨a, rfl, ha, hsub⟩
    obtain ⟨b, h1, h2, h3⟩ := turn a ha
    refine ⟨b, h1.ent (Ent.sub hsub), fun e => Tr.ent (Ent.sub hsub) ((h2 e).mono fun af ρ₂ q => ?_), fun e => .inl ⟨rfl, a, h3 e, hsub⟩⟩
    cases af with
    | next => obtain ⟨a', l, i, s⟩ := q; exact ⟨_, l, a', rfl, i, s⟩
    | cont => obtain ⟨a', l, i, s⟩ := q; exact ⟨_, l, a', rfl, i, s⟩
    | brk => exact .inr q
    | ret d => exact .inr q
  · rcases q with ⟨rfl, a, p, q⟩ | q
    · exact ⟨_, Ent.sub q, p⟩
    · exact ⟨_, .refl _, q⟩

/-- a list built of ints, none left out -/
theorem filterMap_some {α β : Type} (r : α → β) (l : List α) : l.filterMap (fun x => some (r x)) = l.map r := by
  induction l with
  | nil => rfl
  | cons x l ih => simp
theorem clip_nat (n k : Nat) (d : Nat) : clip n (some (k : Int)) d = min k n := by
  simp only [clip, Option.elim, clipAt]
  split <;> omega
theorem clip_none (n d : Nat) : clip n none d = d := rfl
theorem cut_take {α : Type} (l : List α) (k : Nat) : cut l none (some (k : Int)) = l.take k := by
  unfold cut; rw [clip_nat, clip_none, List.drop_zero, Nat.sub_zero]
  by_cases hk : k ≤ l.length
  · rw [Nat.min_eq_left hk]
  · rw [Nat.min_eq_right (by omega), List.take_length, List.take_of_length_le (by omega)]
theorem cut_drop {α : Type} (l : List α) (k : Nat) : cut l (some (k : Int)) none = l.drop k := by
  unfold cut; rw [clip_nat, clip_none]
  by_cases hk : k ≤ l.length
  · rw [Nat.min_eq_left hk, List.take_of_length_le (by simp)]
  · rw [Nat.min_eq_right (by omega), List.drop_length, List.drop_of_length_le (by omega)]; simp
theorem cut_mid {α : Type} (l : List α) (a b : Nat) : cut l (some (a : Int)) (some (b : Int)) = (l.drop a).take (b - a) := by
  unfold cut; rw [clip_nat, clip_nat]
  by_cases ha : a ≤ l.length
  · rw [Nat.min_eq_left ha]
    by_cases hb : b ≤ l.length
    · rw [Nat.min_eq_left hb]
    · rw [Nat.min_eq_right (by omega), List.take_of_length_le (by simp), List.take_of_length_le (by simp; omega)]
  · rw [Nat.min_eq_right (by omega : l.length ≤ a), List.drop_length, List.drop_of_length_le (by omega)]; simp

theorem swaps_cell {elt : Expr} {gs : List Comprehension} {scope : Scope} {cp p : Pos} {y : Str} {line : Nat} (h : sc.names.lookup y = some .cell) (env : Env) (he : env.scope = sc) :
    swapsWith (.ListComp elt gs scope cp) (some (.Name y p)) line env = pure false := by
  have hk : (env.kindOf y == some .local) = false := by
    show (env.scope.names.lookup y == some .local) = false
    rw [he, h]; rfl
  show (pure _ : Sem Bool) = pure false
  simp [hk]
theorem swaps_local {elt : Expr} {gs : List Comprehension} {scope : Scope} {cp p : Pos} {y : Str} {line : Nat} (h : sc.names.lookup y = some .local) (hf : sc.kind = .function) (hl : (p.line == cp.line) = true)
    (hn : (scope.names.any fun (n, k) => n == y && (k == .local || k == .cell)) = false) (env : Env) (he : env.scope = sc) :
    swapsWith (.ListComp elt gs scope cp) (some (.Name y p)) line env = pure true := by
  have hk : (env.kindOf y == some .local) = true := by
    show (env.scope.names.lookup y == some .local) = true
    rw [he, h]; rfl
  have hb : (env.blockKind == .function) = true := by
    show ((if env.scope.kind.isAnnotationScope then ScopeKind.function else env.scope.kind) == .function) = true
    rw [he, hf]; rfl
  show (pure _ : Sem Bool) = pure true
  simp only [hk, hb, hn, Expr.pos, hl]
  rfl

def capOk (sc scope : Scope) : Bool := scope.kind == .function && scope.names.all (fun p => p.2 != .cell) && scope.names.all (fun p => p.2 != .local || scope.names.lookup p.1 == some .local) &&
  scope.names.all (fun p => p.2 != .free || sc.names.lookup p.1 == some .cell || sc.names.lookup p.1 == some .free)
inductive CapS (scope : Scope) (ρ : Sto) : Sto → Prop
  | nil : CapS scope ρ []
  | cons {x : String} {d : D} {ρi : Sto} : ρ.lookup x = some (.val d) → scope.names.lookup (Str.ofString x) = some .free → x ≠ "__classdict__" → CapS scope ρ ρi → CapS scope ρ ((x, .val d) :: ρi)
theorem CapS.all {scope : Scope} {ρi : Sto} (h : CapS scope ρ ρi) : ∀ p ∈ ρi, ∃ d, p.2 = .val d ∧ ρ.lookup p.1 = some (.val d) ∧ scope.names.lookup (Str.ofString p.1) = some .free ∧ p.1 ≠ "__classdict__" := by
  induction h with
  | nil => intro p hp; cases hp
  | cons a b e r ih =>
    intro p hp
    cases hp with
    | head => exact ⟨_, rfl, a, b, e⟩
    | tail _ hp => exact ih p hp
theorem Capt.of {scope : Scope} {ρi : Sto} (hs : CapS scope ρ ρi) (hb : capOk sc scope = true) : Capt sc scope ρ ρi := by
  unfold capOk at hb
  simp only [Bool.and_eq_true, List.all_eq_true, bne_iff_ne, Bool.or_eq_true, beq_iff_eq] at hb
  obtain ⟨⟨⟨h1, h2⟩, h3⟩, h4⟩ := hb
  refine ⟨h1, fun p hp => by simpa using h2 p hp, fun p hp q => ?_, fun p hp q => ?_, hs.all⟩
  · rcases h3 p hp with h | h
    · exact absurd q (by simpa using h)
    · exact h
  · rcases h4 p hp with (h | h) | h
    · exact absurd q (by simpa using h)
    · exact .inl h
    · exact .inr h

section
variable {elt tgt iter t : Expr} {scope : Scope} {pos spos p : Pos} {y : String} {d₀ : D} {α : Type} {g : α → D} {ds : List α}
theorem Ev.compM (r : α → D) (ρi : Sto) (he : Ev c n sc true ρ iter d₀) (hit : IterR c d₀ (ds.map g)) (hc : Capt sc scope ρ ρi) (hz : ds.length ≤ 16777216)
    (item : ∀ x ∈ ds, ∃ ρ₁, TgtG false c (relab sc scope) tgt (g x) ρi ρ₁ ∧ SubS ρi ρ₁ ∧ Ev c n (relab sc scope) true ρ₁ elt (r x)) (hs : ∀ (env : Env) x, foldedSetIterable iter env x = pure x := by intro _ _; rfl) :
    Ev c n sc k ρ (.ListComp elt [⟨tgt, iter, [], 0⟩] scope pos) (.list (ds.map r)) := by
  rw [← filterMap_some]
  exact Ev.comp (fun x => some (r x)) ρi he hit hc hz (fun x hx => let ⟨ρ₁, h1, h2, h3⟩ := item x hx; ⟨ρ₁, h1, h2, .nil, h3⟩) hs
theorem filterMap_if (q : α → Bool) (r : α → D) : ∀ l : List α, l.filterMap (fun x => if q x = true then some (r x) else Option.none) = (l.filter q).map r
  | [] => rfl
  | x :: l => by
    rw [List.filterMap_cons, List.filter_cons, filterMap_if q r l]
    cases q x <;> rfl
theorem Ev.compF (q : α → Bool) (r : α → D) (ρi : Sto) (he : Ev c n sc true ρ iter d₀) (hit : IterR c d₀ (ds.map g)) (hc : Capt sc scope ρ ρi) (hz : ds.length ≤ 16777216)
    (item : ∀ x ∈ ds, ∃ ρ₁, TgtG false c (relab sc scope) tgt (g x) ρi ρ₁ ∧ SubS ρi ρ₁ ∧ Tst c n (relab sc scope) ρ₁ t (q x) ∧ (q x = true → Ev c n (relab sc scope) true ρ₁ elt (r x))) (hs : ∀ (env : Env) x, foldedSetIterable iter env x = pure x := by intro _ _; rfl) :
    Ev c n sc k ρ (.ListComp elt [⟨tgt, iter, [t], 0⟩] scope pos) (.list ((ds.filter q).map r)) := by
  rw [← filterMap_if]
  refine Ev.comp (fun x => if q x = true then some (r x) else Option.none) ρi he hit hc hz (fun x hx => ?_) hs
  obtain ⟨ρ₁, h1, h2, h3, h4⟩ := item x hx
  refine ⟨ρ₁, h1, h2, ?_⟩
  cases e : q x with
  | true => rw [e] at h3; exact ⟨.one h3, h4 e⟩
  | false => rw [e] at h3; exact .one h3
theorem Sx.compM (r : α → D) (ρi : Sto) (he : Ev c n sc true ρ iter d₀) (hit : IterR c d₀ (ds.map g)) (hc : Capt sc scope ρ ρi) (hz : ds.length ≤ 16777216)
    (item : ∀ x ∈ ds, ∃ ρ₁, TgtG false c (relab sc scope) tgt (g x) ρi ρ₁ ∧ SubS ρi ρ₁ ∧ Ev c n (relab sc scope) true ρ₁ elt (r x)) (hk : sc.names.lookup (Str.ofString y) = some .local) (hf : sc.kind = .function) (hl : (p.line == pos.line) = true)
    (hn : (scope.names.any fun (n, k) => n == Str.ofString y && (k == .local || k == .cell)) = false) (hs : ∀ (env : Env) x, foldedSetIterable iter env x = pure x := by intro _ _; rfl) :
    Sn c n sc ρ (.Assign [.Name (Str.ofString y) p] (.ListComp elt [⟨tgt, iter, [], 0⟩] scope pos) spos) (setS ρ y (.val (.list (ds.map r)))) := by
  rw [← filterMap_some]
  exact Sx.comp (fun x => some (r x)) ρi he hit hc hz (fun x hx => let ⟨ρ₁, h1, h2, h3⟩ := item x hx; ⟨ρ₁, h1, h2, .nil, h3⟩) (.inl hk) (swaps_local hk hf hl hn) hs
theorem Sx.compF (q : α → Bool) (r : α → D) (ρi : Sto) (he : Ev c n sc true ρ iter d₀) (hit : IterR c d₀ (ds.map g)) (hc : Capt sc scope ρ ρi) (hz : ds.length ≤ 16777216)
    (item : ∀ x ∈ ds, ∃ ρ₁, TgtG false c (relab sc scope) tgt (g x) ρi ρ₁ ∧ SubS ρi ρ₁ ∧ Tst c n (relab sc scope) ρ₁ t (q x) ∧ (q x = true → Ev c n (relab sc scope) true ρ₁ elt (r x))) (hk : sc.names.lookup (Str.ofString y) = some .local) (hf : sc.kind = .function) (hl : (p.line == pos.line) = true)
    (hn : (scope.names.any fun (n, k) => n == Str.ofString y && (k == .local || k == .cell)) = false) (hs : ∀ (env : Env) x, foldedSetIterable iter env x = pure x := by intro _ _; rfl) :
    Sn c n sc ρ (.Assign [.Name (Str.ofString y) p] (.ListComp elt [⟨tgt, iter, [t], 0⟩] scope pos) spos) (setS ρ y (.val (.list ((ds.filter q).map r)))) := by
  rw [← filterMap_if]
  refine Sx.comp (fun x => if q x = true then some (r x) else Option.none) ρi he hit hc hz (fun x hx => ?_) (.inl hk) (swaps_local hk hf hl hn) hs
  obtain ⟨ρ₁, h1, h2, h3, h4⟩ := item x hx
  refine ⟨ρ₁, h1, h2, ?_⟩
  cases e : q x with
  | true => rw [e] at h3; exact ⟨.one h3, h4 e⟩
  | false => rw [e] at h3; exact .one h3
end

theorem Ev.to {e : Expr} {d d' : D} (h : Ev c n sc k ρ e d) (q : d = d') : Ev c n sc k ρ e d' := q ▸ h
theorem Tst.to {e : Expr} {b b' : Bool} (h : Tst c n sc ρ e b) (q : b = b') : Tst c n sc ρ e b' := q ▸ h
theorem IsDef.callee {a : Addr} {ps : List String} {body : List Stmt} (h : IsDef c a sc ps body) : Callee c (.ref a) := by
  obtain ⟨o, fd, h1, h2, _⟩ := h.ex
  exact .func h1 h2

end
end Mine
namespace Mine
section
variable {c : Cx} {n : Nat} {sc : Scope} {k : Bool} {ρ ρ' : Sto} {P P' : AF → Sto → Prop} {env : Env} {V0 : Addr → Prop} {h0 : Heap} {Cs : List (Str × Addr)} {X : List Addr} {s s₁ : Shared} {A : Around}

/-- a name's own list, opened -/
structure Opn (c : Cx) (env : Env) (V0 : Addr → Prop) (Cs : List (Str × Addr)) (X : List Addr) (ρ : Sto) (x : String) (sl : List Slot) (a : Addr) (fpi fps' : List Addr) (s : Shared) : Prop where
  ns : ∃ m, s.heap.Ns env.locals m ∧ Loc env s m x (.ref a) ∧ StoR c env (Vol V0 X) s m (delS x ρ) fps'
  lst : ∃ vs nn, s.heap.get? a = some { cls := .type "list", data := .seq vs nn } ∧ RepSL c (Vol V0 X) s sl vs.toList fpi
  nd : (env.locals :: (Cs.map (·.2) ++ ((a :: fpi) ++ fps'))).Nodup
  sub : ∀ b ∈ env.locals :: (Cs.map (·.2) ++ ((a :: fpi) ++ fps')), b ∈ X

theorem Fm.opn {x : String} {sl : List Slot} (F : Fm c sc env V0 h0 Cs X ρ s) (h : ρ.lookup x = some (.own sl)) : ∃ a fpi fps', Opn c env V0 Cs X ρ x sl a fpi fps' s := by
  obtain ⟨m, fps, h1, h2, h3, h4, h6, h5⟩ := F.sto
  obtain ⟨v, fp, fps', rest, l, rx, r, hp⟩ := h5.take h
  cases rx with
  | @own a o vs nn _ fpi ho hcl hd hdt rs =>
    have hx1 : (env.locals :: (Cs.map (·.2) ++ fps)).Nodup := h2 ▸ h3
    have hpm : (rest ++ (env.locals :: (Cs.map (·.2) ++ ((a :: fpi) ++ fps')))).Perm (env.locals :: (Cs.map (·.2) ++ fps)) := by
      refine List.perm_middle.trans (List.Perm.cons _ ?_)
      exact (List.perm_append_comm_assoc rest _ _).trans (hp.append_left _)
    refine ⟨a, fpi, fps', ⟨m, h1, l, r⟩, ⟨vs, nn, ?_, rs⟩, (List.nodup_append.mp (hpm.nodup_iff.mpr hx1)).2.1, fun b hb => h2 ▸ hpm.subset (List.mem_append_right _ hb)⟩
    rw [← obj_eq hcl hd hdt]; exact ho

theorem RepSL.gr {V : Addr → Prop} {s' : Shared} {sl v fp} (r : RepSL c V s sl v fp) (g : Gr s s') : RepSL c V s' sl v fp := r.calm (g.calm V) (fun _ q => q) fun _ _ _ e => g.keep _ _ e

theorem Opn.gr {x : String} {sl : List Slot} {a : Addr} {fpi fps' : List Addr} {s' : Shared} (O : Opn c env V0 Cs X ρ x sl a fpi fps' s) (g : Gr s s') : Opn c env V0 Cs X ρ x sl a fpi fps' s' := by
  obtain ⟨m, h1, h2, h3⟩ := O.ns
  obtain ⟨vs, nn, h4, h5⟩ := O.lst
  exact ⟨⟨m, h1.keeps g.keep, h2.calm (fun _ => rfl) fun _ _ _ _ e _ => g.keep _ _ e, h3.gr g⟩, ⟨vs, nn, g.keep _ _ h4, h5.gr g⟩, O.nd, O.sub⟩

theorem Opn.aX {x : String} {sl : List Slot} {a : Addr} {fpi fps' : List Addr} (O : Opn c env V0 Cs X ρ x sl a fpi fps' s) : a ∈ X := O.sub a (.tail _ (List.mem_append_right _ (.head _)))

/-- the list is turned, and all is said again -/
theorem Opn.close {x : String} {sl sl' : List Slot} {a : Addr} {fpi fps' : List Addr} {h' : Heap} {vs' : Array Value} {n' tk : Nat} (F : Fm c sc env V0 h0 Cs X ρ s) (O : Opn c env V0 Cs X ρ x sl a fpi fps' s) (hs : Heap.SameBut a s.heap h') (htk : s.toks ≤ tk)
    (ho : h'.get? a = some { cls := .type "list", data := .seq vs' n' }) (hr : RepSL c (Vol V0 X) { s with heap := h', toks := tk } sl' vs'.toList fpi) :
    ∃ X', Stp X s X' { s with heap := h', toks := tk } ∧ Fm c sc env V0 h0 Cs X' (setS ρ x (.own sl')) { s with heap := h', toks := tk } := by
  obtain ⟨m, h1, h2, h3⟩ := O.ns
  obtain ⟨vs, nn, h4, h5⟩ := O.lst
  have haX := O.aX
  have hnd := List.nodup_cons.mp O.nd
  have hnd2 := List.nodup_append.mp hnd.2
  have haL : env.locals ≠ a := fun q => hnd.1 (q ▸ List.mem_append_right _ (.head _))
  have haC : ∀ p ∈ Cs, p.2 ≠ a := fun p hp q => hnd2.2.2 _ (List.mem_map_of_mem hp) a (.head _) q
  have hcm : Calm (Vol V0 X) s { s with heap := h', toks := tk } := calm_at hs (.inr haX) htk
  have hv : ∀ b, Vol V0 (env.locals :: (Cs.map (·.2) ++ ((a :: fpi) ++ fps'))) b → Vol V0 X b := fun b q => q.imp id (O.sub b)
  have ha0 : ∀ b o, h0.get? b = some o → b ≠ a := fun b o e q => by rw [q, F.new _ haX] at e; cases e
  have haf : a ∉ fpi ∧ a ∉ fps' := by
    have := List.nodup_cons.mp hnd2.2.1
    exact ⟨fun q => this.1 (List.mem_append_left _ q), fun q => this.1 (List.mem_append_right _ q)⟩
  have halive : ∀ b o, s.heap.get? b = some o → ∃ o', h'.get? b = some o' := fun b o e => by
    by_cases q : b = a
    · exact ⟨_, q ▸ ho⟩
    · exact ⟨o, (hs.2 b q).trans e⟩
  obtain ⟨_, _, _, _, _, hlv, hcl, _⟩ := F.sto
  refine ⟨_, ⟨fun b o hb e => (hs.2 b fun q => hb (q ▸ haX)).trans e, htk, rfl, rfl, fun b hb => .inl (O.sub b hb), fun b _ o e => halive b o e⟩,
    ⟨F.good, F.scope, F.kind, F.globals, F.builtins, F.base, fun b o e => (hs.2 b (ha0 b o e)).trans (F.keep b o e), fun e => F.tok (Nat.le_zero.mp (e ▸ htk)), (fun b q => ?_), F.ccells, fun b hb => F.new b (O.sub b hb), F.cells, F.cinj,
      ⟨m, _, h1.sameBut hs haL, rfl, O.nd, fun b hb => ?_, fun p hp => ?_, .cons (v := .ref a) ?_ (.own ho rfl ⟨rfl, rfl⟩ rfl (hr.calm (Gr.calm (.refl _) _) hv fun _ _ _ e => e)) ?_⟩⟩⟩
  · obtain ⟨⟨o, e⟩, hx⟩ := F.live0 b q
    exact ⟨halive b o e, fun q' => hx (O.sub b q')⟩
  · obtain ⟨o, e⟩ := hlv b (O.sub b hb); exact halive b o e
  · obtain ⟨v₀, q⟩ := hcl p hp; exact ⟨v₀, q.sameBut hs (haC p hp)⟩
  · refine h2.calm (fun _ => rfl) fun b o w _ e hw => (hs.2 b fun q => ?_).trans e
    rw [q, h4] at e; cases e; cases hw
  · refine StoR.weak hv (h3.change hcm (fun b hb o e => (hs.2 b fun q => haf.2 (q ▸ hb)).trans e) (fun _ _ _ => rfl) fun p hp b o w _ e hw => (hs.2 b fun q => ?_).trans e)
    rw [q, h4] at e; cases e; cases hw

theorem RepSL.snoc {V : Addr → Prop} {s : Shared} {d : D} {v : Value} (rv : Rep c V s d v) : ∀ {sl vs fp}, RepSL c V s sl vs fp → RepSL c V s (sl ++ [.val d]) (vs ++ [v]) fp
  | _, _, _, .nil => .cons (fp := []) (fps := []) (.val rv) .nil
  | _, _, _, .cons (fp := fp) r rs => .cons r (RepSL.snoc rv rs)
theorem RepSL.length {V : Addr → Prop} {s : Shared} : ∀ {sl vs fp}, RepSL c V s sl vs fp → sl.length = vs.length
  | _, _, _, .nil => rfl
  | _, _, _, .cons _ rs => by simp [rs.length]
theorem RepSL.get {V : Addr → Prop} {s : Shared} {d : D} : ∀ {sl vs fp} {i : Nat}, RepSL c V s sl vs fp → sl[i]? = some (.val d) → ∃ v, vs[i]? = some v ∧ Rep c V s d v
  | _, _, _, _, .nil, h => by simp at h
  | _, _, _, 0, .cons r _, h => by
    simp at h; subst h
    cases r with
    | val r => exact ⟨_, rfl, r⟩
  | _, _, _, i + 1, .cons _ rs, h => by
    obtain ⟨v, h1, h2⟩ := rs.get (i := i) (by simpa using h)
    exact ⟨v, by simpa using h1, h2⟩
theorem RepSL.set {V : Addr → Prop} {s : Shared} {d d' : D} {v : Value} (rv : Rep c V s d v) : ∀ {sl vs fp} {i : Nat}, RepSL c V s sl vs fp → sl[i]? = some (.val d') → RepSL c V s (sl.set i (.val d)) (vs.set i v) fp
  | _, _, _, _, .nil, h => by simp at h
  | _, _, _, 0, .cons r rs, h => by
    simp at h; subst h
    cases r with
    | val r => exact .cons (fp := []) (.val rv) rs
  | _, _, _, i + 1, .cons r rs, h => .cons r (rs.set (i := i) rv (by simpa using h))
theorem RepL.slots {V : Addr → Prop} {s : Shared} : ∀ {ds vs}, RepL c V s ds vs → RepSL c V s (ds.map .val) vs []
  | _, _, .nil => .nil
  | _, _, .cons r rs => .cons (fp := []) (fps := []) (.val r) rs.slots

theorem Opn.load {x : String} {sl : List Slot} {a : Addr} {fpi fps' : List Addr} {E : Value → Shared → Prop} {Q : Value → Shared → Prop} {p : Pos} (F : Fm c sc env V0 h0 Cs X ρ s) (O : Opn c env V0 Cs X ρ x sl a fpi fps' s) (hx : x ≠ "__debug__") (h : Q (.ref a) s) :
    wpAny c.M A (eval (.Name (Str.ofString x) p) env) Q E s := by
  obtain ⟨m, h1, h2, h3⟩ := O.ns
  exact wpAny_Name (h2.load (by rw [F.scope]; exact F.kind) h1 h) (ofString_ne hx)

/-- x.append(e) -/
theorem Sx.append {x : String} {e : Expr} {p ap pos epos : Pos} {sl : List Slot} {d : D} (hx : ρ.lookup x = some (.own sl)) (h : Ev c n sc true ρ e d) (hz : sl.length ≤ 16777216) (hp : plainE e = true := by rfl) (hline : (ap.endLine == pos.line) = true := by rfl) (hxd : x ≠ "__debug__" := by decide)
    (hbase : ∀ env : Env, attributeBase (.Name (Str.ofString x) p) (Str.ofString "append") env (eval (.Name (Str.ofString x) p) env) = eval (.Name (Str.ofString x) p) env := by intro _; rfl)
    (hs : ∀ env : Env, swapsWith (.Call (.Attribute (.Name (Str.ofString x) p) (Str.ofString "append") ap) [e] [] pos) none epos.line env = pure false := by intro _; rfl) :
    Sn c n sc ρ (.Expr (.Call (.Attribute (.Name (Str.ofString x) p) (Str.ofString "append") ap) [e] [] pos) epos) (setS ρ x (.own (sl ++ [.val d]))) := .mk fun A env V0 h0 Cs X s hA hO F => by
  obtain ⟨a, fpi, fps', O⟩ := F.opn hx
  have hi : interactive env = false := by
    unfold interactive
    rw [F.scope, F.kind]; rfl
  refine wpAny_Expr ?_ hi (hs env)
  refine wpAny_Call_method (T := "list") (id := "list.append") (hbase env) ?_ hline PySem.F.plainAttrs_list PySem.F.slot_list_append PySem.F.type_list_append ?_
  · rw [starEach_cons hp]; rfl
  refine O.load F hxd ?_
  obtain ⟨vs, nn, h4, h5⟩ := O.lst
  refine ⟨⟨_, h4, rfl⟩, fun b hb => by cases hb; exact ⟨_, h4, rfl⟩, (Callee.builtin (c := c) "list.append").wp (first := [.ref a]) (by simp [hp]) ?_⟩
  refine wpAny_items_cons (wpAny_mono (h.run A env V0 h0 Cs X s hA F) (fun v s₁ q₁ => wpAny_items_nil ⟨(F.gr q₁.1).base.trans (F.gr q₁.1).keep, ?_⟩) fun _ _ q => q.elim) (starEach_cons hp)
  obtain ⟨vs, nn, h4, h5⟩ := (O.gr q₁.1).lst
  have hl := h5.length
  refine append_wp h4 rfl ⟨rfl, rfl⟩ rfl (fun h' o' n' e1 e2 e3 e4 e5 => ?_) (by simp at hl; omega)
  have hcm : Calm (Vol V0 X) s₁ { s₁ with heap := h' } := calm_at (tk := s₁.toks) e5 (.inr O.aX) (Nat.le_refl _)
  have hnd := (List.nodup_append.mp (List.nodup_cons.mp O.nd).2).2.1
  have haf : a ∉ fpi := fun q => (List.nodup_cons.mp hnd).1 (List.mem_append_left _ q)
  obtain ⟨X', g, F'⟩ := (O.gr q₁.1).close (F.gr q₁.1) (sl' := sl ++ [.val d]) (tk := s₁.toks) e5 (Nat.le_refl _) (by rw [← obj_eq e2 e3 e4]; exact e1) (by
    rw [Array.toList_push]
    exact ((RepSL.snoc (q₁.2.weak fun _ q => ⟨rfl, q⟩) h5).calm hcm (fun _ q => q) fun b hb o e => (e5.2 b fun q => haf (q ▸ hb)).trans e))
  exact ⟨X', _, .next, (Stp.of_gr q₁.1).trans g, F', .next, rfl, rfl⟩

set_option maxRecDepth 100000 in
/-- l[k] = v, with the object told -/
theorem set_wp' {prog : Program} {w : World} {E : Value → Shared → Prop} {l : Addr} {items : Array Value} {nn : Nat} {k : Int} {t : Tok} {v : Value} {Q : Unit → Shared → Prop} (ho : s.heap.get? l = some { cls := .type "list", data := .seq items nn })
    (h0 : 0 ≤ k) (hfit : k < 2 ^ 63) (hj : k < items.size) (hQ : ∀ h' n', h'.get? l = some { cls := .type "list", data := .seq (items.setIfInBounds k.toNat v) n' } → Heap.SameBut l s.heap h' → Q () { s with heap := h' }) :
    wpAny (model prog w) A (PySem.setItem (.ref l) (.int k t) v) Q E s := by
  have hT : s.TypeIs (.ref l) "list" := ⟨_, ho, rfl⟩
  unfold PySem.setItem
  try with_reducible refine wpAny_holding ?_
  refine wpAny_bind (wpAny_sequenceKey hT (by decide) ?_)
  refine wpAny_bind (wpAny_callSpecial?_slot (name := Str.ofString "__setitem__") hT slot_list_setitem (wpAny_call_entry slot_list_setitem hT entry_list_setitem ?_ (args_list_setitem _ _ _)))
  show wpAny _ _ (Builtin.List.listSubscript? (.int k t) >>= _) _ _ s
  refine wpAny_bind (wpAny_listSubscript_int (fitsIndex_of h0 hfit) ?_)
  clear hfit
  obtain ⟨j, rfl⟩ := Int.eq_ofNat_of_zero_le h0
  have hjl : j < items.size := by omega
  show wpAny _ _ ((seqItemAt l j >>= fun r => pure (r.map (j, ·))) >>= _) _ _ s
  refine wpAny_bind (wpAny_bind (wpAny_seqItemAt ho rfl (wpAny_pure ?_)))
  rw [Array.getElem?_eq_getElem hjl]
  show wpAny _ _ (setSeqItemAt l j v >>= _) _ _ s
  obtain ⟨n', hd'⟩ := Obj.data_mapSeq (o := { cls := .type "list", data := .seq items nn }) rfl (·.setIfInBounds j v)
  refine wpAny_bind (wpAny_setSeqItemAt ho rfl ?_)
  have hfin := Heap.get?_update_self (Obj.mapSeq (·.setIfInBounds j v)) ho (Obj.isFreed_of_seq hd')
  have hd2 := Obj.dict_mapSeq { cls := .type "list", data := .seq items nn } (·.setIfInBounds j v)
  rw [obj_eq ((Obj.cls_mapSeq ..).trans rfl) ⟨hd2.1, hd2.2⟩ hd'] at hfin
  first
    | exact wpAny_bind (wpAny_pure (wpAny_pure ⟨.none, rfl, wpAny_pure (hQ _ n' hfin (Heap.SameBut.update ..))⟩))
    | exact wpAny_pure ⟨.none, rfl, wpAny_pure (hQ _ n' hfin (Heap.SameBut.update ..))⟩
theorem set_wp {prog : Program} {w : World} {E : Value → Shared → Prop} {l : Addr} {items : Array Value} {nn : Nat} {j : Nat} {t : Tok} {v : Value} {Q : Unit → Shared → Prop} (ho : s.heap.get? l = some { cls := .type "list", data := .seq items nn })
    (hfit : (j : Int) < 2 ^ 63) (hj : j < items.size) (hQ : ∀ h' n', h'.get? l = some { cls := .type "list", data := .seq (items.setIfInBounds j v) n' } → Heap.SameBut l s.heap h' → Q () { s with heap := h' }) :
    wpAny (model prog w) A (PySem.setItem (.ref l) (.int j t) v) Q E s := set_wp' ho (by omega) hfit (by omega) (by rw [Int.toNat_natCast]; exact hQ)

theorem Opn.setAt {x : String} {sl : List Slot} {a : Addr} {fpi fps' : List Addr} {j : Nat} {t : Tok} {v : Value} {d d' : D} (F : Fm c sc env V0 h0 Cs X ρ s) (O : Opn c env V0 Cs X ρ x sl a fpi fps' s) (hj : sl[j]? = some (.val d')) (hz : sl.length ≤ 16777216) (rv : Rep c (Vol V0 X) s d v) :
    wpAny c.M A (PySem.setItem (.ref a) (.int j t) v) (fun _ s' => ∃ X', Stp X s X' s' ∧ Fm c sc env V0 h0 Cs X' (setS ρ x (.own (sl.set j (.val d)))) s') NoE s := by
  obtain ⟨vs, nn, h4, h5⟩ := O.lst
  have hl : sl.length = vs.size := by have := h5.length; simpa using this
  have hjl : j < sl.length := (List.getElem?_eq_some_iff.mp hj).1
  refine set_wp h4 (by omega) (by omega) fun h' n' e1 e5 => ?_
  have hcm : Calm (Vol V0 X) s { s with heap := h' } := calm_at (tk := s.toks) e5 (.inr O.aX) (Nat.le_refl _)
  have hnd := (List.nodup_append.mp (List.nodup_cons.mp O.nd).2).2.1
  have haf : a ∉ fpi := fun q => (List.nodup_cons.mp hnd).1 (List.mem_append_left _ q)
  refine O.close F (tk := s.toks) e5 (Nat.le_refl _) e1 ?_
  rw [Array.toList_setIfInBounds]
  exact (RepSL.set rv h5 hj).calm hcm (fun _ q => q) fun b hb o e => (e5.2 b fun q => haf (q ▸ hb)).trans e

theorem Sx.setItem {x : String} {ie e : Expr} {p sp pos : Pos} {sl : List Slot} {j : Nat} {d d' : D} (hx : ρ.lookup x = some (.own sl)) (h : Ev c n sc true ρ e d) (hi : Ev c n sc true ρ ie (.int j)) (hj : sl[j]? = some (.val d')) (hz : sl.length ≤ 16777216) (hxd : x ≠ "__debug__" := by decide)
    (hs : ∀ env : Env, swapsWith e (some (.Subscript (.Name (Str.ofString x) p) ie sp)) pos.line env = pure false := by intro _; rfl) :
    Sn c n sc ρ (.Assign [.Subscript (.Name (Str.ofString x) p) ie sp] e pos) (setS ρ x (.own (sl.set j (.val d)))) := .mk fun A env V0 h0 Cs X s hA hO F => by
  obtain ⟨a, fpi, fps', O⟩ := F.opn hx
  refine wpAny_Assign_Subscript (wpAny_mono (h.run A env V0 h0 Cs X s hA F) (fun v s₁ q₁ => (O.gr q₁.1).load (F.gr q₁.1) hxd (wpAny_mono (hi.run A env V0 h0 Cs X s₁ hA (F.gr q₁.1)) (fun iv s₂ q₂ => ?_) fun _ _ q => q)) fun _ _ q => q) (hs env)
  obtain ⟨g₂, r₂⟩ := q₂
  cases r₂
  have g := q₁.1.trans g₂
  refine wpAny_mono ((O.gr g).setAt (F.gr g) hj hz ((q₁.2.gr g₂).weak fun _ q => ⟨rfl, q⟩)) (fun _ s' q => ?_) fun _ _ q => q
  obtain ⟨X', g', F'⟩ := q
  exact ⟨X', _, .next, (Stp.of_gr g).trans g', F', .next, rfl, rfl⟩

theorem Sx.augItem {x : String} {ie e : Expr} {op : Operator} {p sp pos : Pos} {sl : List Slot} {j : Nat} {d d' d₂ : D} (hx : ρ.lookup x = some (.own sl)) (hi : Ev c n sc true ρ ie (.int j)) (h : Ev c n sc true ρ e d₂) (hj : sl[j]? = some (.val d')) (hop : InpR c op d' d₂ d) (hz : sl.length ≤ 16777216) (hxd : x ≠ "__debug__" := by decide)
    (hst : ∀ ov iv new, augStore ie ov iv new = (do holding [new, ov, iv] (PySem.setItem ov iv new); release [new, ov, iv] []; pure .next) := by intros; rfl) :
    Sn c n sc ρ (.AugAssign (.Subscript (.Name (Str.ofString x) p) ie sp) op e pos) (setS ρ x (.own (sl.set j (.val d)))) := .mk fun A env V0 h0 Cs X s hA hO F => by
  obtain ⟨a, fpi, fps', O⟩ := F.opn hx
  refine wpAny_AugAssign_SubscriptAny (O.load F hxd (wpAny_mono (hi.run A env V0 h0 Cs X s hA F) (fun iv s₁ q₁ => ?_) fun _ _ q => q)) hst
  obtain ⟨g₁, r₁⟩ := q₁
  cases r₁
  obtain ⟨vs, nn, h4, h5⟩ := (O.gr g₁).lst
  obtain ⟨v, hv, rv⟩ := h5.get hj
  have hl := h5.length
  have hjl : j < sl.length := (List.getElem?_eq_some_iff.mp hj).1
  rw [Array.getElem?_toList] at hv
  refine wpAny_getItem_list ⟨_, h4, rfl, _, rfl⟩ (by omega) (by omega) (by rw [Int.toNat_natCast]; exact hv) ?_
  refine wpAny_mono (h.run A env V0 h0 Cs X s₁ hA (F.gr g₁)) (fun w s₂ q₂ => ?_) fun _ _ q => q
  have g2 := g₁.trans q₂.1
  refine wpAny_mono (hop A _ s₂ v w hA.zero ((F.st true).gr g2) ((rv.weak fun _ q => q.2).gr q₂.1) q₂.2) (fun nw s₃ q₃ => ?_) fun _ _ q => q
  have g3 := g2.trans q₃.1
  refine wpAny_mono ((O.gr g3).setAt (F.gr g3) hj hz (q₃.2.weak fun _ q => ⟨rfl, q⟩)) (fun _ s' q => ?_) fun _ _ q => q
  obtain ⟨X', g', F'⟩ := q
  exact ⟨X', _, .next, (Stp.of_gr g3).trans g', F', .next, rfl, rfl⟩

/-- a fresh list that may be turned -/
theorem EvS.list {es : List Expr} {pos : Pos} {ds : List D} (h : EvL c n sc true ρ es ds) (hsz : ds.length ≤ sizeLine) : EvS c n sc ρ (.List es pos) (.own (ds.map .val)) := .mk fun A env V0 h0 Cs X s hA F =>
  wpAny_List (wpAny_mono (h.run A env V0 h0 Cs X s pos hA F) (fun vs s₁ q => ⟨q.2.length ▸ hsz, q.1.trans (.push _), [s₁.heap.objs.size], .own (Heap.get?_push_size _ rfl) rfl ⟨rfl, rfl⟩ rfl (RepL.slots (by
    have r := (q.2.gr (.push { cls := .type "list", data := .seq vs.toArray }))
    have r2 : RepL c (fun a => VK true V0 X a ∨ a = s₁.heap.objs.size) s₁ ds vs := q.2.ext fun a e => e ▸ get_size _
    refine (r2.gr (.push { cls := .type "list", data := .seq vs.toArray })).weak fun a e => ?_
    rcases e with e | e
    · exact .inl ⟨rfl, .inl e⟩
    · rcases List.mem_append.mp e with e | e
      · exact .inl ⟨rfl, .inr e⟩
      · exact .inr (List.mem_singleton.mp e))), by simp, fun a ha => by
    rw [List.mem_singleton.mp ha]
    cases e : s.heap.get? s₁.heap.objs.size with
    | none => rfl
    | some o => have := q.1.keep _ _ e; rw [get_size] at this; cases this⟩) fun _ _ q => q)

end
end Mine
namespace Mine

/-- the parts of a text between the signs q -/
def splitQ (q : Nat) : List Nat → List (List Nat)
  | [] => [[]]
  | x :: r => if x = q then [] :: splitQ q r else (x :: (splitQ q r).headD []) :: (splitQ q r).tail
theorem splitQ_ne (q : Nat) (l : List Nat) : splitQ q l ≠ [] := by
  cases l with
  | nil => simp [splitQ]
  | cons x r => unfold splitQ; split <;> simp
theorem splitQ_free {q : Nat} : ∀ {p : List Nat}, q ∉ p → splitQ q p = [p]
  | [], _ => rfl
  | x :: r, h => by
    have hx : x ≠ q := fun e => h (e ▸ .head _)
    unfold splitQ
    rw [if_neg hx, splitQ_free fun m => h (.tail _ m)]; rfl
theorem splitQ_cut {q : Nat} {m : List Nat} : ∀ {p : List Nat}, q ∉ p → splitQ q (p ++ q :: m) = p :: splitQ q m
  | [], _ => by simp [splitQ]
  | x :: r, h => by
    have hx : x ≠ q := fun e => h (e ▸ .head _)
    show (if x = q then [] :: splitQ q (r ++ q :: m) else (x :: (splitQ q (r ++ q :: m)).headD []) :: (splitQ q (r ++ q :: m)).tail) = _
    rw [if_neg hx, splitQ_cut fun m => h (.tail _ m)]; rfl
theorem splitQ_of {q : Nat} : ∀ (parts : List Str), parts ≠ [] → (∀ p ∈ parts, q ∉ p.cps.toList) → splitQ q (Str.join ⟨#[q]⟩ parts).cps.toList = parts.map (·.cps.toList)
  | [], h, _ => absurd rfl h
  | [x], _, h => splitQ_free (h x (.head _))
  | x :: y :: r, _, h => by
    have ih := splitQ_of (y :: r) (by simp) fun p hp => h p (.tail _ hp)
    show splitQ q (x ++ ⟨#[q]⟩ ++ Str.join ⟨#[q]⟩ (y :: r)).cps.toList = _
    have e : (x ++ ⟨#[q]⟩ ++ Str.join ⟨#[q]⟩ (y :: r)).cps.toList = x.cps.toList ++ q :: (Str.join ⟨#[q]⟩ (y :: r)).cps.toList := by
      rw [Str.cps_append, Str.cps_append]; simp
    rw [e, splitQ_cut (h x (.head _)), ih]; rfl
theorem split_S (q : Nat) (l : List Nat) : Txt.split (S l) ⟨#[q]⟩ = (splitQ q l).map S := by
  have h1 := StrLaws.join_split (S l) ⟨#[q]⟩
  have h3 : Txt.split (S l) ⟨#[q]⟩ ≠ [] := by
    unfold Txt.split
    split
    · simp
    · split
      · simp
      · rename_i hne
        cases e : Builtin.Str.occurrences (S l) ⟨#[q]⟩ 0 (S l).length ((S l).length + 1) with
        | nil => rw [e] at hne; simp at hne
        | cons i r => simp [Builtin.Str.partsBetween]
  have h2 := splitQ_of _ h3 (StrLaws.split_free (S l) q)
  rw [h1] at h2
  have h4 : (S l).cps.toList = l := by simp
  rw [h4] at h2
  rw [h2, List.map_map]
  have : ∀ t : List Str, t = t.map (S ∘ fun x => x.cps.toList) := fun t => by
    induction t with
    | nil => rfl
    | cons x t ih => rw [List.map_cons, ← ih]; simp [← S_of]
  exact this _
theorem splitQ_len (q : Nat) : ∀ l : List Nat, (splitQ q l).length ≤ l.length + 1
  | [] => by simp [splitQ]
  | x :: r => by
    have := splitQ_len q r
    have := splitQ_ne q r
    unfold splitQ
    split
    · simp; omega
    · simp; omega

section
variable {c : Cx} {n : Nat} {sc : Scope} {k : Bool} {ρ ρ' : Sto}

theorem strsRep {V : Addr → Prop} {s : Shared} : ∀ (l : List (Str × Tok)), RepL c V s (l.map fun p => D.str p.1) (strValues l)
  | [] => .nil
  | p :: r => .cons (.str _ _) (strsRep r)
theorem repL_strs {V : Addr → Prop} {s : Shared} : ∀ {ls : List (List Nat)} {vs : List Value}, RepL c V s (ls.map sd) vs → ∃ l : List (Str × Tok), vs = strValues l ∧ l.map (·.1) = ls.map S
  | [], _, .nil => ⟨[], rfl, rfl⟩
  | x :: ls, _, .cons (.str _ t) r => by
    obtain ⟨l, h1, h2⟩ := repL_strs r
    exact ⟨(S x, t) :: l, by rw [h1]; rfl, by rw [List.map_cons, h2]; rfl⟩
theorem numbered_rep {V : Addr → Prop} {s : Shared} {tk : Nat} {parts : List Str} {ls : List (List Nat)} (h : parts = ls.map S) : RepL c V s (ls.map sd) (strsFrom tk parts) := by
  have := strsRep (c := c) (V := V) (s := s) (numbered tk parts)
  rw [strsFrom_eq]
  have e : (numbered tk parts).map (fun p => D.str p.1) = ls.map sd := by
    have h2 := congrArg (List.map D.str) (numbered_texts tk parts)
    rw [List.map_map] at h2
    rw [show (fun p : Str × Tok => D.str p.1) = D.str ∘ (fun p => p.1) from rfl, h2, h, List.map_map]
    rfl
  rw [← e]; exact this

theorem FnR.split {l y : List Nat} {q : Nat} (hy : y = [q]) (hz : l.length < 16777216) : FnR c n (.builtin "str.split") [sd l, sd y] (.list ((splitQ q l).map sd)) := .mk fun A V s vs hA hS r => by
  subst hy
  cases r with
  | cons r rs => cases rs with
    | cons r' rs => cases rs; cases r with
      | str _ t => cases r' with
        | str _ u =>
          have hsp := split_S q l
          have hln := splitQ_len q l
          refine wp_end ?_
          cases h1 : (decide ((S l).length < (S [q]).length) || decide (Builtin.Str.strKind (S l) < Builtin.Str.strKind (S [q])))
          · cases hf : (Builtin.Str.occurrences (S l) (S [q]) 0 (S l).length ((S l).length + 1)).isEmpty
            · have e : Txt.split (S l) ⟨#[q]⟩ = Builtin.Str.partsBetween (S l) (Builtin.Str.occurrences (S l) (S [q]) 0 (S l).length ((S l).length + 1)) (S [q]).length :=
                (if_neg (ne_true_of_eq_false h1)).trans (if_neg (ne_true_of_eq_false hf))
              rw [hsp] at e
              refine call_meets PySem.F.slot_str_split (typeIs_str _ _ _) PySem.F.entry_str_split (PySem.F.args_str_split_2 _ _) (meets_str_split_sep (S l) (S [q]) t u h1 rfl hf (by rw [S_length, sizeLine_eq]; omega) (by rw [← e, List.length_map, sizeLine_eq]; omega)) ?_
              refine ⟨fun _ _ e => Heap.get?_push_of_some _ e, rfl, rfl, fun _ => .list hS.new (Heap.get?_push_size _ rfl) rfl ⟨rfl, rfl⟩ rfl (numbered_rep e.symm)⟩
            · have e : Txt.split (S l) ⟨#[q]⟩ = [S l] := (if_neg (ne_true_of_eq_false h1)).trans (if_pos hf)
              rw [hsp] at e
              refine call_meets PySem.F.slot_str_split (typeIs_str _ _ _) PySem.F.entry_str_split (PySem.F.args_str_split_2 _ _) (meets_str_split_not_found (S l) (S [q]) t u h1 rfl hf) ?_
              refine ⟨fun _ _ e => Heap.get?_push_of_some _ e, rfl, rfl, fun _ => .list hS.new (Heap.get?_push_size _ rfl) rfl ⟨rfl, rfl⟩ rfl ?_⟩
              have e2 : (splitQ q l).map sd = [sd l] := by
                have := congrArg (List.map D.str) e
                rw [List.map_map] at this; exact this
              rw [e2]; exact .cons (.str _ _) .nil
          · have e : Txt.split (S l) ⟨#[q]⟩ = [S l] := if_pos h1
            rw [hsp] at e
            refine call_meets PySem.F.slot_str_split (typeIs_str _ _ _) PySem.F.entry_str_split (PySem.F.args_str_split_2 _ _) (meets_str_split_cannot_occur (S l) (S [q]) t u h1) ?_
            refine ⟨fun _ _ e => Heap.get?_push_of_some _ e, rfl, rfl, fun _ => .list hS.new (Heap.get?_push_size _ rfl) rfl ⟨rfl, rfl⟩ rfl ?_⟩
            have e2 : (splitQ q l).map sd = [sd l] := by
              have := congrArg (List.map D.str) e
              rw [List.map_map] at this; exact this
            rw [e2]; exact .cons (.str _ _) .nil

theorem startswith_S (a b : List Nat) : Txt.startswith (S a) (S b) = decide (b <+: a) := by
  unfold Txt.startswith
  rw [StrLaws.subAt_eq, S_length, S_length]
  have e1 : (S a).cps.toList = a := by simp
  have e2 : (S b).cps.toList = b := by simp
  rw [e1, e2, List.drop_zero]
  rw [Bool.eq_iff_iff, Bool.and_eq_true, decide_eq_true_eq, decide_eq_true_eq, beq_iff_eq]
  constructor
  · rintro ⟨_, h⟩; rw [← h]; exact List.take_prefix _ _
  · intro h; exact ⟨by have := h.length_le; omega, (List.prefix_iff_eq_take.mp h).symm⟩
theorem FnR.startswith {a b : List Nat} : FnR c n (.builtin "str.startswith") [sd a, sd b] (.bool (decide (b <+: a))) := .mk fun A V s vs hA hS r => by
  cases r with
  | cons r rs => cases rs with
    | cons r' rs => cases rs; cases r with
      | str _ t => cases r' with
        | str _ u =>
          refine wp_end (call_gives PySem.F.slot_str_startswith (typeIs_str _ _ _) PySem.F.entry_str_startswith (PySem.F.args_str_startswith_2 _ _) (gives_str_startswith (S a) (S b) t u) ⟨fun _ _ e => e, rfl, rfl, fun _ => ?_⟩)
          have := startswith_S a b
          unfold Txt.startswith at this
          rw [this]; exact .bool _

theorem join_S : ∀ ls : List (List Nat), Str.join (S []) (ls.map S) = S ls.flatten
  | [] => rfl
  | [x] => by simp [Str.join]
  | x :: y :: r => by
    show S x ++ S [] ++ Str.join (S []) ((y :: r).map S) = _
    rw [join_S (y :: r), S_append, S_append]; simp
theorem FnR.join0 {ls : List (List Nat)} (hz : ls.flatten.length ≤ 16777216) : FnR c n (.builtin "str.join") [sd [], .list (ls.map sd)] (sd ls.flatten) := .mk fun A V s vs hA hS r => by
  cases r with
  | cons r rs => cases rs with
    | cons r' rs => cases rs; cases r with
      | str _ t => cases r' with
        | @list a o ws nn _ na ho hcl hd hdt r =>
          obtain ⟨l, h1, h2⟩ := repL_strs r
          refine wp_end (SC.join (D := a) (l := l) (texts := ls.map S) ⟨o, ho, hcl, nn, by rw [hdt, ← h1]⟩ h2 ?_ fun t' k => ⟨fun _ _ e => e, rfl, rfl, fun _ => ?_⟩)
          · unfold JoinOk
            rw [Bool.not_eq_true', StrLaws.joinTotal]
            unfold Builtin.Str.tooLong
            rw [sizeLine_eq]
            have e : ((ls.map S).map (·.length)).sum = ls.flatten.length := by
              rw [List.map_map, List.length_flatten]
              congr 1
            rw [e, S_length]
            simp only [List.length_nil, Nat.mul_zero, Nat.add_zero]
            exact decide_eq_false (by omega)
          · have : Txt.join (S []) (ls.map S) = S ls.flatten := (StrLaws.glued_eq_join _ _).trans (join_S ls)
            rw [this]; exact .str _ _

theorem foldl_arr (x : Array Nat) : ∀ (m : Nat) (acc : Array Nat), ((List.replicate m x).foldl (· ++ ·) acc).toList = acc.toList ++ (List.replicate m x.toList).flatten
  | 0, acc => by simp
  | m + 1, acc => by rw [List.replicate_succ, List.foldl_cons, foldl_arr x m, List.replicate_succ]; simp
theorem BinR.mulS {l : List Nat} {m : Nat} (hz : l.length * m ≤ 16777216) (hm : m ≤ 16777216) : BinR c .Mult (sd l) (.int m) (sd (List.replicate m l).flatten) := fun A V s v₁ v₂ _ _ r₁ r₂ => by
  cases r₁ with
  | str _ t => cases r₂ with
    | int _ u =>
      refine wp_end (P.mul_str ?_ (fun h1 h2 => ?_) (fun h1 h2 => ?_) ?_)
      · have a1 : ¬ ((m : Int) < -(2 ^ 63 : Int)) := by omega
        have a2 : ¬ ((m : Int) ≥ 2 ^ 63) := by omega
        rw [decide_eq_false a1, decide_eq_false a2]; rfl
      · rw [S_length]
        have hm1 : 1 ≤ m := by omega
        have hl : l.length ≤ 16777216 := Nat.le_trans (Nat.le_mul_of_pos_right _ hm1) hz
        intro q
        have h3 : (16777216 : Int) ≤ (2 ^ 63 - 1) / (m : Int) := by
          apply Int.le_ediv_of_mul_le (by omega)
          have : (16777216 : Int) * m ≤ 16777216 * 16777216 := by omega
          omega
        omega
      · rw [S_length, Int.toNat_natCast]
        unfold Builtin.Str.tooLong
        rw [sizeLine_eq]; exact decide_eq_false (by omega)
      · have fin : ∀ (x : Str) (t' : Tok) (k : Nat), x = S (List.replicate m l).flatten → Keeps s.heap s.heap ∧ s.gens = s.gens ∧ s.os = s.os ∧ (s.toks ≤ k → Rep c V { s with toks := k } (sd (List.replicate m l).flatten) (.str x t')) :=
          fun x t' k e => ⟨fun _ _ e => e, rfl, rfl, fun _ => by rw [e]; exact .str _ _⟩
        by_cases h1 : (m : Int) < 1
        · rw [if_pos h1]
          have : m = 0 := by omega
          subst this
          exact ⟨by decide, fin _ _ _ rfl⟩
        · rw [if_neg h1]
          by_cases h2 : ((m : Int) == 1 || (S l).length == 0) = true
          · rw [if_pos h2]
            refine fin _ _ _ ?_
            rw [Bool.or_eq_true, beq_iff_eq, beq_iff_eq, S_length] at h2
            rcases h2 with h2 | h2
            · have : m = 1 := by omega
              subst this; simp
            · have : l = [] := List.eq_nil_of_length_eq_zero h2
              subst this; simp
          · rw [if_neg h2]
            have e : (⟨(List.replicate (m : Int).toNat (S l).cps).foldl (· ++ ·) #[]⟩ : Str) = S (List.replicate m l).flatten := by
              apply StrLaws.mk_of_toList
              rw [foldl_arr, Int.toNat_natCast]; simp
            refine ⟨?_, fin _ _ _ e⟩
            rw [e, S_length, sizeLine_eq]; simp; rw [Nat.mul_comm]; exact hz

theorem FnR.sumL {ns : List Int} : FnR c n (.builtin "sum") [.list (ns.map D.int)] (.int ns.sum) := .mk fun A V s vs hA hS r => by
  cases r with
  | cons r rs => cases rs; cases r with
    | @list a o vs nn _ na ho hcl hd hdt r =>
      have hi := r.ints
      obtain ⟨xs, hx⟩ := hi.allInts.items
      have hx' : vs = intItems xs := by rw [← hx]
      have hn : numsOf (intItems xs).toList = ns := hx' ▸ hi.numsOf
      rw [nums_intItems] at hn
      have hl : s.heap.IsList a (intItems xs) := ⟨o, ho, hcl, nn, by rw [hdt, hx']⟩
      have hne : a ≠ s.heap.objs.size := Nat.ne_of_lt (Heap.lt_size ho)
      have hsz : (intItems xs).size = xs.size := by simp [intItems]
      have W := (Walks.list (prog := c.prog) (w := c.w) (A := A.in1) hA.handled s.heap.objs.size a hne (intItems xs)).toS
      rw [hsz] at W
      refine wp_end (call_sum_walkAnyS (wpAny_pyIter_list hl ?_))
      refine ⟨s.heap.objs.size, _, _, _, _, _, _, numAt xs, rfl, W, ⟨⟨_, Heap.get?_push_size _ rfl, rfl, rfl⟩, hl.at fun o e => Heap.get?_push_of_some _ e⟩, fun b hb => ?_, fun i v hP => intItems_at hP, fun s' t' hm => ?_⟩
      · rcases List.mem_cons.mp hb with rfl | hb
        · exact Heap.lt_size (Heap.get?_push_size _ rfl)
        · obtain rfl := List.mem_singleton.mp hb
          exact Heap.lt_size (Heap.get?_push_of_some _ ho)
      · refine ⟨fun b o e => hm.heap b o (fun hb => absurd (Heap.lt_size e) ((List.mem_singleton.mp hb) ▸ Nat.lt_irrefl _)) (Heap.get?_push_of_some _ e), hm.gens, hm.os, fun _ => ?_⟩
        rw [preSum_eq, List.take_of_length_le (by simp), hn]
        exact .int _ _

end
end Mine
namespace Mine
section
variable {c : Cx} {n : Nat} {sc : Scope} {k : Bool} {ρ ρ' : Sto}

theorem Room.below {A : Around} (h : Room n A) : A.units < cLine := by have := h.units; omega

theorem strsAt {V : Addr → Prop} {s : Shared} : ∀ {ls : List (List Nat)} {vs : List Value}, RepL c V s (ls.map sd) vs → ∀ j (h1 : j < ls.length) (h2 : j < vs.length), ∃ t, vs[j] = .str (S ls[j]) t
  | [], _, .nil, _, h1, _ => by cases h1
  | x :: ls, _, .cons (.str _ t) r, 0, _, _ => ⟨t, rfl⟩
  | x :: ls, _, .cons (.str _ t) r, j + 1, h1, h2 => strsAt r j (Nat.lt_of_succ_lt_succ h1) (Nat.lt_of_succ_lt_succ h2)

theorem S_beq (a b : List Nat) : (S a == S b) = decide (a = b) := by
  by_cases h : a = b
  · simp [h]
  · simp [h]

theorem all_eq {a b : List (List Nat)} (h : a.length = b.length) : (List.range a.length).all (fun j => decide (a.getD j [] = b.getD j [])) = decide (a = b) := by
  rw [Bool.eq_iff_iff, decide_eq_true_eq, List.all_eq_true]
  constructor
  · intro q
    refine List.ext_getElem h fun j h1 h2 => ?_
    have := q j (List.mem_range.mpr h1)
    rw [decide_eq_true_eq, List.getD_eq_getElem?_getD, List.getD_eq_getElem?_getD, List.getElem?_eq_getElem h1, List.getElem?_eq_getElem h2] at this
    exact this
  · rintro rfl j _; simp

/-- lists of texts, compared -/
theorem eqLS_aux {a b : List (List Nat)} {A : Around} {V : Addr → Prop} {s : Shared} {v₁ v₂ : Value} (hA : Room 0 A) (r₁ : Rep c V s (.list (a.map sd)) v₁) (r₂ : Rep c V s (.list (b.map sd)) v₂) :
    SeqAt.RcAt A s v₁ v₂ (decide (a = b)) ∧ SeqAt.RcNeAt A s v₁ v₂ (!decide (a = b)) := by
  cases r₁ with
  | @list x o vs nn _ na ho hcl hd hdt r₁ => cases r₂ with
    | @list y o2 ws nn2 _ na2 ho2 hcl2 hd2 hdt2 r₂ =>
      have l1 := r₁.length
      have l2 := r₂.length
      simp only [Array.length_toList, List.length_map] at l1 l2
      have i1 : s.heap.IsList x vs := ⟨o, ho, hcl, nn, hdt⟩
      have i2 : s.heap.IsList y ws := ⟨o2, ho2, hcl2, nn2, hdt2⟩
      by_cases h : a.length = b.length
      · have hsz : vs.size = ws.size := by omega
        have he : ∀ j (h1 : j < vs.size) (h2 : j < ws.size), SeqAt.EqAt A.in1 s vs[j] ws[j] (decide (a.getD j [] = b.getD j [])) := fun j h1 h2 => by
          obtain ⟨t, e1⟩ := strsAt r₁ j (by omega) (by simpa using h1)
          obtain ⟨u, e2⟩ := strsAt r₂ j (by omega) (by simpa using h2)
          rw [Array.getElem_toList] at e1 e2
          rw [e1, e2]
          have e3 := SeqAt.EqAt.str_str (A := A.in1) (s := s) (S a[j]) t (S b[j]) u
          rw [S_beq] at e3
          have g1 : a.getD j [] = a[j] := by rw [List.getD_eq_getElem?_getD, List.getElem?_eq_getElem (by omega)]; rfl
          have g2 : b.getD j [] = b[j] := by rw [List.getD_eq_getElem?_getD, List.getElem?_eq_getElem (by omega)]; rfl
          rw [g1, g2]; exact e3
        have h1 := SeqAt.RcAt.lists i1 i2 hsz hA.below he
        have h2 := SeqAt.RcNeAt.lists i1 i2 hsz hA.below he
        rw [← l1, all_eq h] at h1 h2
        exact ⟨h1, h2⟩
      · have hne : (vs.size != ws.size) = true := by simp; omega
        have h1 := SeqAt.RcAt.lists_lengths i1 i2 hne hA.below
        have h2 := SeqAt.RcNeAt.lists_lengths i1 i2 hne hA.below
        have : decide (a = b) = false := decide_eq_false fun q => h (by rw [q])
        rw [this]; exact ⟨h1, h2⟩
theorem CmpR.eqLS {a b : List (List Nat)} : CmpR c .Eq (.list (a.map sd)) (.list (b.map sd)) (decide (a = b)) := fun A V s v₁ v₂ hA _ r₁ r₂ =>
  (eqLS_aux hA r₁ r₂).1 c.prog c.w _ _ ⟨.refl s, rfl⟩
theorem CmpR.neLS {a b : List (List Nat)} : CmpR c .NotEq (.list (a.map sd)) (.list (b.map sd)) (decide (a ≠ b)) := fun A V s v₁ v₂ hA _ r₁ r₂ =>
  (eqLS_aux hA r₁ r₂).2 c.prog c.w _ _ ⟨.refl s, by rw [decide_not]⟩

/-- is the list empty? -/
theorem eqNil_aux {ds : List D} {A : Around} {V : Addr → Prop} {s : Shared} {v₁ v₂ : Value} (hA : Room 0 A) (r₁ : Rep c V s (.list ds) v₁) (r₂ : Rep c V s (.list []) v₂) :
    SeqAt.RcAt A s v₁ v₂ ds.isEmpty ∧ SeqAt.RcNeAt A s v₁ v₂ (!ds.isEmpty) := by
  cases r₁ with
  | @list x o vs nn _ na ho hcl hd hdt r₁ => cases r₂ with
    | @list y o2 ws nn2 _ na2 ho2 hcl2 hd2 hdt2 r₂ =>
      have l1 := r₁.length
      have l2 := r₂.length
      simp only [Array.length_toList, List.length_nil] at l1 l2
      have i1 : s.heap.IsList x vs := ⟨o, ho, hcl, nn, hdt⟩
      have i2 : s.heap.IsList y ws := ⟨o2, ho2, hcl2, nn2, hdt2⟩
      cases ds with
      | nil =>
        have hsz : vs.size = ws.size := by simp at l1; omega
        have he : ∀ j (h1 : j < vs.size) (h2 : j < ws.size), SeqAt.EqAt A.in1 s vs[j] ws[j] true := fun j h1 h2 => by omega
        have h1 := SeqAt.RcAt.lists (e := fun _ => true) i1 i2 hsz hA.below he
        have h2 := SeqAt.RcNeAt.lists (e := fun _ => true) i1 i2 hsz hA.below he
        have : (List.range vs.size).all (fun _ => true) = true := by simp
        rw [this] at h1 h2; exact ⟨h1, h2⟩
      | cons d r =>
        have hne : (vs.size != ws.size) = true := by simp at l1 ⊢; omega
        exact ⟨SeqAt.RcAt.lists_lengths i1 i2 hne hA.below, SeqAt.RcNeAt.lists_lengths i1 i2 hne hA.below⟩
theorem CmpR.eqNil {ds : List D} : CmpR c .Eq (.list ds) (.list []) ds.isEmpty := fun A V s v₁ v₂ hA _ r₁ r₂ => (eqNil_aux hA r₁ r₂).1 c.prog c.w _ _ ⟨.refl s, rfl⟩
theorem CmpR.neNil {ds : List D} : CmpR c .NotEq (.list ds) (.list []) (!ds.isEmpty) := fun A V s v₁ v₂ hA _ r₁ r₂ => (eqNil_aux hA r₁ r₂).2 c.prog c.w _ _ ⟨.refl s, rfl⟩

/-- a text in a list of texts -/
theorem inLS_aux {a : List (List Nat)} {x : List Nat} {V : Addr → Prop} {s : Shared} {vs : Array Value} {t : Tok} (A : Around) (r : RepL c V s (a.map sd) vs.toList) :
    (∀ y, y ∈ vs → SeqAt.EqAt A s y (.str (S x) t) (match y with | .str z _ => z == S x | _ => false)) ∧ vs.any (fun y => match y with | .str z _ => z == S x | _ => false) = decide (x ∈ a) := by
  obtain ⟨l, h1, h2⟩ := repL_strs r
  have hv : vs = (strValues l).toArray := by rw [← h1]
  subst hv
  constructor
  · intro y hy
    obtain ⟨p, hp, rfl⟩ := List.mem_map.mp (List.mem_toArray.mp hy)
    exact SeqAt.EqAt.str_str _ _ _ _
  · rw [List.any_toArray, strValues, List.any_map, Bool.eq_iff_iff, List.any_eq_true, decide_eq_true_eq]
    have hmem : x ∈ a ↔ S x ∈ a.map S := ⟨fun h => List.mem_map_of_mem h, fun h => by
      obtain ⟨z, hz, e⟩ := List.mem_map.mp h
      rw [← S_inj e]; exact hz⟩
    rw [hmem, ← h2]
    constructor
    · rintro ⟨p, hp, e⟩
      exact List.mem_map.mpr ⟨p, hp, by simpa using e⟩
    · intro h
      obtain ⟨p, hp, e⟩ := List.mem_map.mp h
      exact ⟨p, hp, by simp [e]⟩
theorem CmpR.inLS {a : List (List Nat)} {x : List Nat} : CmpR c .In (sd x) (.list (a.map sd)) (decide (x ∈ a)) := fun A V s v₁ v₂ hA _ r₁ r₂ => by
  cases r₁ with
  | str _ t => cases r₂ with
    | @list y o ws nn _ na ho hcl hd hdt r =>
      obtain ⟨h1, h2⟩ := inLS_aux (x := x) (t := t) A.in1 r
      exact SeqAt.in_listAt _ ⟨o, ho, hcl, nn, hdt⟩ h1 ⟨.refl s, by rw [h2]⟩
theorem CmpR.ninLS {a : List (List Nat)} {x : List Nat} : CmpR c .NotIn (sd x) (.list (a.map sd)) (decide (x ∉ a)) := fun A V s v₁ v₂ hA _ r₁ r₂ => by
  cases r₁ with
  | str _ t => cases r₂ with
    | @list y o ws nn _ na ho hcl hd hdt r =>
      obtain ⟨h1, h2⟩ := inLS_aux (x := x) (t := t) A.in1 r
      exact SeqAt.notIn_listAt _ ⟨o, ho, hcl, nn, hdt⟩ h1 ⟨.refl s, by rw [h2, decide_not]⟩

theorem CmpR.eqB {a b : Bool} : CmpR c .Eq (.bool a) (.bool b) (a == b) := fun A V s v₁ v₂ hA _ r₁ r₂ => by
  cases r₁; cases r₂; exact SeqAt.RcAt.bool_bool a b c.prog c.w _ _ ⟨.refl s, rfl⟩
theorem CmpR.neB {a b : Bool} : CmpR c .NotEq (.bool a) (.bool b) (a != b) := fun A V s v₁ v₂ hA _ r₁ r₂ => by
  cases r₁; cases r₂; exact SeqAt.RcNeAt.bool_bool a b c.prog c.w _ _ ⟨.refl s, rfl⟩

/-- is it None? -/
theorem CmpR.isN {d : D} {b : Bool} (h : (d = .none ∧ b = true) ∨ ((∃ x, d = .str x) ∧ b = false) ∨ ((∃ x, d = .list x) ∧ b = false)) : CmpR c .Is d .none b := fun A V s v₁ v₂ hA _ r₁ r₂ => by
  cases r₂
  rcases h with ⟨rfl, rfl⟩ | ⟨⟨x, rfl⟩, rfl⟩ | ⟨⟨x, rfl⟩, rfl⟩
  · cases r₁; exact wpAny_is_plain rfl ⟨.refl s, rfl⟩
  · cases r₁; exact wpAny_is_plain rfl ⟨.refl s, rfl⟩
  · cases r₁; exact wpAny_is_plain rfl ⟨.refl s, rfl⟩
theorem CmpR.isntN {d : D} {b : Bool} (h : (d = .none ∧ b = false) ∨ ((∃ x, d = .str x) ∧ b = true) ∨ ((∃ x, d = .list x) ∧ b = true)) : CmpR c .IsNot d .none b := fun A V s v₁ v₂ hA _ r₁ r₂ => by
  cases r₂
  rcases h with ⟨rfl, rfl⟩ | ⟨⟨x, rfl⟩, rfl⟩ | ⟨⟨x, rfl⟩, rfl⟩
  · cases r₁; exact wpAny_isNot_plain rfl ⟨.refl s, rfl⟩
  · cases r₁; exact wpAny_isNot_plain rfl ⟨.refl s, rfl⟩
  · cases r₁; exact wpAny_isNot_plain rfl ⟨.refl s, rfl⟩

theorem foldl_arrV (x : Array Value) : ∀ (m : Nat) (acc : Array Value), ((List.replicate m x).foldl (· ++ ·) acc).toList = acc.toList ++ (List.replicate m x.toList).flatten
  | 0, acc => by simp
  | m + 1, acc => by rw [List.replicate_succ, List.foldl_cons, foldl_arrV x m, List.replicate_succ]; simp
theorem repL_replicate {V : Addr → Prop} {s : Shared} {d : D} {v : Value} (r : Rep c V s d v) : ∀ m : Nat, RepL c V s (List.replicate m d) (List.replicate m v)
  | 0 => .nil
  | m + 1 => .cons r (repL_replicate r m)
theorem mul_wp {prog : Program} {w : World} {A : Around} {E : Value → Shared → Prop} {s : Shared} {l : Addr} {items : Array Value} {kk : Nat} {x : Int} {u : Tok} {Q : Value → Shared → Prop}
    (hl : s.heap.get? l = some { cls := .type "list", dict := none, data := .seq items kk, slots := #[] })
    (hlo : -(2 ^ 63 : Int) ≤ x) (hhi : x < 2 ^ 63) (hsz : items.size * x.toNat ≤ 2 ^ 24)
    (h : Q (.ref s.heap.objs.size) { s with heap := s.heap.push { cls := .type "list", data := .seq (List.foldl (fun x1 x2 => x1 ++ x2) #[] (List.replicate (if items.isEmpty = true then 0 else x.toNat) items)) } }) :
    wpAny (model prog w) A (binaryOp .Mult (.ref l) (.int x u)) Q E s :=
  wpAny_binaryOp_repeat_ref (T := "list") (U := "int") (by decide) ⟨_, hl, rfl⟩ (fun s' => typeIs_int s' x u) noFill_list_mul PySem.F.fills_int_mul PySem.F.slot_int_rmul repeat_list PySem.F.slot_int_index.lookup
    (call_meets PySem.F.slot_int_rmul (typeIs_int s x u) PySem.F.entry_int_rmul (PySem.F.args_int_rmul_2 _ _) (int___rmul___int_list x u l items kk)
      ⟨hl, rfl, ⟨_, hl, rfl⟩, call_meets PySem.F.slot_list_mul ⟨_, hl, rfl⟩ PySem.F.entry_list_mul (PySem.F.args_list_mul_2 _ _)
        (AutoListH.list___mul___list_int_3 l items kk x u (by simp [Builtin.List.listFitsIndex]; omega) (by omega) (by simp [Builtin.List.listTooLong, sizeLine]; omega)) ⟨hl, h⟩⟩)

/-- [e] * m, fresh -/
theorem EvS.times {e ke : Expr} {lp pos : Pos} {d : D} {m : Nat} (h : Ev c n sc true ρ e d) (hm : Ev c n sc true ρ ke (.int m)) (hz : m ≤ 16777216) (hp : plainE e = true := by rfl) : EvS c n sc ρ (.BinOp (.List [e] lp) .Mult ke pos) (.own (List.replicate m (.val d))) := .mk fun A env V0 h0 Cs X s hA F => by
  refine wpAny_BinOp (wpAny_mono ((Ev.list (EvL.cons h EvL.nil hp) (by show 1 ≤ sizeLine; decide)).run A env V0 h0 Cs X s hA F) (fun lv s₁ q₁ => wpAny_mono (hm.run A env V0 h0 Cs X s₁ hA (F.gr q₁.1)) (fun iv s₂ q₂ => ?_) fun _ _ q => q) fun _ _ q => q)
  obtain ⟨g₁, r₁⟩ := q₁
  obtain ⟨g₂, r₂⟩ := q₂
  have r₁' := r₁.gr g₂
  cases r₂ with
  | int _ u => cases r₁' with
    | @list l o vs nn _ na ho hcl hd hdt r =>
      rw [obj_eq hcl hd hdt] at ho
      have hvs : ∃ v, vs.toList = [v] ∧ Rep c (VK true V0 X) s₂ d v := by
        generalize vs.toList = w at r
        cases r with
        | cons rv rs => cases rs; exact ⟨_, rfl, rv⟩
      obtain ⟨v, hv, rv⟩ := hvs
      have hl : vs.size = 1 := by rw [← Array.length_toList, hv]; rfl
      have hem : vs.isEmpty = false := by simp [Array.isEmpty, hl]
      refine mul_wp ho (by omega) (by omega) (by rw [hl, Int.toNat_natCast]; omega) ?_
      have g := g₁.trans g₂
      have hnew : ∀ b, b = s₂.heap.objs.size → s₂.heap.get? b = none := fun b e => e ▸ get_size _
      refine ⟨g.trans (.push _), [s₂.heap.objs.size], .own (Heap.get?_push_size _ rfl) rfl ⟨rfl, rfl⟩ rfl ?_, by simp, fun a ha => ?_⟩
      · rw [foldl_arrV, hem, Int.toNat_natCast, hv]
        have e1 : (#[] : Array Value).toList ++ (List.replicate (if false = true then 0 else m) [v]).flatten = List.replicate m v := by simp
        rw [e1]
        have e2 : List.replicate m (Slot.val d) = (List.replicate m d).map .val := by simp
        rw [e2]
        refine RepL.slots (repL_replicate ?_ m)
        have r2 : Rep c (fun a => VK true V0 X a ∨ a = s₂.heap.objs.size) s₂ d v := rv.ext hnew
        refine (r2.gr (.push _)).weak fun a e => ?_
        rcases e with e | e
        · exact .inl ⟨rfl, .inl e⟩
        · rcases List.mem_append.mp e with e | e
          · exact .inl ⟨rfl, .inr e⟩
          · exact .inr (List.mem_singleton.mp e)
      · rw [List.mem_singleton.mp ha]
        cases e : s.heap.get? s₂.heap.objs.size with
        | none => rfl
        | some o => have := g.keep _ _ e; rw [get_size] at this; cases this

end
end Mine
namespace Mine

/-- an escape's table: signs and what is written for them, in the order of its replaces -/
abbrev Tab := List (Nat × List Nat)
def escT (t : Tab) (l : List Nat) : List Nat := t.foldl (fun acc p => rep p.1 p.2 acc) l
def wrT (t : Tab) (k : Nat) : List Nat := (t.lookup k).getD [k]
/-- no later sign stands in what is written -/
def okT : Tab → Bool
  | [] => true
  | p :: r => r.all (fun q => !p.2.contains q.1 && q.1 != p.1) && okT r

theorem rep_flatMap (q : Nat) (z : List Nat) (w : Nat → List Nat) (l : List Nat) : rep q z (l.flatMap w) = l.flatMap fun k => rep q z (w k) := by
  simp [rep, List.flatMap_assoc]
theorem flatMap_one (l : List Nat) : (l.flatMap fun k => [k]) = l := by
  induction l with
  | nil => rfl
  | cons x l ih => rw [List.flatMap_cons, ih]; rfl
theorem escT_free : ∀ (t : Tab) (z : List Nat), (∀ q ∈ t, q.1 ∉ z) → escT t z = z
  | [], _, _ => rfl
  | p :: r, z, h => by
    show escT r (rep p.1 p.2 z) = z
    rw [rep_free _ _ _ (h p (.head _))]
    exact escT_free r z fun q hq => h q (.tail _ hq)
theorem escT_append (t : Tab) : ∀ (a b : List Nat), escT t (a ++ b) = escT t a ++ escT t b := by
  induction t with
  | nil => intro a b; rfl
  | cons p r ih => intro a b; show escT r (rep p.1 p.2 (a ++ b)) = _; rw [rep_append]; exact ih _ _
theorem escT_nil (t : Tab) : escT t [] = [] := by
  induction t with
  | nil => rfl
  | cons p r ih => exact ih
theorem escT_one : ∀ (t : Tab), okT t = true → ∀ k, escT t [k] = wrT t k
  | [], _, k => rfl
  | p :: r, h, k => by
    unfold okT at h
    rw [Bool.and_eq_true, List.all_eq_true] at h
    show escT r (rep p.1 p.2 [k]) = _
    unfold wrT
    rw [List.lookup_cons]
    by_cases hk : k = p.1
    · subst hk
      rw [rep_one, beq_self_eq_true]
      refine escT_free r p.2 fun q hq => ?_
      have := h.1 q hq
      simp at this; exact this.1
    · have : (k == p.1) = false := by simpa using hk
      rw [this, rep_free _ _ _ (by simpa using fun e => hk e.symm)]
      exact escT_one r h.2 k
theorem escT_eq {t : Tab} (h : okT t = true) (l : List Nat) : escT t l = l.flatMap (wrT t) := by
  induction l with
  | nil => exact escT_nil t
  | cons x l ih => rw [List.flatMap_cons, ← ih, ← escT_one t h, ← escT_append]; rfl
theorem wrT_len {t : Tab} {m : Nat} (h : t.all (fun p => decide (p.2.length ≤ m)) = true) (hm : 1 ≤ m) (k : Nat) : (wrT t k).length ≤ m := by
  unfold wrT
  cases e : t.lookup k with
  | none => exact hm
  | some z => have := List.all_eq_true.mp h _ (mem_lookup e); simpa using this
theorem flatMap_len {w : Nat → List Nat} {m : Nat} (h : ∀ k, (w k).length ≤ m) : ∀ l : List Nat, (l.flatMap w).length ≤ l.length * m
  | [] => by simp
  | x :: l => by
    have := flatMap_len h l
    have := h x
    rw [List.flatMap_cons, List.length_append, List.length_cons, Nat.add_mul]
    omega

def tCd : Tab := [(38, cs "&amp;"), (60, cs "&lt;"), (62, cs "&gt;")]
def tAt : Tab := [(38, cs "&amp;"), (60, cs "&lt;"), (62, cs "&gt;"), (34, cs "&quot;"), (13, cs "&#13;"), (10, cs "&#10;"), (9, cs "&#09;")]
def tHt : Tab := [(38, cs "&amp;"), (62, cs "&gt;"), (34, cs "&quot;")]
def tCc : Tab := [(38, cs "&amp;"), (60, cs "&lt;"), (62, cs "&gt;"), (13, cs "&#xD;")]
def tAc : Tab := [(38, cs "&amp;"), (60, cs "&lt;"), (34, cs "&quot;"), (9, cs "&#x9;"), (10, cs "&#xA;"), (13, cs "&#xD;")]

theorem escT_len {t : Tab} (h : okT t = true) (h2 : t.all (fun p => decide (p.2.length ≤ 6)) = true) (l : List Nat) : (escT t l).length ≤ l.length * 6 := by
  rw [escT_eq h]; exact flatMap_len (wrT_len h2 (by decide)) l

section
variable {c : Cx} {n : Nat} {sc : Scope}
/-- if 'c' in text: text = text.replace('c', '..') -/
theorem Sx.esc {x z : String} {q : Nat} {l : List Nat} {k0 k1 k2 : Nat} {p0 p1 p2 p3 p4 p5 p6 p7 p8 p9 ap : Pos} (hq : cs x = [q]) (hxz : x ≠ z) (hk : CanStore sc "text") (hz : l.length + (l.length + 1) * (cs z).length ≤ 16777216)
    (hline : (ap.endLine == p7.line) = true := by rfl) 
    (hs : ∀ env : Env, env.scope = sc → swapsWith (.Call (.Attribute (.Name (Str.ofString "text") p4) (Str.ofString "replace") ap) [.Constant (.str (Str.ofString x)) k1 p5, .Constant (.str (Str.ofString z)) k2 p6] [] p7) (some (.Name (Str.ofString "text") p3)) p8.line env = pure false := by intro _ _; rfl) :
    Sn c n sc [("text", .val (sd l))] (.If (.Compare (.Constant (.str (Str.ofString x)) k0 p0) [.In] [.Name (Str.ofString "text") p1] p2)
      [.Assign [.Name (Str.ofString "text") p3] (.Call (.Attribute (.Name (Str.ofString "text") p4) (Str.ofString "replace") ap) [.Constant (.str (Str.ofString x)) k1 p5, .Constant (.str (Str.ofString z)) k2 p6] [] p7) p8] [] p9)
      [("text", .val (sd (rep q (cs z) l)))] := by
  refine Sx.ite (b := decide (q ∈ l)) (Tst.cmp Ev.lit (Ev.name rfl) (CmpR.inS hq)) (fun h => Tr.last (Sx.assign (Ev.replace (Ev.name rfl) hq hxz hz hline) hk hs)) fun h => Tr.nil ⟨rfl, ?_⟩
  rw [rep_free _ _ _ (by simpa using h)]
/-- one step of an escape: t₀ is done -/
theorem Tr.escStep {x z : String} {q : Nat} {t₀ : Tab} {l : List Nat} {rest : List Stmt} {P : AF → Sto → Prop} {k0 k1 k2 : Nat} {p0 p1 p2 p3 p4 p5 p6 p7 p8 p9 ap : Pos} (hl : l.length ≤ 100000) (hq : cs x = [q]) (hxz : x ≠ z) (hk : CanStore sc "text") (ht : okT t₀ = true) (ht2 : t₀.all (fun p => decide (p.2.length ≤ 6)) = true) (hzl : (cs z).length ≤ 6)
    (h : Tr c n sc [("text", .val (sd (escT (t₀ ++ [(q, cs z)]) l)))] rest P) (hline : (ap.endLine == p7.line) = true := by rfl) 
    (hs : ∀ env : Env, env.scope = sc → swapsWith (.Call (.Attribute (.Name (Str.ofString "text") p4) (Str.ofString "replace") ap) [.Constant (.str (Str.ofString x)) k1 p5, .Constant (.str (Str.ofString z)) k2 p6] [] p7) (some (.Name (Str.ofString "text") p3)) p8.line env = pure false := by intro _ _; rfl) :
    Tr c n sc [("text", .val (sd (escT t₀ l)))] (.If (.Compare (.Constant (.str (Str.ofString x)) k0 p0) [.In] [.Name (Str.ofString "text") p1] p2)
      [.Assign [.Name (Str.ofString "text") p3] (.Call (.Attribute (.Name (Str.ofString "text") p4) (Str.ofString "replace") ap) [.Constant (.str (Str.ofString x)) k1 p5, .Constant (.str (Str.ofString z)) k2 p6] [] p7) p8] [] p9 :: rest) P := by
  have h1 := escT_len ht ht2 l
  refine Tr.step (Sx.esc hq hxz hk ?_ hline hs) ?_
  · have : ((escT t₀ l).length + 1) * (cs z).length ≤ ((escT t₀ l).length + 1) * 6 := Nat.mul_le_mul_left _ hzl
    omega
  · have e : escT (t₀ ++ [(q, cs z)]) l = rep q (cs z) (escT t₀ l) := by simp [escT]
    rw [← e]; exact h
theorem escFn {a : Addr} {body : List Stmt} {t : Tab} {l : List Nat} (hd : IsDef c a sc ["text"] body) (ht : okT t = true) (h : Tr c n sc [("text", .val (sd (escT [] l)))] body fun af _ => af = .ret (sd (escT t l))) : FnR c (n + 1) (.ref a) [sd l] (sd (l.flatMap (wrT t))) := by
  rw [← escT_eq ht]
  exact FnR.of hd rfl h

theorem ds_vals {α : Type} (g : α → D) : ∀ l : List α, Slot.ds (l.map fun x => .val (g x)) = l.map g
  | [] => rfl
  | x :: l => by rw [List.map_cons, List.map_cons, ← ds_vals g l]; rfl
theorem map_fmod (a b : Nat) : Int.fmod (a : Int) (b : Int) = ((a % b : Nat) : Int) := by
  rw [Int.fmod_eq_emod_of_nonneg _ (by omega)]; omega
/-- a sign for a number, none of the surrogates -/
def chrOf (h : Int) : Nat := (if h.fmod 1112064 < 55296 then h.fmod 1112064 else h.fmod 1112064 + 2048).toNat
theorem chrOf_ok (h : Int) : (0 : Int) ≤ chrOf h ∧ (chrOf h : Int) ≤ 1114111 ∧ (chrOf h : Int) = if h.fmod 1112064 < 55296 then h.fmod 1112064 else h.fmod 1112064 + 2048 := by
  have hmc : (0 : Int) ≤ h.fmod 1112064 ∧ h.fmod 1112064 < 1112064 := ⟨Int.fmod_nonneg_of_pos _ (by decide), Int.fmod_lt_of_pos _ (by decide)⟩
  unfold chrOf; split <;> omega
/-- chr(code if code < 55296 else code + 2048), with code named -/
theorem Ev.chrIf {k : Bool} {ρ : Sto} {h : Int} {k1 k2 : Nat} {p1 p2 p3 p4 p5 p6 p7 p8 p9 p10 : Pos} (hc : c.mg (Str.ofString "chr") = Option.none ∧ c.mb (Str.ofString "chr") = some (.builtin "chr")) (hl : ρ.lookup "code" = some (.val (.int (h.fmod 1112064))))
    (hk : sc.names.lookup (Str.ofString "chr") = some .globalImplicit := by rfl) :
    Ev c n sc k ρ (.Call (.Name (Str.ofString "chr") p1) [.IfExp (.Compare (.Name (Str.ofString "code") p2) [.Lt] [.Constant (.int 55296) k1 p3] p4) (.Name (Str.ofString "code") p5) (.BinOp (.Name (Str.ofString "code") p6) .Add (.Constant (.int 2048) k2 p7) p8) p9] [] p10) (sd [chrOf h]) := by
  obtain ⟨h1, h2, h3⟩ := chrOf_ok h
  refine Ev.call (ds := [.int (Mine.chrOf h)]) (Ev.blt hc.1 hc.2 hk) (.builtin _) (EvL.cons (Ev.ite (Tst.cmp (Ev.name hl) Ev.int CmpR.ltI) (fun q => ?_) fun q => ?_) EvL.nil) (FnR.chr h1 h2)
  · rw [h3, if_pos (by simpa using q)]; exact Ev.name hl
  · rw [h3, if_neg (by simpa using q)]; exact Ev.bin (Ev.name hl) Ev.int BinR.add

theorem bindOne {fd : FuncData} {p : String} (h : ∀ v : Value, bindArgs fd ⟨[v], []⟩ = pure [(Str.ofString p, v)]) : ∀ vs : List Value, vs.length = [p].length → bindArgs fd ⟨vs, []⟩ = pure (bindsOf [p] vs)
  | [v], _ => h v
theorem bindTwo {fd : FuncData} {p q : String} (h : ∀ v w : Value, bindArgs fd ⟨[v, w], []⟩ = pure [(Str.ofString p, v), (Str.ofString q, w)]) : ∀ vs : List Value, vs.length = [p, q].length → bindArgs fd ⟨vs, []⟩ = pure (bindsOf [p, q] vs)
  | [v, w], _ => h v w
theorem bindZero {fd : FuncData} (h : bindArgs fd ⟨[], []⟩ = pure []) : ∀ vs : List Value, vs.length = ([] : List String).length → bindArgs fd ⟨vs, []⟩ = pure (bindsOf [] vs)
  | [], _ => h
theorem blt_of {K : Frag} {h : Heap} {p : Program} {lw : List Str} {mean : ExcName → Option Value} {mg mb : Str → Option Value} (X : K.In h) (T : Top p lw mean mg mb h) {x : String} {v : Value} (e : nsIn K mainGlobals (Str.ofString x) = some none) (b : bootBuiltins (Str.ofString x) = some v) (hx : x ≠ "__name__") :
    mg (Str.ofString x) = none ∧ mb (Str.ofString x) = some v :=
  ⟨mg_none_of X T.g e, (T.builtins _ fun q => hx (ofString_inj q)).trans b⟩
end
end Mine
namespace Mine
section
variable {c : Cx} {n : Nat} {sc : Scope} {k : Bool} {ρ ρ' : Sto}

/-- text.replace(sign, '..') with a sign of its own kind and a text that is written there -/
theorem Ev.replaceT {o e : Expr} {z : String} {k2 : Nat} {p2 apos pos : Pos} {l : List Nat} {q : Nat} (h : Ev c n sc k ρ o (sd l)) (h1 : Ev c n sc true ρ e (.tstr (S [q]))) (hqz : cs z ≠ [q]) (hz : l.length + (l.length + 1) * (cs z).length ≤ 16777216)
    (hp : plainE e = true := by rfl) (hline : (apos.endLine == pos.line) = true := by rfl) (hbase : ∀ env : Env, attributeBase o (Str.ofString "replace") env (eval o env) = eval o env := by intro _; rfl) :
    Ev c n sc k ρ (.Call (.Attribute o (Str.ofString "replace") apos) [e, .Constant (.str (Str.ofString z)) k2 p2] [] pos) (sd (rep q (cs z) l)) := .mk fun A env V0 h0 Cs X s hA F => by
  refine wpAny_Call_method (hbase env) (by rw [starEach_cons hp]; rfl) hline PySem.F.plainAttrs_str PySem.F.slot_str_replace PySem.F.type_str_replace (wpAny_mono (h.run A env V0 h0 Cs X s hA F) (fun v s₁ q₁ => ?_) fun _ _ q => q)
  obtain ⟨g₁, r⟩ := q₁
  cases r with
  | str _ t =>
    refine ⟨typeIs_str _ _ _, (fun _ e => nomatch e), (Callee.builtin (c := c) "str.replace").wp (by simp [hp]; rfl) ?_⟩
    refine wpAny_items_cons (wpAny_mono (h1.run A env V0 h0 Cs X s₁ hA (F.gr g₁)) (fun v s₂ q₂ => ?_) fun _ _ q => q.elim) (starEach_cons hp)
    obtain ⟨g₂, r₂⟩ := q₂
    cases r₂ with
    | tstr _ u hu hu2 =>
      have g12 := g₁.trans g₂
      refine wpAny_items_cons (wpAny_Constant_str (wpAny_items_nil ⟨((F.gr g12).base.trans (F.gr g12).keep), ?_⟩))
      have ht : s₂.toks ≠ 0 := (F.gr g12).tok
      refine wp_gr (g12.trans (Gr.toks (Nat.le_succ _))) (wp_end (SC.replace (s := { s₂ with toks := s₂.toks + 1 }) hu ht (Nat.ne_of_lt hu2) ?_ ?_ fun t' k => ⟨fun _ _ e => e, rfl, rfl, fun _ => ?_⟩))
      · rw [ofString_S z, beq_eq_false_iff_ne]
        exact fun e => hqz (S_inj e).symm
      · rw [ofString_S z, S_length, S_length]; exact hz
      · have e : Txt.replace (S l) (S [q]) (Str.ofString z) = S (rep q (cs z) l) := by
          rw [ofString_S z]; exact replace_S q (cs z) l
        rw [e]; exact .str _ _

end
end Mine
namespace Mine

/-- signs and the tails of their references; a sign may have several -/
abbrev Tl := List (Nat × List Nat)
structure GoodTl (tb : Tl) : Prop where
  inj : ∀ p ∈ tb, ∀ q ∈ tb, p.2 = q.2 → p = q
  semi : ∀ p ∈ tb, ∃ nm, p.2 = nm ++ [59] ∧ 59 ∉ nm
  noamp : ∀ p ∈ tb, 38 ∉ p.2

theorem semi_prefix {nm nm' h : List Nat} (h1 : 59 ∉ nm) (h2 : 59 ∉ nm') (hp : nm ++ [59] <+: nm' ++ [59] ++ h) : nm = nm' := by
  have key : ∀ (a x : List Nat), 59 ∉ a → (a ++ 59 :: x).takeWhile (· != 59) = a := by
    intro a x ha
    induction a with
    | nil => simp
    | cons y a ih =>
      have hy : (y != 59) = true := by simp; intro e; exact ha (e ▸ .head _)
      rw [List.cons_append, List.takeWhile_cons, hy]
      simp only [if_true]
      rw [ih fun m => ha (.tail _ m)]
  obtain ⟨z, e⟩ := hp
  have e1 := key nm z h1
  have e2 := key nm' h h2
  have : nm ++ 59 :: z = nm' ++ 59 :: h := by simpa using e
  rw [← e1, this, e2]

def readP (tb : Tl) (part : List Nat) : Option (List Nat) := (tb.find? fun p => decide (p.2 <+: part)).map fun p => p.1 :: part.drop p.2.length
def readQ (tb : Tl) (l : List Nat) : Option (List Nat) :=
  if (splitQ 38 l).tail.all (fun p => (readP tb p).isSome) = true then some ((splitQ 38 l).headD [] ++ ((splitQ 38 l).tail.map fun p => (readP tb p).getD []).flatten) else none

section
variable {tb : Tl} (G : GoodTl tb)
include G
theorem GoodTl.find {k : Nat} {t h : List Nat} (hm : (k, t) ∈ tb) : tb.find? (fun p => decide (p.2 <+: t ++ h)) = some (k, t) := by
  have hex : (tb.find? fun p => decide (p.2 <+: t ++ h)).isSome = true := by
    rw [List.find?_isSome]
    exact ⟨(k, t), hm, by simp⟩
  obtain ⟨p, hp⟩ := Option.isSome_iff_exists.mp hex
  have h1 := List.find?_some hp
  have h2 := List.mem_of_find?_eq_some hp
  obtain ⟨a, ea, na⟩ := G.semi p h2
  obtain ⟨b, eb, nb⟩ := G.semi _ hm
  simp only at eb
  have h3 : p.2 <+: t ++ h := by simpa using h1
  rw [ea, eb] at h3
  have := semi_prefix na nb h3
  rw [hp]
  congr 1
  exact G.inj p h2 (k, t) hm (by rw [ea, this, ← eb])
theorem GoodTl.readP {k : Nat} {t h : List Nat} (hm : (k, t) ∈ tb) : readP tb (t ++ h) = some (k :: h) := by
  unfold Mine.readP
  rw [G.find hm]
  simp
theorem GoodTl.parts : ∀ items : List (Nat × List Nat), (∀ p ∈ items, (p.2 = [p.1] ∧ p.1 ≠ 38) ∨ ∃ t, p.2 = 38 :: t ∧ (p.1, t) ∈ tb) → (splitQ 38 (items.flatMap (·.2))).tail.all (fun p => (Mine.readP tb p).isSome) = true ∧
    (splitQ 38 (items.flatMap (·.2))).headD [] ++ ((splitQ 38 (items.flatMap (·.2))).tail.map fun p => (Mine.readP tb p).getD []).flatten = items.map (·.1)
  | [], _ => by simp [splitQ]
  | k :: l, h => by
    obtain ⟨h1, h2⟩ := GoodTl.parts l fun p hp => h p (.tail _ hp)
    rw [List.flatMap_cons, List.map_cons]
    generalize l.flatMap (·.2) = m at h1 h2
    obtain ⟨hd, tl, e⟩ : ∃ hd tl, splitQ 38 m = hd :: tl := by
      cases e : splitQ 38 m with
      | nil => exact absurd e (splitQ_ne 38 m)
      | cons a b => exact ⟨a, b, rfl⟩
    rcases h k (.head _) with ⟨hw, hk38⟩ | ⟨t, hw, hm⟩
    · have hs : splitQ 38 (k.2 ++ m) = (k.1 :: hd) :: tl := by
        rw [hw]
        show (if k.1 = 38 then _ else _) = _
        rw [if_neg hk38]
        show (k.1 :: (splitQ 38 m).headD []) :: (splitQ 38 m).tail = _
        rw [e]; rfl
      rw [hs]
      rw [e] at h1 h2
      simp only [List.tail_cons, List.headD_cons] at h1 h2 ⊢
      exact ⟨h1, by rw [List.cons_append, h2]⟩
    · have hs : splitQ 38 (k.2 ++ m) = [] :: (t ++ hd) :: tl := by
        rw [hw]
        show (if 38 = 38 then [] :: splitQ 38 (t ++ m) else _) = _
        rw [if_pos rfl]
        congr 1
        have : ∀ u : List Nat, 38 ∉ u → splitQ 38 (u ++ m) = (u ++ hd) :: tl := by
          intro u
          induction u with
          | nil => intro _; simpa using e
          | cons y u ih =>
            intro hu
            have hy : y ≠ 38 := fun e => hu (e ▸ .head _)
            show (if y = 38 then [] :: splitQ 38 (u ++ m) else (y :: (splitQ 38 (u ++ m)).headD []) :: (splitQ 38 (u ++ m)).tail) = _
            rw [if_neg hy, ih fun m => hu (.tail _ m)]; rfl
        exact this t (G.noamp _ hm)
      simp only [hs, List.tail_cons, List.headD_cons, List.all_cons, List.map_cons, List.flatten_cons, G.readP hm]
      rw [e] at h1 h2
      simp only [List.tail_cons, List.headD_cons] at h1 h2
      refine ⟨by simpa using h1, ?_⟩
      simp only [Option.getD_some, List.nil_append, List.cons_append, h2]
theorem GoodTl.read {items : List (Nat × List Nat)} (h : ∀ p ∈ items, (p.2 = [p.1] ∧ p.1 ≠ 38) ∨ ∃ t, p.2 = 38 :: t ∧ (p.1, t) ∈ tb) : readQ tb (items.flatMap (·.2)) = some (items.map (·.1)) := by
  obtain ⟨h1, h2⟩ := G.parts items h
  unfold readQ
  rw [if_pos h1, h2]
end
theorem splitQ_flat : ∀ m : List Nat, (splitQ 38 m).flatten.length ≤ m.length
  | [] => by simp [splitQ]
  | x :: m => by
    have ih := splitQ_flat m
    obtain ⟨a, b, e⟩ : ∃ a b, splitQ 38 m = a :: b := by
      cases e : splitQ 38 m with
      | nil => exact absurd e (splitQ_ne 38 m)
      | cons a b => exact ⟨a, b, rfl⟩
    unfold splitQ
    split
    · simp only [List.flatten_cons, List.length_append, List.length_nil, List.length_cons]; omega
    · rw [e] at ih ⊢
      simp only [List.flatten_cons, List.length_append, List.length_cons, List.headD_cons, List.tail_cons] at ih ⊢
      omega
def semiOk (t : List Nat) : Bool := decide (t.getLast? = some 59) && decide (59 ∉ t.dropLast)
theorem semi_of {t : List Nat} (h : semiOk t = true) : ∃ nm, t = nm ++ [59] ∧ 59 ∉ nm := by
  unfold semiOk at h
  rw [Bool.and_eq_true, decide_eq_true_eq, decide_eq_true_eq] at h
  obtain ⟨ys, rfl⟩ := List.getLast?_eq_some_iff.mp h.1
  exact ⟨ys, rfl, by simpa using h.2⟩

def dtl (p : Nat × List Nat) : D := .tuple [sd p.2, sd [p.1]]
def dopt : Option (List Nat) → D
  | some l => sd l
  | none => .none

/-- the five escapes' tables, and what stands for a sign -/
def specials : List Nat := [38, 60, 62, 34, 13, 10, 9]
def wrH (tabs : List Tab) (h a : Nat) : List Nat := wrT (tabs.getD h []) a
def incomp (u v : List Nat) : Bool := (u.zip v).any fun p => p.1 != p.2
theorem incomp_ne : ∀ {u v x y : List Nat}, incomp u v = true → u ++ x ≠ v ++ y
  | [], _, _, _, h, _ => by simp [incomp] at h
  | _ :: _, [], _, _, h, _ => by simp [incomp] at h
  | a :: u, b :: v, x, y, h, e => by
    simp only [incomp, List.zip_cons_cons, List.any_cons, Bool.or_eq_true] at h
    simp only [List.cons_append, List.cons.injEq] at e
    rcases h with h | h
    · simp at h; exact h e.1
    · exact incomp_ne h e.2

end Mine
namespace Mine
section
variable {c : Cx} {n : Nat} {sc : Scope} {k : Bool} {ρ ρ' : Sto} {env : Env} {V0 : Addr → Prop} {h0 : Heap} {Cs : List (Str × Addr)} {X : List Addr} {s s₁ : Shared} {A : Around}

theorem FnR.divmod {a b : Int} (hb : b ≠ 0) (hs : b.natAbs < 1073741824) : FnR c n (.builtin "divmod") [.int a, .int b] (.tuple [.int (a.fdiv b), .int (a.fmod b)]) := .mk fun A V s vs hA hS r => by
  cases r with
  | cons r rs => cases rs with
    | cons r' rs => cases rs; cases r; cases r'
                    exact wp_end (divmod_int hb ⟨fun _ _ e => Heap.get?_push_of_some _ e, rfl, rfl, fun _ => .tuple hS.new (Heap.get?_push_size _ rfl) rfl ⟨rfl, rfl⟩ rfl (.cons (.int _ _) (.cons (.int _ _) .nil))⟩ (.inl (PyProof.noPylong_small hs)))

theorem Ev.neg {e : Expr} {pos : Pos} {i : Int} (h : Ev c n sc k ρ e (.int i)) : Ev c n sc k ρ (.UnaryOp .USub e pos) (.int (-i)) := .mk fun A env V0 h0 Cs X s hA F =>
  wpAny_UnaryOp (wpAny_mono (h.run A env V0 h0 Cs X s hA F) (fun v s' q => by
    obtain ⟨g, r⟩ := q
    cases r
    exact wp_gr g (wp_end (P.neg_int ⟨fun _ _ e => e, rfl, rfl, fun _ => .int _ _⟩))) fun _ _ q => q)

/-- pairs of a number and a text, compared -/
theorem CmpR.neT {a b : Int} {x y : List Nat} : CmpR c .NotEq (.tuple [.int a, sd x]) (.tuple [.int b, sd y]) (decide (¬ (a = b ∧ x = y))) := fun A V s v₁ v₂ hA _ r₁ r₂ => by
  cases r₁ with
  | @tuple l o vs nn _ na ho hcl hd hdt r₁ => cases r₂ with
    | @tuple m o2 ws nn2 _ na2 ho2 hcl2 hd2 hdt2 r₂ =>
      have i1 : s.heap.IsTuple l vs := ⟨o, ho, hcl, nn, hdt⟩
      have i2 : s.heap.IsTuple m ws := ⟨o2, ho2, hcl2, nn2, hdt2⟩
      obtain ⟨t1, t2, e1⟩ : ∃ t1 t2, vs = #[.int a t1, .str (S x) t2] := by
        generalize hv : vs.toList = vl at r₁
        cases r₁ with
        | cons q1 q2 => cases q2 with
          | cons q2 q3 => cases q3; cases q1; cases q2; exact ⟨_, _, by rw [← Array.toList_inj, hv]⟩
      obtain ⟨u1, u2, e2⟩ : ∃ t1 t2, ws = #[.int b t1, .str (S y) t2] := by
        generalize hv : ws.toList = vl at r₂
        cases r₂ with
        | cons q1 q2 => cases q2 with
          | cons q2 q3 => cases q3; cases q1; cases q2; exact ⟨_, _, by rw [← Array.toList_inj, hv]⟩
      subst e1 e2
      have h := SeqAt.RcNeAt.tuples (e := fun j => if j = 0 then a == b else S x == S y) i1 i2 hA.below (fun j h1 h2 => by
        match j, h1 with
        | 0, _ => exact SeqAt.EqAt.int_int _ _ _ _
        | 1, _ => exact SeqAt.EqAt.str_str _ _ _ _)
      refine h c.prog c.w _ _ ⟨.refl s, ?_⟩
      congr 1
      show (!(((a == b) && ((S x == S y) && true)) && true)) = _
      rw [S_beq, Bool.and_true, Bool.and_true]
      by_cases h1 : a = b <;> by_cases h2 : x = y <;> simp [h1, h2]

theorem Ns_same {h : Heap} {a : Addr} {m m' : Str → Option Value} (x : h.Ns a m) (y : h.Ns a m') (z : Str) : m z = m' z := by
  obtain ⟨o, es, ep, ho, hd, _, hf⟩ := x
  obtain ⟨o', es', ep', ho', hd', _, hf'⟩ := y
  rw [ho] at ho'; cases ho'
  rw [hd] at hd'; cases hd'
  rw [← hf, ← hf']
theorem Loc.same {m m' : Str → Option Value} {x : String} {v v' : Value} (hn : s.heap.Ns env.locals m) (hn' : s.heap.Ns env.locals m') (l : Loc env s m x v) (l' : Loc env s m' x v') : v = v' := by
  have e := Ns_same hn hn' (Str.ofString x)
  cases l with
  | loc h1 h2 => cases l' with
    | loc h1' h2' => rw [h2, h2'] at e; injection e
    | cell h1' _ _ _ =>
      rw [h1] at h1'
      rcases h1' with q | q
      · cases q
      · cases q.1
  | cell h1 h2 h3 h4 => cases l' with
    | loc h1' h2' =>
      rw [h1'] at h1
      rcases h1 with q | q
      · cases q
      · cases q.1
    | cell h1' h2' h3' h4' =>
      rw [h2] at h2'; cases h2'
      rw [h3] at h3'; cases h3'
      rw [h4] at h4'; injection h4' with q; injection q

theorem RepSL.erase {V : Addr → Prop} {s : Shared} {d : D} : ∀ {sl vs fp} {i : Nat}, RepSL c V s sl vs fp → sl[i]? = some (.val d) → RepSL c V s (sl.eraseIdx i) (vs.eraseIdx i) fp
  | _, _, _, _, .nil, h => by simp at h
  | _, _, _, 0, .cons r rs, h => by
    simp at h; subst h
    cases r with
    | val r => exact rs
  | _, _, _, i + 1, .cons r rs, h => .cons r (rs.erase (i := i) (by simpa using h))

theorem pop_wp {prog : Program} {w : World} {E : Value → Shared → Prop} {l : Addr} {items : Array Value} {nn : Nat} {i : Int} {u : Tok} {j : Nat} {y : Value} {Q : Value → Shared → Prop} (ho : s.heap.get? l = some { cls := .type "list", data := .seq items nn })
    (hf : Builtin.List.listFitsIndex i = true) (hk : seqIndex? i items.size = some j) (hy : items[j]? = some y) (hz : items.size ≤ sizeLine)
    (hQ : ∀ h' n', h'.get? l = some { cls := .type "list", data := .seq (items.eraseIdxIfInBounds j) n' } → Heap.SameBut l s.heap h' → Q y { s with heap := h' }) :
    wpAny (model prog w) A (call (.builtin "list.pop") [.ref l, .int i u]) Q E s := by
  refine call_meets PySem.F.slot_list_pop ⟨_, ho, rfl⟩ PySem.F.entry_list_pop (PySem.F.args_list_pop_2 _ _) (MeetsSeq.list_pop_at l items nn i u j y hf hk hy hz) ⟨ho, ?_⟩
  obtain ⟨n', hd'⟩ := Obj.data_mapSeq (o := { cls := .type "list", data := .seq items nn }) rfl (·.eraseIdxIfInBounds j)
  have hfin := Heap.get?_update_self (Obj.mapSeq (·.eraseIdxIfInBounds j)) ho (Obj.isFreed_of_seq hd')
  have hd2 := Obj.dict_mapSeq { cls := .type "list", data := .seq items nn } (·.eraseIdxIfInBounds j)
  rw [obj_eq ((Obj.cls_mapSeq ..).trans rfl) ⟨hd2.1, hd2.2⟩ hd'] at hfin
  exact hQ _ n' hfin (Heap.SameBut.update ..)

/-- x.append(y.pop(e)) -/
theorem Sx.appendPop {x y : String} {e : Expr} {p ap pos epos py apy posy : Pos} {slx sly : List Slot} {j : Nat} {d : D} (hxy : x ≠ y) (hx : ρ.lookup x = some (.own slx)) (hy : ρ.lookup y = some (.own sly)) (h : Ev c n sc true ρ e (.int j)) (hj : sly[j]? = some (.val d)) (hzx : slx.length ≤ 16777216) (hzy : sly.length ≤ 16777216)
    (hp : plainE e = true := by rfl) (hline : (ap.endLine == pos.line) = true := by rfl) (hliney : (apy.endLine == posy.line) = true := by rfl) (hxd : x ≠ "__debug__" := by decide) (hyd : y ≠ "__debug__" := by decide)
    (hbase : ∀ env : Env, attributeBase (.Name (Str.ofString x) p) (Str.ofString "append") env (eval (.Name (Str.ofString x) p) env) = eval (.Name (Str.ofString x) p) env := by intro _; rfl)
    (hbasey : ∀ env : Env, attributeBase (.Name (Str.ofString y) py) (Str.ofString "pop") env (eval (.Name (Str.ofString y) py) env) = eval (.Name (Str.ofString y) py) env := by intro _; rfl)
    (hs : ∀ (env : Env) a b, swapsWith (.Call a b [] pos) none epos.line env = pure false := by intro _ _ _; rfl) :
    Sn c n sc ρ (.Expr (.Call (.Attribute (.Name (Str.ofString x) p) (Str.ofString "append") ap) [.Call (.Attribute (.Name (Str.ofString y) py) (Str.ofString "pop") apy) [e] [] posy] [] pos) epos)
      (setS (setS ρ y (.own (sly.eraseIdx j))) x (.own (slx ++ [.val d]))) := .mk fun A env V0 h0 Cs X s hA hO F => by
  obtain ⟨a, fpi, fps', O⟩ := F.opn hx
  obtain ⟨b, fpj, fpt', Oy⟩ := F.opn hy
  have hi : interactive env = false := by
    unfold interactive
    rw [F.scope, F.kind]; rfl
  refine wpAny_Expr ?_ hi (hs env _ _)
  refine wpAny_Call_method (T := "list") (id := "list.append") (hbase env) rfl hline PySem.F.plainAttrs_list PySem.F.slot_list_append PySem.F.type_list_append ?_
  refine O.load F hxd ?_
  obtain ⟨vs, nn, h4, h5⟩ := O.lst
  refine ⟨⟨_, h4, rfl⟩, fun b hb => by cases hb; exact ⟨_, h4, rfl⟩, (Callee.builtin (c := c) "list.append").wp (first := [.ref a]) rfl ?_⟩
  refine wpAny_items_cons ?_
  -- y.pop(e)
  refine wpAny_Call_method (T := "list") (id := "list.pop") (hbasey env) ?_ hliney PySem.F.plainAttrs_list PySem.F.slot_list_pop PySem.F.type_list_pop ?_
  · rw [starEach_cons hp]; rfl
  refine Oy.load F hyd ?_
  obtain ⟨ws, mm, g4, g5⟩ := Oy.lst
  refine ⟨⟨_, g4, rfl⟩, fun b hb => by cases hb; exact ⟨_, g4, rfl⟩, (Callee.builtin (c := c) "list.pop").wp (first := [.ref b]) (by simp [hp]) ?_⟩
  refine wpAny_items_cons (wpAny_mono (h.run A env V0 h0 Cs X s hA F) (fun iv s₁ q₁ => wpAny_items_nil ⟨(F.gr q₁.1).base.trans (F.gr q₁.1).keep, ?_⟩) fun _ _ q => q.elim) (starEach_cons hp)
  obtain ⟨g₁, r₁⟩ := q₁
  cases r₁ with
  | int _ u =>
  obtain ⟨ws, mm, g4, g5⟩ := (Oy.gr g₁).lst
  obtain ⟨v, hv, rv⟩ := g5.get hj
  have hlw : sly.length = ws.size := by have := g5.length; simpa using this
  have hjl : j < sly.length := (List.getElem?_eq_some_iff.mp hj).1
  rw [Array.getElem?_toList] at hv
  have hf : Builtin.List.listFitsIndex (j : Int) = true := fitsIndex_of (by omega) (by omega)
  have hsi : seqIndex? (j : Int) ws.size = some j := by rw [seqIndex_of (by omega) (by omega), Int.toNat_natCast]
  refine pop_wp g4 hf hsi hv (by rw [sizeLine_eq]; omega) fun h' n' hfin hsb => ?_
  have F₁ := F.gr g₁
  have Oy₁ := Oy.gr g₁
  have hcm : Calm (Vol V0 X) s₁ { s₁ with heap := h' } := calm_at (tk := s₁.toks) hsb (.inr Oy.aX) (Nat.le_refl _)
  have hnd := (List.nodup_append.mp (List.nodup_cons.mp Oy.nd).2).2.1
  have hbf : b ∉ fpj := fun q => (List.nodup_cons.mp hnd).1 (List.mem_append_left _ q)
  obtain ⟨X', gst, F'⟩ := Oy₁.close F₁ (sl' := sly.eraseIdx j) (tk := s₁.toks) hsb (Nat.le_refl _) hfin (by
    have e3 : (ws.eraseIdxIfInBounds j).toList = ws.toList.eraseIdx j := by simp
    rw [e3]
    exact (g5.erase hj).calm hcm (fun _ q => q) fun b' hb o e => (hsb.2 b' fun q => hbf (q ▸ hb)).trans e)
  refine wpAny_items_nil ⟨F'.base.trans F'.keep, ?_⟩
  -- the value, and the list that it is laid into
  have rv' : Rep c (Vol V0 X') { s₁ with heap := h' } d v := rv.stp gst
  have hx' : (setS ρ y (.own (sly.eraseIdx j))).lookup x = some (.own slx) := by
    unfold setS
    rw [List.lookup_cons]
    have : (x == y) = false := by simpa using hxy
    rw [this, delS_lookup hxy]; exact hx
  obtain ⟨a', fpi', fps'', O'⟩ := F'.opn hx'
  have haa : a' = a := by
    obtain ⟨m', k1, k2, _⟩ := O'.ns
    obtain ⟨m, l1, l2, _⟩ := (O.gr g₁).ns
    have haL : env.locals ≠ b := fun q => (List.nodup_cons.mp Oy.nd).1 (q ▸ List.mem_append_right _ (.head _))
    have l3 : Loc env { s₁ with heap := h' } m x (.ref a) := l2.calm (fun _ => rfl) fun b' o w _ e hw => (hsb.2 b' fun q => by rw [q, g4] at e; cases e; cases hw).trans e
    have := Loc.same k1 (l1.sameBut hsb haL) k2 l3
    injection this
  subst haa
  obtain ⟨vs, nn, h4, h5⟩ := O'.lst
  have hl : slx.length = vs.size := by have := h5.length; simpa using this
  refine append_wp h4 rfl ⟨rfl, rfl⟩ rfl (fun h'' o' n'' e1 e2 e3 e4 e5 => ?_) (by omega)
  have hcm2 : Calm (Vol V0 X') { s₁ with heap := h' } { s₁ with heap := h'' } := calm_at (s := { s₁ with heap := h' }) (tk := s₁.toks) e5 (.inr O'.aX) (Nat.le_refl _)
  have hnd2 := (List.nodup_append.mp (List.nodup_cons.mp O'.nd).2).2.1
  have haf : a' ∉ fpi' := fun q => (List.nodup_cons.mp hnd2).1 (List.mem_append_left _ q)
  obtain ⟨X'', gst2, F''⟩ := O'.close F' (sl' := slx ++ [.val d]) (tk := s₁.toks) e5 (Nat.le_refl _) (by rw [← obj_eq e2 e3 e4]; exact e1) (by
    rw [Array.toList_push]
    exact ((RepSL.snoc rv' h5).calm hcm2 (fun _ q => q) fun b' hb o e => (e5.2 b' fun q => haf (q ▸ hb)).trans e))
  exact ⟨X'', _, .next, ((Stp.of_gr g₁).trans gst).trans gst2, F'', .next, rfl, rfl⟩

end
end Mine
namespace Mine

/-- a piece of code that reads, and then turns the object at Dd alone -/
def BodyPost (Dd : Addr) (s s' : Shared) : Prop :=
  ∃ s₅ h' tk, Gr s s₅ ∧ Heap.SameBut Dd s₅.heap h' ∧ s₅.toks ≤ tk ∧ (∃ o, h'.get? Dd = some o) ∧ (∀ o w, s₅.heap.get? Dd = some o → o.data ≠ .cell w) ∧ s' = { s₅ with heap := h', toks := tk }

theorem Fm.toks {c sc env V0 h0 Cs X ρ s} {tk : Nat} (F : Fm c sc env V0 h0 Cs X ρ s) (h : s.toks ≤ tk) : Fm c sc env V0 h0 Cs X ρ { s with toks := tk } := F.gr (Gr.toks h)

/-- the loop of a comprehension over what it fills (at Dd) -/
theorem comp_loopG {c : Cx} {n : Nat} {sci : Scope} {envi : Env} {Vi : Addr → Prop} {h0 : Heap} {Csi : List (Str × Addr)} {Xi : List Addr} {ρi : Sto} {w : Bool} {α β : Type} {g : α → D} {ds : List α} {f : α → Option β} {Acc : List β → Shared → Prop}
    {tgt : Expr} {ifs : List Expr} {it Dd : Addr} {body : (Shared → Prop) → Shared → Prop} {cd : Code} {A : Around} {R : Result → Shared → Prop} {s : Shared}
    (bmono : ∀ P P' s, body P s → (∀ s', P s' → P' s') → body P' s) (hA : Room n A) (hXi : Xi = envi.locals :: (Csi.map (·.2) ++ [])) (hρ : ∀ p ∈ ρi, ∃ d, p.2 = .val d) (hO : w = true → Own sci Csi)
    (hDV : Vi Dd) (hD0 : h0.get? Dd = none) (hit0 : h0.get? it = none) (hitX : it ∉ Xi) (hitV : ¬ Vi it) (hDX : Dd ∉ Xi)
    (hcode : ∀ I : Nat → Shared → Prop, (∀ n s, I n s → wpAny c.M A (pyNext (.ref it)) (fun r s₁ => match r with
      | none => R (.ok .next) s₁
      | some v => wpAny c.M A (letOwnedTupleGo tgt (.ref it) v) (fun _ s₁' => wpAny c.M A (assign tgt envi v) (fun _ s₂ =>
          wpAny c.M A (forIn ifs true fun c r => if r = true then do let ok ← isTrue c envi (eval c envi); pure (ForInStep.yield ok) else pure (ForInStep.yield r)) (fun ok s₃ =>
            if ok = true then body (fun s₅ => ∃ m, m < n ∧ I m s₅) s₃
            else ∃ m, m < n ∧ I m s₃) NoE s₂) NoE s₁') NoE s₁) NoE s) → ∀ n, I n s → codeAny c.M A cd R s)
    (F : Fm c sci envi Vi h0 Csi Xi ρi s) (hi : ItAt c (Vol Vi Xi) s it (ds.map g)) (hacc : Acc [] s)
    (acalm : ∀ rs s s', Acc rs s → Calm (Vol Vi Xi) s s' → (∀ o, s.heap.get? Dd = some o → s'.heap.get? Dd = some o) → Acc rs s')
    (alive : ∀ rs s, Acc rs s → ∃ o, s.heap.get? Dd = some o)
    (item : ∀ done d rest, ds = done ++ d :: rest → ∃ ρ₁, TgtG w c sci tgt (g d) ρi ρ₁ ∧ SubS ρi ρ₁ ∧ match f d with
      | some b => TstI c n sci ρ₁ ifs true ∧ ∀ X s, (∀ a ∈ Xi, a ∈ X) → Fm c sci envi Vi h0 Csi X ρ₁ s → Acc (done.filterMap f) s → body (fun s' => BodyPost Dd s s' ∧ Acc (done.filterMap f ++ [b]) s') s
      | none => TstI c n sci ρ₁ ifs false)
    (fin : ∀ s', Keeps h0 s'.heap → s.toks ≤ s'.toks → s'.gens = s.gens → s'.os = s.os → (∃ m, s'.heap.Ns envi.locals m) → Acc (ds.filterMap f) s' → R (.ok .next) s') : codeAny c.M A cd R s := by
  have hitD : it ≠ Dd := fun q => hitV (q ▸ hDV)
  refine hcode (fun kk s' => ∃ done rest, ds = done ++ rest ∧ kk = rest.length ∧ s'.gens = s.gens ∧ s'.os = s.os ∧ s.toks ≤ s'.toks ∧
      Fm c sci envi Vi h0 Csi Xi ρi s' ∧ ItAt c (Vol Vi Xi) s' it (rest.map g) ∧ Acc (done.filterMap f) s') ?_ ds.length ⟨[], ds, rfl, rfl, rfl, rfl, Nat.le_refl _, F, hi, hacc⟩
  rintro kk s' ⟨done, rest, rfl, rfl, hg, hos, htk, F', hi', hl'⟩
  have step : ∀ s₃, ItStep it s' s₃ → s₃.gens = s.gens ∧ s₃.os = s.os ∧ s.toks ≤ s₃.toks ∧ Fm c sci envi Vi h0 Csi Xi ρi s₃ ∧ Acc (done.filterMap f) s₃ := fun s₃ t =>
    ⟨t.gens.trans hg, t.os.trans hos, Nat.le_trans htk t.tok, F'.it hi' hitX hit0 hitV t, acalm _ _ _ hl' (t.calm hi' _) fun o e => t.keep _ _ (Ne.symm hitD) e⟩
  cases rest with
  | nil =>
    refine wpAny_mono (ItAt.stop hA.handled hi') (fun r s₃ q => ?_) fun _ _ q => q
    obtain ⟨rfl, t⟩ := q
    obtain ⟨k2, k3, k4, F₃, k6⟩ := step s₃ t
    obtain ⟨m₃, _, n₃, _⟩ := F₃.sto
    refine fin s₃ F₃.keep k4 k2 k3 ⟨m₃, n₃⟩ ?_
    simpa using k6
  | cons d rest =>
    refine wpAny_mono (ItAt.next hi') (fun r s₃ q => ?_) fun _ _ q => q
    obtain ⟨v, rfl, rv, hi₃, t⟩ := q
    obtain ⟨k2, k3, k4, F₃, k6⟩ := step s₃ t
    obtain ⟨ρ₁, htg, hsub, hm⟩ := item done d rest rfl
    refine lotg hi₃ (wpAny_mono (htg.run A envi Vi h0 Csi Xi s₃ v hA.zero hO F₃ rv) (fun _ s₄ q => ?_) fun _ _ q => q)
    obtain ⟨X₄, g₄, F₄⟩ := q
    have hsX : ∀ a ∈ Xi, a ∈ X₄ := fun a ha => by
      obtain ⟨_, fps, _, h2, _⟩ := F₄.sto
      rw [hXi, List.append_nil] at ha
      rw [h2]
      rcases List.mem_cons.mp ha with q | q
      · exact q ▸ .head _
      · exact .tail _ (List.mem_append_left _ q)
    have acc4 : Acc (done.filterMap f) s₄ := acalm _ _ _ k6 ⟨g₄.tok, fun b o nb e _ => g₄.keep b o (fun q => nb (.inr q)) e⟩ fun o e => g₄.keep _ _ hDX e
    have accG : ∀ s₅, Gr s₄ s₅ → Acc (done.filterMap f) s₅ := fun s₅ g₅ => acalm _ _ _ acc4 (g₅.calm _) fun o e => g₅.keep _ _ e
    have back : ∀ s₅, Gr s₄ s₅ → s₅.gens = s.gens ∧ s₅.os = s.os ∧ s.toks ≤ s₅.toks ∧ Fm c sci envi Vi h0 Csi Xi ρi s₅ ∧ ItAt c (Vol Vi Xi) s₅ it (rest.map g) := fun s₅ g₅ => by
      obtain ⟨X₅, hX₅, F₅⟩ := Ent.sub (c := c) (sc := sci) hsub envi Vi h0 Csi X₄ s₅ (F₄.gr g₅)
      have hfps : X₅ = Xi := by
        obtain ⟨_, fps, _, h2, _, _, _, h5⟩ := F₅.sto
        rw [h2, h5.vals hρ, hXi]
      subst hfps
      have g45 : Stp X₅ s₃ X₅ s₅ := (g₄.trans (Stp.of_gr g₅)).sub' hX₅
      exact ⟨(g₅.gens.trans g₄.gens).trans k2, (g₅.os.trans g₄.os).trans k3, Nat.le_trans k4 (Nat.le_trans g₄.tok g₅.tok), F₅, hi₃.stp hitX g45⟩
    cases hf : f d with
    | none =>
      rw [hf] at hm
      refine wpAny_mono (TstI.run hm A _ _ _ _ _ s₄ hA F₄) (fun ok s₅ q => ?_) fun _ _ q => q
      obtain ⟨g₅, rfl⟩ := q
      rw [if_neg Bool.false_ne_true]
      obtain ⟨j2, j3, j4, j5, j6⟩ := back s₅ g₅
      exact ⟨_, Nat.lt_succ_self _, done ++ [d], rest, by simp, rfl, j2, j3, j4, j5, j6, by simpa [hf] using accG s₅ g₅⟩
    | some b =>
      rw [hf] at hm
      refine wpAny_mono (hm.1.run A _ _ _ _ _ s₄ hA F₄) (fun ok s₅ q => ?_) fun _ _ q => q
      obtain ⟨g₅, rfl⟩ := q
      rw [if_pos rfl]
      refine bmono _ _ _ (hm.2 X₄ s₅ hsX (F₄.gr g₅) (accG s₅ g₅)) fun s₆ q => ?_
      obtain ⟨⟨s₇, h', tk, g₇, a5, htk7, hal, hcell, rfl⟩, hac⟩ := q
      obtain ⟨j2, j3, j4, j5, j6⟩ := back s₇ (g₅.trans g₇)
      have F8 := (j5.change hDV hD0 a5 hal hcell).toks (tk := tk) htk7
      refine ⟨_, Nat.lt_succ_self _, done ++ [d], rest, by simp, rfl, j2, j3, Nat.le_trans j4 htk7, F8, ?_, by simpa [hf] using hac⟩
      have hcm : Calm (Vol Vi Xi) s₇ { s₇ with heap := h', toks := tk } := ⟨htk7, fun b ob nb e _ => (a5.2 b fun q => nb (.inl (q ▸ hDV))).trans e⟩
      exact j6.carry (fun o e => (a5.2 _ hitD).trans e) (fun l o nl e => ⟨nl, (a5.2 l fun q : l = Dd => nl (.inl (q ▸ hDV))).trans e⟩) fun r => r.calm hcm fun _ q => q

/-- how a comprehension stands ahead of its loop -/
structure CSet (c : Cx) (sci : Scope) (envi : Env) (V0 : Addr → Prop) (X : List Addr) (s : Shared) (ρi : Sto) (ob : Obj) (ds : List D) (w : Bool) (Dd it : Addr) (Csi : List (Str × Addr)) (s₃ : Shared) : Prop where
  dn : s.heap.get? Dd = none
  cn : s.heap.get? envi.locals = none
  dc : Dd ≠ envi.locals
  itn : s.heap.get? it = none
  itX : it ∉ envi.locals :: (Csi.map (·.2) ++ [])
  itV : ¬ (Vol V0 X it ∨ it = Dd)
  dX : Dd ∉ envi.locals :: (Csi.map (·.2) ++ [])
  own : w = true → Own sci Csi
  fm : Fm c sci envi (fun a => Vol V0 X a ∨ a = Dd) s.heap Csi (envi.locals :: (Csi.map (·.2) ++ [])) ρi s₃
  at' : ItAt c (Vol (fun a => Vol V0 X a ∨ a = Dd) (envi.locals :: (Csi.map (·.2) ++ []))) s₃ it ds
  acc : s₃.heap.get? Dd = some ob
  tok : s.toks ≤ s₃.toks
  gens : s₃.gens = s.gens
  os : s₃.os = s.os
  sys : (Dd == sysModules) = false

/-- the head of a comprehension without cells of its own -/
theorem comp_setF {c : Cx} {n : Nat} {sc scope : Scope} {ρ ρi : Sto} {e tgt iter : Expr} {ifs : List Expr} {pos : Pos} {d₀ : D} {ds : List D} {use : Option (Value → Sem Unit)} {A : Around} {env : Env} {V0 : Addr → Prop} {h0 : Heap} {Cs : List (Str × Addr)} {X : List Addr} {s : Shared}
    {Q : Value → Shared → Prop} {newAcc : Sem Value} {ob : Obj} {w : Bool}
    (hA : Room n A) (F : Fm c sc env V0 h0 Cs X ρ s) (he : Ev c n sc true ρ iter d₀) (hit : IterR c d₀ ds) (hc : Capt sc scope ρ ρi) (hw : w = true → Own (relab sc scope) []) (hs : ∀ (env : Env) x, foldedSetIterable iter env x = pure x)
    (hcl : clausesOf e = [⟨tgt, iter, ifs, 0⟩]) (hfr : ob.isFreed = false)
    (hnew : ∀ (Q : Value → Shared → Prop) (s : Shared), Q (.ref s.heap.objs.size) { s with heap := s.heap.push ob } → wpAny c.M A newAcc Q NoE s)
    (hstart : ∀ (it acc : Value) (env : Env) (R : Result → Shared → Prop) (s : Shared), codeAny c.M A (.compLoop e 0 it acc env) R s →
      wpAny c.M A (pyIter it) (fun it' s' => codeAny c.M A (.compLoop e 0 it' acc env) R s') (notedBy c.M A env fun x s' => R (.error x) s') s → codeAny c.M A (.compStart e 0 it acc env) R s)
    (loop : ∀ Dd it envi Csi s₃, CSet c (relab sc scope) envi V0 X s ρi ob ds w Dd it Csi s₃ → codeAny c.M A (.compLoop e 0 (.ref it) (.ref Dd) envi) (compPost c.M A NoE use Q (.ref Dd) envi.locals) s₃) :
    wpAny c.M A (comprehension e scope env pos newAcc false (eval iter env) use) Q NoE s := by
  obtain ⟨cl, hclo, hclf, hcle⟩ := closure_of (scope := scope) (env := env) fun p hp hf => F.ccells _ (hc.free p hp hf)
  refine wpAny_comprehension_free (use := use) hcl (hs env) hclo hc.kind hc.names (wpAny_mono (he.run A env V0 h0 Cs X s hA F) (fun xv s₁ q₁ => ?_) fun _ _ q => q)
  refine wpAny_mono (hit A _ s₁ xv hA.zero ((F.st true).gr q₁.1) q₁.2) (fun itv s₂ q₂ => ?_) fun _ _ q => q
  obtain ⟨g₂, it, rfl, hitn, hi⟩ := q₂
  have hV : VK true V0 X = Vol V0 X := by funext a; simp [VK]
  rw [hV] at hi
  have g12 := q₁.1.trans g₂
  have hits : s.heap.get? it = none := by
    cases e : s.heap.get? it with
    | none => rfl
    | some o => have := q₁.1.keep _ _ e; rw [hitn] at this; cases this
  refine hnew _ _ (wpAny_newFunctionEnv hc.nocell (by intro y hy; simp at hy) (fun h₁ hns₁ hsb₁ => ?_) hc.kind)
  dsimp only at hns₁ hsb₁ ⊢
  have hsys : (s₂.heap.objs.size == sysModules) = false := by
    obtain ⟨_, _, _, e, _⟩ := ((F.good.g.keeps F.base).keeps F.keep).keeps g12.keep
    have := Heap.lt_size e
    have h3 : (3 : Nat) < s₂.heap.objs.size := this
    have : s₂.heap.objs.size ≠ (1 : Nat) := by omega
    simpa [sysModules] using this
  have hDn : s₂.heap.get? s₂.heap.objs.size = none := get_size _
  generalize hH : s₂.heap.push ob = H2 at hns₁ hsb₁ ⊢
  have hC : H2.objs.size = s₂.heap.objs.size + 1 := by rw [← hH, Heap.size_push]
  have hCn2 : s₂.heap.get? H2.objs.size = none := by
    cases e : s₂.heap.get? H2.objs.size with
    | none => rfl
    | some o => have := Heap.lt_size e; rw [hC] at this; exact absurd this (Nat.not_lt.mpr (Nat.le_succ _))
  have hDC : s₂.heap.objs.size ≠ H2.objs.size := by rw [hC]; exact Nat.ne_of_lt (Nat.lt_succ_self _)
  have hDh1 : h₁.get? s₂.heap.objs.size = some ob := by
    refine (hsb₁.2 _ hDC).trans (Heap.get?_push_of_some _ ?_)
    rw [← hH]; exact Heap.get?_push_size _ hfr
  have hk1 : Keeps s₂.heap h₁ := fun b o e => (hsb₁.2 b fun q => by rw [q, hCn2] at e; cases e).trans (Heap.get?_push_of_some _ (hH ▸ Heap.get?_push_of_some _ e))
  generalize s₂.heap.objs.size = Dd at hDn hDC hDh1 hsys ⊢
  generalize H2.objs.size = C at hns₁ hCn2 hDC ⊢
  have hDs : s.heap.get? Dd = none := by
    cases e : s.heap.get? Dd with
    | none => rfl
    | some o => have := g12.keep _ _ e; rw [hDn] at this; cases this
  have hCs' : s.heap.get? C = none := by
    cases e : s.heap.get? C with
    | none => rfl
    | some o => have := g12.keep _ _ e; rw [hCn2] at this; cases this
  have hF2 := F.gr g12
  have g23 : Gr s₂ { s₂ with heap := h₁, toks := s₂.toks + ([] : List (Str × Value)).length } := ⟨hk1, Nat.le_add_right _ _, rfl, rfl⟩
  have hDX : Dd ∉ X := fun q => by
    obtain ⟨_, _, _, _, _, h4, _, _⟩ := hF2.sto
    obtain ⟨o, e⟩ := h4 _ q; rw [hDn] at e; cases e
  have hCX : C ∉ X := fun q => by
    obtain ⟨_, _, _, _, _, h4, _, _⟩ := hF2.sto
    obtain ⟨o, e⟩ := h4 _ q; rw [hCn2] at e; cases e
  have hCV : ¬ V0 C := fun q => by obtain ⟨o, e⟩ := (hF2.live0 C q).1; rw [hCn2] at e; cases e
  have hDV : ¬ V0 Dd := fun q => by obtain ⟨o, e⟩ := (hF2.live0 Dd q).1; rw [hDn] at e; cases e
  let Vi : Addr → Prop := fun a => Vol V0 X a ∨ a = Dd
  have hCo : ∃ oC, h₁.get? C = some oC ∧ ∃ es ep, oC.data = .dict es ep := let ⟨o, es, ep, e, hd, _⟩ := hns₁; ⟨o, e, es, ep, hd⟩
  have Fi : Fm c (relab sc scope) (compEnvC scope cl C env) Vi s.heap [] [C] ρi { s₂ with heap := h₁, toks := s₂.toks + ([] : List (Str × Value)).length } := by
    refine ⟨F.good, ?_, hc.kind, F.globals, F.builtins, F.base.trans F.keep, g12.keep.trans hk1, (hF2.gr g23).tok, fun a q => ?_, fun x hx => ?_, fun a ha => ?_, (fun _ _ q => nomatch q), fun x y a hx hy => F.cinj _ _ _ (hcle _ _ hx) (hcle _ _ hy), ⟨_, [], hns₁, by simp [compEnvC], by simp, fun a ha => ?_, (fun p hp => nomatch hp), ?_⟩⟩
    · show relabel scope env = relab sc scope
      unfold relabel relab
      rw [← F.scope]; rfl
    · rcases q with q | rfl
      · refine ⟨?_, fun q' => ?_⟩
        · rcases q with q | q
          · obtain ⟨o, e⟩ := (hF2.live0 a q).1; exact ⟨o, hk1 _ _ e⟩
          · obtain ⟨_, _, _, _, _, h4, _, _⟩ := hF2.sto
            obtain ⟨o, e⟩ := h4 _ q; exact ⟨o, hk1 _ _ e⟩
        · rw [List.mem_singleton] at q'; subst q'
          exact q.elim hCV hCX
      · exact ⟨⟨_, hDh1⟩, fun q' => hDC (List.mem_singleton.mp q')⟩
    · have hm := hx.elim (fun h => relab_mem (.inl rfl) hc.nocell h) fun h => relab_mem (.inr rfl) hc.nocell h
      obtain ⟨a, ha⟩ := F.ccells _ (hc.free _ hm rfl)
      exact ⟨a, (hclf _ hm rfl).trans ha⟩
    · rw [List.mem_singleton] at ha; subst ha; exact hCs'
    · rw [List.mem_singleton] at ha; subst ha
      obtain ⟨o, e, _⟩ := hCo; exact ⟨o, e⟩
    · obtain ⟨m, fps, hn, hXX, hnd, hlv, hcel, hst⟩ := F.sto
      have key : ∀ (r : Sto), (∀ p ∈ r, p ∈ ρi) → StoR c (compEnvC scope cl C env) (Vol Vi [C]) { s₂ with heap := h₁, toks := s₂.toks + ([] : List (Str × Value)).length } (fun x => ([] : List (Str × Value)).reverse.lookup x) r [] := by
        intro r
        induction r with
        | nil => intro _; exact .nil
        | cons p r ih =>
          intro hp
          obtain ⟨x, sl⟩ := p
          obtain ⟨d, hd, hl, hfr, hcd⟩ := hc.sto _ (hp _ (.head _))
          simp only at hd hl hfr hcd
          subst hd
          obtain ⟨v, fp, lo, rp, _⟩ := hst.get hl
          cases rp with
          | val rp =>
            refine .cons (fp := []) (v := v) ?_ (.val ?_) (ih fun p hp' => hp p (.tail _ hp'))
            · have hm := mem_lookup hfr
              have hkk := hc.free _ hm rfl
              cases lo with
              | loc h1 _ =>
                have h1' : sc.names.lookup (Str.ofString x) = some .local := by rw [← F.scope]; exact h1
                rw [h1'] at hkk
                rcases hkk with q | q <;> cases q
              | @cell a o h1 h2 h3 h4 =>
                refine .cell (a := a) (o := o) ?_ ((hclf _ hm rfl).trans h2) (hk1 _ _ (g12.keep _ _ h3)) h4
                have hrl : (relabel scope env).names.lookup (Str.ofString x) = some .cell ∨ (relabel scope env).names.lookup (Str.ofString x) = some .free := relab_free (sc := env.scope) (scope := scope) hfr
                exact hrl.imp id fun q => ⟨q, hcd⟩
            · have r2 : Rep c (fun a => Vol V0 X a ∨ (a = Dd ∨ a = C)) s d v := rp.ext fun a q => by
                rcases q with rfl | rfl
                · exact hDs
                · exact hCs'
              refine (r2.gr (g12.trans g23)).weak fun a q => ?_
              rcases q with (q | q) | q
              · exact .inl q
              · exact .inr (.inl q)
              · exact .inr (.inr (List.mem_singleton.mp q))
      exact key ρi fun _ h => h
  have hitX : it ∉ X := fun q => by
    obtain ⟨_, _, _, _, _, h4, _, _⟩ := F.sto
    obtain ⟨o, e⟩ := h4 _ q; rw [hits] at e; cases e
  have hitV : ¬ V0 it := fun q => by obtain ⟨o, e⟩ := (F.live0 it q).1; rw [hits] at e; cases e
  have hitalive : ∃ o, s₂.heap.get? it = some o := let ⟨o, _, _, e, _⟩ := hi.fields; ⟨o, e⟩
  have hitD : it ≠ Dd := fun q => by obtain ⟨o, e⟩ := hitalive; rw [q, hDn] at e; cases e
  have hitC : it ≠ C := fun q => by obtain ⟨o, e⟩ := hitalive; rw [q, hCn2] at e; cases e
  have hAt : ItAt c (Vol Vi [C]) { s₂ with heap := h₁, toks := s₂.toks + ([] : List (Str × Value)).length } it ds := by
    have hv : ∀ l, ¬ Vol V0 X l → (∃ o, s₂.heap.get? l = some o) → ¬ Vol Vi [C] l := fun l nl hal q => by
      obtain ⟨o, e⟩ := hal
      rcases q with (q | q) | q
      · exact nl q
      · rw [q, hDn] at e; cases e
      · rw [List.mem_singleton.mp q, hCn2] at e; cases e
    have hrl : ∀ {dd vv}, RepL c (Vol V0 X) s₂ dd vv → RepL c (Vol Vi [C]) { s₂ with heap := h₁, toks := s₂.toks + ([] : List (Str × Value)).length } dd vv := fun r => by
      have r2 := r.ext (W := fun a => a = Dd ∨ a = C) fun a q => by
        rcases q with rfl | rfl
        · exact hDn
        · exact hCn2
      refine (r2.gr g23).weak fun a q => ?_
      rcases q with (q | q) | q
      · exact .inl q
      · exact .inr (.inl q)
      · exact .inr (.inr (List.mem_singleton.mp q))
    exact hi.carry (fun o e => hk1 _ _ e) (fun l o nl e => ⟨hv _ nl ⟨_, e⟩, hk1 _ _ e⟩) fun r => hrl r
  have L := loop Dd it (compEnvC scope cl C env) [] { s₂ with heap := h₁, toks := s₂.toks + ([] : List (Str × Value)).length }
    ⟨hDs, hCs', hDC, hits, fun q => hitC (List.mem_singleton.mp q), fun q => q.elim (fun q => q.elim hitV hitX) hitD, fun q => hDC (List.mem_singleton.mp q), hw, Fi, hAt, hDh1, Nat.le_trans g12.tok g23.tok, g12.gens, g12.os, hsys⟩
  refine hstart _ _ _ _ _ L ?_
  have hi1 : ItAt c Vol0 { s₂ with heap := h₁, toks := s₂.toks + ([] : List (Str × Value)).length } it ds := by
    have w : ∀ {dd vv}, RepL c (Vol V0 X) s₂ dd vv → RepL c Vol0 { s₂ with heap := h₁, toks := s₂.toks + ([] : List (Str × Value)).length } dd vv := fun r => (r.gr g23).weak fun _ q => q.elim
    exact hi.carry (fun o e => hk1 _ _ e) (fun l o nl e => ⟨id, hk1 _ _ e⟩) fun r => w r
  exact hi1.self L
end Mine
namespace Mine

theorem newEnv_own {M : Model} {A : Around} {E : Value → Shared → Prop} {s : Shared} {scope : Scope} {globals : Addr} {qual : Str} {func : Option Addr} {code : Value} {outer : Env} {builtins : Addr} {Q : Env → Shared → Prop}
    (hQ : ∀ s', InCallC s s.heap.objs.size (fun _ => none) (cellsFrom (s.heap.objs.size + 1) scope.names []) (fun _ => none) s' → s'.toks = s.toks →
      Q (newEnv scope s.heap.objs.size globals (cellsFrom (s.heap.objs.size + 1) scope.names []) qual func code (some outer) builtins) s') :
    wpAny M A (newFunctionEnv scope globals [] [] qual func code (some outer) builtins) Q E s := by
  simp only [newFunctionEnv, Option.isSome_some, if_true]
  refine wpAny_bind (wpAny_alloc ?_)
  refine wpAny_bind (wpAny_layCells _ (fun name kind cells => by cases hkc : kind == NameKind.cell <;> simp) _ _ _ _ ?_)
  have ok := cellsFrom_ok scope.names (s.heap.push { cls := .type "dict", data := .dict #[] }) (s.heap.objs.size + 1) [] ⟨fun _ _ hm => (nomatch hm), List.Pairwise.nil⟩ (by rw [Heap.size_push]; exact Nat.le_refl _)
  rw [Heap.size_push] at ok
  rw [show ({ s with heap := s.heap.push { cls := .type "dict", data := .dict #[] } } : Shared).heap.objs.size = s.heap.objs.size + 1 from Heap.size_push ..]
  rw [List.forIn_nil]
  refine wpAny_bind (wpAny_pure (wpAny_pure (hQ _ ?_ rfl)))
  exact ⟨⟨⟨_, _, rfl⟩, (Heap.Ns.new s.heap (.type "dict")).keeps (pushCells_keeps _ _), fun b o e => pushCells_keeps _ _ b o (Heap.get?_push_of_some _ e), Nat.le_refl _⟩,
      fun n c hc => (ok.empty n c (mem_of_lookup hc)).1, ok.apart, fun n c hm => (ok.empty n c hm).2⟩

/-- a comprehension's scope with cells of its own, and nothing of the names around -/
structure CellS (scope : Scope) : Prop where
  kind : scope.kind = .function
  nofree : ∀ p ∈ scope.names, p.2 ≠ .free
  names : ∀ x ∈ scope.names, x.2 = .local → scope.names.lookup x.1 = some .local
  cnd : ((cellsFrom 0 scope.names []).map (·.1)).Nodup

theorem relab_nofree {sc scope : Scope} (h : ∀ p ∈ scope.names, p.2 ≠ .free) : relab sc scope = scope := by
  unfold relab
  have : (scope.names.map fun (x : Str × NameKind) => match x with | (n, k) => if (k == .free && sc.kind == .function && sc.names.lookup n == some .cell) then (n, .cell) else (n, k)) = scope.names := by
    conv => rhs; rw [← List.map_id scope.names]
    refine List.map_congr_left fun p hp => ?_
    obtain ⟨x, k⟩ := p
    have : (k == NameKind.free) = false := by simpa using h _ hp
    simp [this]
  rw [this]

theorem closure_none {scope : Scope} {env : Env} (h : ∀ p ∈ scope.names, p.2 ≠ .free) : closureFor scope env = pure [] := by
  unfold closureFor
  have key : ∀ (names : List (Str × NameKind)) (acc : List (Str × Addr)), (∀ p ∈ names, p.2 ≠ .free) →
      (forIn names acc fun (x : Str × NameKind) (cs : List (Str × Addr)) => match x with
        | (name, kind) => if (kind == NameKind.free) = true then do let a ← cellOf env name; pure (ForInStep.yield ((name, a) :: cs)) else pure (ForInStep.yield cs) : Sem (List (Str × Addr))) = pure acc := by
    intro names
    induction names with
    | nil => intro acc _; rfl
    | cons p r ih =>
      intro acc hp
      obtain ⟨x, k⟩ := p
      have hk : (k == NameKind.free) = false := by simpa using hp _ (.head _)
      rw [List.forIn_cons]
      simp only [hk, Bool.false_eq_true, if_false]
      exact ih acc fun p hp' => hp p (.tail _ hp')
  have := key scope.names [] h
  simp only [bind_pure]
  exact this

/-- the head of a comprehension with cells of its own -/
theorem comp_setC {c : Cx} {n : Nat} {sc scope : Scope} {ρ : Sto} {e tgt iter : Expr} {ifs : List Expr} {pos : Pos} {d₀ : D} {ds : List D} {use : Option (Value → Sem Unit)} {A : Around} {env : Env} {V0 : Addr → Prop} {h0 : Heap} {Cs : List (Str × Addr)} {X : List Addr} {s : Shared}
    {Q : Value → Shared → Prop} {newAcc : Sem Value} {ob : Obj}
    (hA : Room n A) (F : Fm c sc env V0 h0 Cs X ρ s) (he : Ev c n sc true ρ iter d₀) (hit : IterR c d₀ ds) (hc : CellS scope) (hs : ∀ (env : Env) x, foldedSetIterable iter env x = pure x)
    (hcl : clausesOf e = [⟨tgt, iter, ifs, 0⟩]) (hfr : ob.isFreed = false)
    (hnew : ∀ (Q : Value → Shared → Prop) (s : Shared), Q (.ref s.heap.objs.size) { s with heap := s.heap.push ob } → wpAny c.M A newAcc Q NoE s)
    (hstart : ∀ (it acc : Value) (env : Env) (R : Result → Shared → Prop) (s : Shared), codeAny c.M A (.compLoop e 0 it acc env) R s →
      wpAny c.M A (pyIter it) (fun it' s' => codeAny c.M A (.compLoop e 0 it' acc env) R s') (notedBy c.M A env fun x s' => R (.error x) s') s → codeAny c.M A (.compStart e 0 it acc env) R s)
    (loop : ∀ Dd it envi Csi s₃, CSet c scope envi V0 X s [] ob ds true Dd it Csi s₃ → codeAny c.M A (.compLoop e 0 (.ref it) (.ref Dd) envi) (compPost c.M A NoE use Q (.ref Dd) envi.locals) s₃) :
    wpAny c.M A (comprehension e scope env pos newAcc false (eval iter env) use) Q NoE s := by
  refine wpAny_comprehension_free (use := use) hcl (hs env) (closure_none hc.nofree) hc.kind hc.names (wpAny_mono (he.run A env V0 h0 Cs X s hA F) (fun xv s₁ q₁ => ?_) fun _ _ q => q)
  refine wpAny_mono (hit A _ s₁ xv hA.zero ((F.st true).gr q₁.1) q₁.2) (fun itv s₂ q₂ => ?_) fun _ _ q => q
  obtain ⟨g₂, it, rfl, hitn, hi⟩ := q₂
  have hV : VK true V0 X = Vol V0 X := by funext a; simp [VK]
  rw [hV] at hi
  have g12 := q₁.1.trans g₂
  have hits : s.heap.get? it = none := by
    cases e : s.heap.get? it with
    | none => rfl
    | some o => have := q₁.1.keep _ _ e; rw [hitn] at this; cases this
  refine hnew _ _ (newEnv_own fun s₃ hI hst => ?_)
  have hsys : (s₂.heap.objs.size == sysModules) = false := by
    obtain ⟨_, _, _, e, _⟩ := ((F.good.g.keeps F.base).keeps F.keep).keeps g12.keep
    have := Heap.lt_size e
    have h3 : (3 : Nat) < s₂.heap.objs.size := this
    have : s₂.heap.objs.size ≠ (1 : Nat) := by omega
    simpa [sysModules] using this
  have hDn : s₂.heap.get? s₂.heap.objs.size = none := get_size _
  have hkH : Keeps (s₂.heap.push ob) s₃.heap := hI.toInCall.keep
  have hns := hI.toInCall.ns
  have hC : (s₂.heap.push ob).objs.size = s₂.heap.objs.size + 1 := by rw [Heap.size_push]
  have hge : ∀ a, s₂.heap.objs.size ≤ a → s₂.heap.get? a = none := fun a ha => by
    cases e : s₂.heap.get? a with
    | none => rfl
    | some o => exact absurd (Heap.lt_size e) (Nat.not_lt.mpr ha)
  have hDh1 : s₃.heap.get? s₂.heap.objs.size = some ob := hkH _ _ (Heap.get?_push_size _ hfr)
  have hk1 : Keeps s₂.heap s₃.heap := fun b o e => hkH _ _ (Heap.get?_push_of_some _ e)
  have g23 : Gr s₂ s₃ := by
    obtain ⟨h₁, tk, e⟩ := hI.toInCall.same
    exact ⟨hk1, Nat.le_of_eq hst.symm, by rw [e], by rw [e]⟩
  have hcell := hI.cell
  have hap := hI.apart
  have habove := hI.above
  dsimp only at hcell hap habove hns ⊢
  generalize hCC : (s₂.heap.push ob).objs.size = C at hcell hap habove hns hC ⊢
  generalize hCs : cellsFrom (C + 1) scope.names [] = Csi at hcell hap habove ⊢
  have hDC : s₂.heap.objs.size ≠ C := by omega
  have hX2 : ∀ a ∈ C :: (Csi.map (·.2) ++ []), s₂.heap.get? a = none ∧ a ≠ s₂.heap.objs.size := fun a ha => by
    rw [List.append_nil] at ha
    have : C ≤ a := by
      rcases List.mem_cons.mp ha with q | q
      · exact Nat.le_of_eq q.symm
      · obtain ⟨p, hp, rfl⟩ := List.mem_map.mp q
        exact Nat.le_of_lt (habove p.1 p.2 hp)
    exact ⟨hge a (by omega), by omega⟩
  have hcellAt : ∀ y b, (y, b) ∈ Csi → Csi.lookup y = some b := fun y b hm => by
    have hnd : (Csi.map (·.1)).Nodup := hCs ▸ (cellsFrom_shift scope.names 0 (C + 1) [] [] rfl ▸ hc.cnd)
    exact lookup_of_mem_nodup hnd hm
  generalize hDd : s₂.heap.objs.size = Dd at hsys hDn hDC hDh1 hX2 hge hC ⊢
  have up : ∀ a, s₂.heap.get? a = none → s.heap.get? a = none := fun a ha => by
    cases e : s.heap.get? a with
    | none => rfl
    | some o => have := g12.keep _ _ e; rw [ha] at this; cases this
  have hF2 := F.gr g12
  have fresh : ∀ a, s₂.heap.get? a = none → a ∉ X ∧ ¬ V0 a := fun a ha => by
    refine ⟨fun q => ?_, fun q => ?_⟩
    · obtain ⟨_, _, _, _, _, h4, _, _⟩ := hF2.sto
      obtain ⟨o, e⟩ := h4 _ q; rw [ha] at e; cases e
    · obtain ⟨o, e⟩ := (hF2.live0 a q).1; rw [ha] at e; cases e
  let Vi : Addr → Prop := fun a => Vol V0 X a ∨ a = Dd
  have hCin : C ∈ C :: (Csi.map (·.2) ++ []) := .head _
  have hDX : Dd ∉ C :: (Csi.map (·.2) ++ []) := fun q => (hX2 _ q).2 rfl
  have hown : Own scope Csi := fun x hx => hCs ▸ Option.isSome_iff_exists.mp (cellsFrom_has scope.names (C + 1) [] hx)
  have Fi : Fm c scope (compEnvC scope Csi C env) Vi s.heap Csi (C :: (Csi.map (·.2) ++ [])) [] s₃ := by
    refine ⟨F.good, ?_, hc.kind, F.globals, F.builtins, F.base.trans F.keep, g12.keep.trans hk1, (hF2.gr g23).tok, fun a q => ?_, fun x hx => ?_, fun a ha => up a (hX2 a ha).1, (fun _ _ q => q), fun x y a hx hy => lookup_inj hap hx hy,
      ⟨_, [], hns, rfl, ?_, fun a ha => ?_, (fun p hp => ⟨_, hcell p.1 p.2 (hcellAt _ _ hp)⟩), .nil⟩⟩
    · show relabel scope env = scope
      have := relab_nofree (sc := sc) hc.nofree
      conv => rhs; rw [← this]
      unfold relabel relab
      rw [← F.scope]; rfl
    · refine ⟨?_, fun q' => ?_⟩
      · rcases q with (q | q) | rfl
        · obtain ⟨o, e⟩ := (hF2.live0 a q).1; exact ⟨o, hk1 _ _ e⟩
        · obtain ⟨_, _, _, _, _, h4, _, _⟩ := hF2.sto
          obtain ⟨o, e⟩ := h4 _ q; exact ⟨o, hk1 _ _ e⟩
        · exact ⟨_, hDh1⟩
      · have := hX2 a q'
        rcases q with (q | q) | q
        · exact (fresh a this.1).2 q
        · exact (fresh a this.1).1 q
        · exact this.2 q
    · rcases hx with hx | hx
      · exact hown x hx
      · exact absurd rfl (hc.nofree _ (mem_lookup hx))
    · rw [List.append_nil]
      refine List.nodup_cons.mpr ⟨fun q => ?_, List.pairwise_map.mpr hap⟩
      obtain ⟨p, hp, e⟩ := List.mem_map.mp q
      have := habove p.1 p.2 hp
      exact Nat.lt_irrefl _ (e ▸ this)
    · rcases List.mem_cons.mp ha with q | q
      · obtain ⟨oL, _, _, e, _⟩ := hns
        exact ⟨oL, q ▸ e⟩
      · rw [List.append_nil] at q
        obtain ⟨p, hp, rfl⟩ := List.mem_map.mp q
        obtain ⟨oc, e, _⟩ := hcell p.1 p.2 (hcellAt _ _ hp)
        exact ⟨oc, e⟩
  have hitX : it ∉ X := fun q => by
    obtain ⟨_, _, _, _, _, h4, _, _⟩ := F.sto
    obtain ⟨o, e⟩ := h4 _ q; rw [hits] at e; cases e
  have hitV : ¬ V0 it := fun q => by obtain ⟨o, e⟩ := (F.live0 it q).1; rw [hits] at e; cases e
  have hitalive : ∃ o, s₂.heap.get? it = some o := let ⟨o, _, _, e, _⟩ := hi.fields; ⟨o, e⟩
  have hitD : it ≠ Dd := fun q => by obtain ⟨o, e⟩ := hitalive; rw [q, hDn] at e; cases e
  have hitXi : it ∉ C :: (Csi.map (·.2) ++ []) := fun q => by obtain ⟨o, e⟩ := hitalive; rw [(hX2 _ q).1] at e; cases e
  have hAt : ItAt c (Vol Vi (C :: (Csi.map (·.2) ++ []))) s₃ it ds := by
    have hv : ∀ l, ¬ Vol V0 X l → (∃ o, s₂.heap.get? l = some o) → ¬ Vol Vi (C :: (Csi.map (·.2) ++ [])) l := fun l nl hal q => by
      obtain ⟨o, e⟩ := hal
      rcases q with (q | q) | q
      · exact nl q
      · rw [q, hDn] at e; cases e
      · rw [(hX2 _ q).1] at e; cases e
    have hrl : ∀ {dd vv}, RepL c (Vol V0 X) s₂ dd vv → RepL c (Vol Vi (C :: (Csi.map (·.2) ++ []))) s₃ dd vv := fun r => by
      have r2 := r.ext (W := fun a => a = Dd ∨ a ∈ C :: (Csi.map (·.2) ++ [])) fun a q => by
        rcases q with rfl | q
        · exact hDn
        · exact (hX2 _ q).1
      refine (r2.gr g23).weak fun a q => ?_
      rcases q with (q | q) | q
      · exact .inl q
      · exact .inr (.inl q)
      · exact .inr (.inr q)
    exact hi.carry (fun o e => hk1 _ _ e) (fun l o nl e => ⟨hv _ nl ⟨_, e⟩, hk1 _ _ e⟩) fun r => hrl r
  have L := loop Dd it (compEnvC scope Csi C env) Csi s₃
    ⟨up _ hDn, up _ (hX2 _ hCin).1, hDC, hits, hitXi, fun q => q.elim (fun q => q.elim hitV hitX) hitD, hDX, fun _ => hown, Fi, hAt, hDh1, Nat.le_trans g12.tok g23.tok, g23.gens.trans g12.gens, g23.os.trans g12.os, hsys⟩
  refine hstart _ _ _ _ _ L ?_
  have hi1 : ItAt c Vol0 s₃ it ds := by
    have w : ∀ {dd vv}, RepL c (Vol V0 X) s₂ dd vv → RepL c Vol0 s₃ dd vv := fun r => (r.gr g23).weak fun _ q => q.elim
    exact hi.carry (fun o e => hk1 _ _ e) (fun l o nl e => ⟨id, hk1 _ _ e⟩) fun r => w r
  exact hi1.self L
end Mine
namespace Mine
section
variable {c : Cx} {n : Nat} {sc : Scope} {k : Bool} {ρ : Sto}

/-- the list that a comprehension fills -/
def AccL (c : Cx) (V : Addr → Prop) (Dd : Addr) (rs : List D) (s : Shared) : Prop :=
  ∃ o vs nn, s.heap.get? Dd = some o ∧ o.cls = .type "list" ∧ (o.dict = none ∧ o.slots = #[]) ∧ o.data = .seq vs nn ∧ RepL c V s rs vs.toList
theorem AccL.calm {V : Addr → Prop} {Dd : Addr} {rs : List D} {s s' : Shared} (h : AccL c V Dd rs s) (hc : Calm V s s') (hk : ∀ o, s.heap.get? Dd = some o → s'.heap.get? Dd = some o) : AccL c V Dd rs s' := by
  obtain ⟨o, vs, nn, h1, h2, h3, h4, h5⟩ := h
  exact ⟨o, vs, nn, hk _ h1, h2, h3, h4, h5.calm hc fun _ q => q⟩

/-- [.. for ..], with a cell of its own -/
theorem Ev.compC {elt tgt iter : Expr} {scope : Scope} {pos : Pos} {d₀ : D} {α : Type} {g : α → D} {ds : List α} (r : α → D) (he : Ev c n sc true ρ iter d₀) (hit : IterR c d₀ (ds.map g)) (hc : CellS scope) (hz : ds.length ≤ 16777216)
    (item : ∀ d ∈ ds, ∃ ρ₁, TgtG true c scope tgt (g d) [] ρ₁ ∧ Ev c n scope true ρ₁ elt (r d)) (hs : ∀ (env : Env) x, foldedSetIterable iter env x = pure x := by intro _ _; rfl) : Ev c n sc k ρ (.ListComp elt [⟨tgt, iter, [], 0⟩] scope pos) (.list (ds.map r)) :=
  Ev.weak <| .mk fun A env V0 h0 Cs X s hA F => by
    rw [eval_ListComp]
    refine comp_setC (ob := { cls := .type "list", dict := Option.none, data := .seq ([] : List Value).toArray }) hA F he hit hc hs rfl rfl (fun Q s h => wpAny_newObj_type h) (fun it acc env R s h1 h2 => codeAny_compStart_list h1 h2) fun Dd it envi Csi s₃ T => ?_
    refine comp_loopG (w := true) (body := fun P s => wpAny c.M A (PySem.eval elt envi) (fun x s₄ => wpAny c.M A (PySem.call (Value.builtin "list.append") [.ref Dd, x]) (fun _ s₅ => P s₅) NoE s₄) NoE s) (f := fun d => some (r d)) (tgt := tgt) (ifs := [])
      (Acc := AccL c (Vol (fun a => Vol V0 X a ∨ a = Dd) (envi.locals :: (Csi.map (·.2) ++ []))) Dd)
      (fun P P' s h hp => wpAny_mono h (fun x s₄ q => wpAny_mono q (fun _ s₅ q => hp _ q) fun _ _ q => q) fun _ _ q => q) hA rfl (fun p hp => absurd hp List.not_mem_nil) T.own (.inr rfl) T.dn T.itn T.itX T.itV T.dX (fun I turn m hI => code_comp I turn m hI) T.fm T.at' ⟨_, _, 0, T.acc, rfl, ⟨rfl, rfl⟩, rfl, .nil⟩
      (fun rs s s' h hc hk => h.calm hc hk) (fun rs s ⟨o, _, _, h, _⟩ => ⟨o, h⟩) ?_ ?_
    · intro done d rest e
      obtain ⟨ρ₁, ht, hev⟩ := item d (e ▸ List.mem_append_right _ (.head _))
      refine ⟨ρ₁, ht, .nil, .nil, fun X₄ s₄ hX F₄ hac => ?_⟩
      refine wpAny_mono (hev.run A _ _ _ _ _ s₄ hA F₄) (fun x s₅ q => ?_) fun _ _ q => q
      obtain ⟨g₅, rx⟩ := q
      obtain ⟨o, vs, nn, l1, l2, l3, l4, l5⟩ := hac
      have j7 := g₅.keep _ _ l1
      refine append_wp j7 l2 l3 l4 (fun h' o' n' a1 a2 a3 a4 a5 => ?_) ?_
      · refine ⟨⟨s₅, h', s₅.toks, g₅, a5, Nat.le_refl _, ⟨_, a1⟩, (fun ob w e hw => by rw [j7] at e; cases e; rw [l4] at hw; cases hw), rfl⟩, o', vs.push x, n', a1, a2, a3, a4, ?_⟩
        have hcm : Calm (Vol (fun a => Vol V0 X a ∨ a = Dd) (envi.locals :: (Csi.map (·.2) ++ []))) s₅ { s₅ with heap := h' } := ⟨Nat.le_refl _, fun b ob nb e _ => (a5.2 b fun q => nb (.inl (.inr q))).trans e⟩
        have rx' : Rep c (Vol (fun a => Vol V0 X a ∨ a = Dd) (envi.locals :: (Csi.map (·.2) ++ []))) s₅ (r d) x := rx.weak fun a q => ⟨rfl, q.imp id (hX a)⟩
        have := ((l5.gr g₅).append (.cons rx' .nil)).calm hcm fun _ q => q
        simpa using this
      · have := l5.length
        have h3 : vs.size = done.length := by
          have h4 : vs.toList.length = vs.size := by simp
          rw [← h4, ← this]; simp
        have := congrArg List.length e
        simp only [List.length_append, List.length_cons] at this
        omega
    · intro s' hk ht hgn hos hm hac
      obtain ⟨m, hm⟩ := hm
      obtain ⟨o, vs, nn, l1, l2, l3, l4, l5⟩ := hac
      have hlv := (F.st true).live
      refine ⟨m, hm, fun h' hs' => ⟨⟨fun b ob e => (hs'.2 b fun q => by rw [q, T.cn] at e; cases e).trans (hk b ob e), Nat.le_trans T.tok ht, hgn.trans T.gens, hos.trans T.os⟩, .list (fun q => ?_) ((hs'.2 _ T.dc).trans l1) l2 l3 l4 ?_⟩⟩
      · obtain ⟨o', e⟩ := hlv _ q; rw [T.dn] at e; cases e
      · have e1 : ds.filterMap (fun d => some (r d)) = ds.map r := filterMap_some r ds
        rw [e1] at l5
        exact l5.calm (s := s') (s' := { s' with heap := h' }) ⟨Nat.le_refl _, fun b ob nb e _ => (hs'.2 b fun q => nb (.inr (q ▸ .head _))).trans e⟩ fun a q => .inl (.inl q.2)

/-- the table that a comprehension fills -/
def AccD (c : Cx) (V : Addr → Prop) (Dd : Addr) (kvs : List (List Nat × D)) (s : Shared) : Prop :=
  ∃ kvv : List (Str × Value), s.heap.DictOf (strKind c.prog c.w) Dd kvv ∧ kvv.map (·.1) = kvs.map (fun p => S p.1) ∧ RepL c V s (kvs.map (·.2)) (kvv.map (·.2))
theorem AccD.calm {V : Addr → Prop} {Dd : Addr} {kvs : List (List Nat × D)} {s s' : Shared} (h : AccD c V Dd kvs s) (hc : Calm V s s') (hk : ∀ o, s.heap.get? Dd = some o → s'.heap.get? Dd = some o) : AccD c V Dd kvs s' := by
  obtain ⟨kvv, h1, h2, h3⟩ := h
  exact ⟨kvv, h1.at hk, h2, h3.calm hc fun _ q => q⟩

theorem stored_new {kvv : List (Str × Value)} {x : Str} {v : Value} (h : x ∉ kvv.map (·.1)) : stored kvv x v = kvv ++ [(x, v)] := by
  unfold stored
  rw [if_neg]
  intro q
  obtain ⟨p, hp, e⟩ := List.any_eq_true.mp q
  exact h (List.mem_map.mpr ⟨p, hp, by simpa using e⟩)

theorem code_compD {A : Around} {s : Shared} {R : Result → Shared → Prop} {kx vx target iter : Expr} {ifs : List Expr} {scope : Scope} {pos : Pos} {it : Value} {Dd : Addr} {env : Env} (I : Nat → Shared → Prop)
    (turn : ∀ n s, I n s → wpAny c.M A (pyNext it) (fun r s₁ => match r with
      | none => R (.ok .next) s₁
      | some v => wpAny c.M A (letOwnedTupleGo target it v) (fun _ s₁' => wpAny c.M A (assign target env v) (fun _ s₂ =>
          wpAny c.M A (forIn ifs true fun c r => if r = true then do let ok ← isTrue c env (eval c env); pure (ForInStep.yield ok) else pure (ForInStep.yield r)) (fun ok s₃ =>
            if ok = true then wpAny c.M A (eval kx env) (fun kv s₄ => wpAny c.M A (eval vx env) (fun vv s₅ => wpAny c.M A (dictSet Dd kv vv) (fun _ s₆ => ∃ m, m < n ∧ I m s₆) NoE s₅) NoE s₄) NoE s₃
            else ∃ m, m < n ∧ I m s₃) NoE s₂) NoE s₁') NoE s₁) NoE s)
    (n : Nat) (h : I n s) : codeAny c.M A (.compLoop (.DictComp kx vx [⟨target, iter, ifs, 0⟩] scope pos) 0 it (.ref Dd) env) R s := by
  refine codeAny_loop rfl I (fun n s hI => ?_) n h
  show wpAny _ A ((compTurn (.DictComp kx vx [⟨target, iter, ifs, 0⟩] scope pos) 0 it (.ref Dd) env).onRaise (fun x => do noteFrame x env; theTreesLotGoes x)) _ _ s
  refine wpAny_noted ?_
  rw [compTurn_dict]
  refine wpAny_bind (wpAny_standAt (wpAny_bind (wpAny_mono (turn n s hI) (fun r s₁ h₁ => ?_) fun _ _ h' => h'.elim)))
  cases r with
  | none => exact wpAny_pure h₁
  | some v =>
    refine wpAny_bind (wpAny_mono h₁ (fun _ s₁' h₁' => ?_) fun _ _ h' => h'.elim)
    refine wpAny_bind (wpAny_mono h₁' (fun _ s₂ h₂ => wpAny_bind (wpAny_mono h₂ (fun ok s₃ h₃ => ?_) fun _ _ h' => h'.elim)) fun _ _ h' => h'.elim)
    cases ok with
    | false => exact wpAny_pure ⟨rfl, h₃⟩
    | true =>
      exact wpAny_bind (wpAny_bind (wpAny_mono h₃ (fun kv s₄ h₄ => wpAny_bind (wpAny_holding (wpAny_mono h₄ (fun vv s₅ h₅ => wpAny_bind (wpAny_standAt (wpAny_holding (wpAny_mono h₅ (fun _ s₆ h₆ => wpAny_pure ⟨rfl, h₆⟩) fun _ _ h' => h'.elim)))) fun _ _ h' => h'.elim))) fun _ _ h' => h'.elim))

/-- {.. : .. for ..} with keys apart -/
theorem Ev.compD {kx vx tgt iter : Expr} {scope : Scope} {pos : Pos} {d₀ : D} {α : Type} {g : α → D} {ds : List α} (kk : α → List Nat) (r : α → D) (ρi : Sto) (he : Ev c n sc true ρ iter d₀) (hit : IterR c d₀ (ds.map g)) (hc : Capt sc scope ρ ρi) (hz : ds.length ≤ 16777216) (hnd : (ds.map kk).Nodup)
    (item : ∀ d ∈ ds, ∃ ρ₁, TgtG false c (relab sc scope) tgt (g d) ρi ρ₁ ∧ SubS ρi ρ₁ ∧ Ev c n (relab sc scope) true ρ₁ kx (sd (kk d)) ∧ Ev c n (relab sc scope) true ρ₁ vx (r d)) (hs : ∀ (env : Env) x, foldedSetIterable iter env x = pure x := by intro _ _; rfl) :
    Ev c n sc k ρ (.DictComp kx vx [⟨tgt, iter, [], 0⟩] scope pos) (.dict (ds.map fun d => (kk d, r d))) :=
  Ev.weak <| .mk fun A env V0 h0 Cs X s hA F => by
    rw [arm_eval_DictComp]
    refine comp_setF (w := false) (ob := { cls := .type "dict", dict := Option.none, data := .dict #[] }) hA F he hit hc (fun q => nomatch q) hs rfl rfl (fun Q s h => wpAny_newObj_type h) (fun it acc env R s h1 h2 => codeAny_compStart_dict h1 h2) fun Dd it envi Csi s₃ T => ?_
    refine comp_loopG (w := false) (body := fun P s => wpAny c.M A (PySem.eval kx envi) (fun kv s₄ => wpAny c.M A (PySem.eval vx envi) (fun vv s₅ => wpAny c.M A (dictSet Dd kv vv) (fun _ s₆ => P s₆) NoE s₅) NoE s₄) NoE s) (f := fun d => some (kk d, r d)) (tgt := tgt) (ifs := [])
      (Acc := AccD c (Vol (fun a => Vol V0 X a ∨ a = Dd) (envi.locals :: (Csi.map (·.2) ++ []))) Dd)
      (fun P P' s h hp => wpAny_mono h (fun x s₄ q => wpAny_mono q (fun _ s₅ q => wpAny_mono q (fun _ s₆ q => hp _ q) fun _ _ q => q) fun _ _ q => q) fun _ _ q => q) hA rfl (fun p hp => let ⟨d, e, _⟩ := hc.sto p hp; ⟨d, e⟩) (fun q => nomatch q) (.inr rfl) T.dn T.itn T.itX T.itV T.dX (fun I turn m hI => code_compD I turn m hI) T.fm T.at'
      ⟨[], ⟨_, #[], 0, T.acc, ⟨rfl, rfl, rfl⟩, rfl, fun _ he => by simp at he, Pairs.nil, List.nodup_nil⟩, rfl, .nil⟩
      (fun rs s s' h hc hk => h.calm hc hk) (fun rs s ⟨kvv, ⟨o, _, _, h, _⟩, _⟩ => ⟨o, h⟩) ?_ ?_
    · intro done d rest e
      obtain ⟨ρ₁, ht, hsub, hev1, hev2⟩ := item d (e ▸ List.mem_append_right _ (.head _))
      refine ⟨ρ₁, ht, hsub, .nil, fun X₄ s₄ hX F₄ hac => ?_⟩
      refine wpAny_mono (hev1.run A _ _ _ _ _ s₄ hA F₄) (fun x s₅ q => ?_) fun _ _ q => q
      obtain ⟨g₅, rx⟩ := q
      refine wpAny_mono (hev2.run A _ _ _ _ _ s₅ hA (F₄.gr g₅)) (fun y s₆ q => ?_) fun _ _ q => q
      obtain ⟨g₆, ry⟩ := q
      have hac6 := hac.calm ((g₅.trans g₆).calm _) fun o e => (g₅.trans g₆).keep _ _ e
      obtain ⟨kvv, l1, l2, l3⟩ := hac6
      cases rx with
      | str _ t =>
        have hkl : kvv.length = done.length := by
          have := congrArg List.length l2
          simpa using this
        have hnew : S (kk d) ∉ kvv.map (·.1) := by
          rw [l2]
          intro q
          obtain ⟨p, hp, e2⟩ := List.mem_map.mp q
          obtain ⟨d', hd', e3⟩ := List.mem_filterMap.mp hp
          cases e3
          have := S_inj e2
          rw [e, List.map_append, List.map_cons] at hnd
          exact (List.nodup_append.mp hnd).2.2 _ (List.mem_map_of_mem hd') _ (.head _) this
        refine wpAny_dictSet_pairs (knd := strKind c.prog c.w) (k := S (kk d)) (strKind_is c.prog c.w _ t) l1 (fun h' hd' hs' => ?_) (by
          have := congrArg List.length e
          simp only [List.length_append, List.length_cons] at this
          rw [sizeLine_eq]; omega)
        rw [stored_new hnew] at hd'
        obtain ⟨o, es, ep, ho, hx, hdt, hrest⟩ := l1
        refine ⟨⟨s₆, h', _, g₅.trans g₆, hs', Nat.le_add_right _ _, ⟨_, hd'.choose_spec.choose_spec.choose_spec.1⟩, (fun ob w e hw => by rw [ho] at e; cases e; rw [hdt] at hw; cases hw), rfl⟩, _, hd', ?_, ?_⟩
        · rw [List.map_append, l2, List.map_append]; rfl
        · have hcm : Calm (Vol (fun a => Vol V0 X a ∨ a = Dd) (envi.locals :: (Csi.map (·.2) ++ []))) s₆ { s₆ with heap := h', toks := s₆.toks + 1 } := ⟨Nat.le_add_right _ _, fun b ob nb e _ => (hs'.2 b fun q => nb (.inl (.inr q))).trans e⟩
          have ry' : Rep c (Vol (fun a => Vol V0 X a ∨ a = Dd) (envi.locals :: (Csi.map (·.2) ++ []))) s₆ (r d) y := ry.weak fun a q => ⟨rfl, q.imp id (hX a)⟩
          have := (l3.append (.cons ry' .nil)).calm hcm fun _ q => q
          rw [List.map_append, List.map_append]; exact this
    · intro s' hk ht hgn hos hm hac
      obtain ⟨m, hm⟩ := hm
      obtain ⟨kvv, ⟨o, es, ep, ho, hx, hdt, hkeys, hpairs, _⟩, l2, l3⟩ := hac
      have hlv := (F.st true).live
      have e1 : ds.filterMap (fun d => some (kk d, r d)) = ds.map fun d => (kk d, r d) := filterMap_some (fun d => (kk d, r d)) ds
      rw [e1] at l2 l3
      refine ⟨m, hm, fun h' hs' => ⟨⟨fun b ob e => (hs'.2 b fun q => by rw [q, T.cn] at e; cases e).trans (hk b ob e), Nat.le_trans T.tok ht, hgn.trans T.gens, hos.trans T.os⟩, .dict (fun q => ?_) T.sys ((hs'.2 _ T.dc).trans ho) hx hdt (repD_of hpairs (fun e he => hkeys e (Array.mem_toList_iff.mp he)) l2 ?_)⟩⟩
      · obtain ⟨o', e⟩ := hlv _ q; rw [T.dn] at e; cases e
      · exact l3.calm (s := s') (s' := { s' with heap := h' }) ⟨Nat.le_refl _, fun b ob nb e _ => (hs'.2 b fun q => nb (.inr (q ▸ .head _))).trans e⟩ fun a q => .inl (.inl q.2)
end
end Mine
namespace Mine

/-- text.find(sign, at) -/
def findF (q : Nat) (l : List Nat) (a : Nat) : Int := if q ∈ l.drop a then ((a + (before q (l.drop a)).length : Nat) : Int) else -1
theorem before_at (q : Nat) {l : List Nat} {i : Nat} (h : l[i]? = some q) (hn : ∀ j, j < i → l[j]? ≠ some q) : (before q l).length = i := by
  have h1 := (first_at q l i h hn).1
  have h2 := (List.getElem?_eq_some_iff.mp h).1
  rw [← h1, List.length_take]; omega
section
variable {c : Cx} {n : Nat} {sc : Scope} {k : Bool} {ρ : Sto}
theorem Rep.dictRef {V : Addr → Prop} {s : Shared} {kvs : List (List Nat × D)} {v : Value} (r : Rep c V s (.dict kvs) v) : ∃ a, v = .ref a := by
  cases r; exact ⟨_, rfl⟩
theorem FnR.find {l y : List Nat} {q a : Nat} (hy : y = [q]) : FnR c n (.builtin "str.find") [sd l, sd y, .int a] (.int (findF q l a)) := .mk fun A V s vs hA hS r => by
  subst hy
  cases r with
  | cons r rs => cases rs with
    | cons r' rs => cases rs with
      | cons r'' rs => cases rs; cases r with
        | str _ t => cases r' with
          | str _ u => cases r'' with
            | int _ t3 =>
              have hfi : PySem.fromIndex (S l).length (a : Int) = a := by
                unfold PySem.fromIndex
                rw [if_neg (by omega)]; omega
              have e : Txt.find3 (S l) (S [q]) (a : Int) = findF q l a := by
                unfold Txt.find3 findF
                rw [hfi]
                have hat : ∀ i, StrLaws.At (S l) (S [q]) (S l).length i ↔ l[i]? = some q := fun i => by
                  refine (StrLaws.subAt_one (S l) q i).trans ?_; simp
                rcases StrLaws.occ_head_from (S l) (S [q]) a 1 (Nat.le_refl _) with ⟨h1, h2⟩ | ⟨i, rr, h1, hlo, h2, h3⟩
                · rw [h1, if_neg]
                  intro hm
                  obtain ⟨j, hj⟩ := List.mem_iff_getElem?.mp hm
                  rw [List.getElem?_drop] at hj
                  exact h2 (a + j) (Nat.le_add_right _ _) ((hat _).mpr hj)
                · rw [h1]
                  have hi := (hat i).mp h2
                  have hd : (l.drop a)[i - a]? = some q := by rw [List.getElem?_drop]; rw [show a + (i - a) = i by omega]; exact hi
                  rw [if_pos (List.mem_of_getElem? hd), before_at q hd fun j hj e' => by
                    rw [List.getElem?_drop] at e'
                    exact h3 (a + j) (Nat.le_add_right _ _) (by omega) ((hat _).mpr e')]
                  show ((i : Nat) : Int) = _
                  congr 1; omega
              refine SC.find3 ⟨Gr.toks (Nat.le_succ _), ?_⟩
              rw [e]; exact .int _ _

theorem FnR.dget {kvs : List (List Nat × D)} {x : List Nat} {d : D} : FnR c n (.builtin "dict.get") [.dict kvs, sd x, d] ((kvs.lookup x).getD d) := .mk fun A V s vs hA hS r => by
  cases r with
  | cons r rs => cases rs with
    | cons r' rs => cases rs with
      | cons r'' rs => cases rs; cases r' with
        | str _ t =>
          obtain ⟨a, rfl⟩ := r.dictRef
          obtain ⟨f, hm, hsys, hf⟩ := r.map
          refine call_meetsIn PySem.F.slot_dict_get hm.typeIs PySem.F.entry_dict_get (PySem.F.args_dict_get_3 _ _ _) (meets_dict_get_default (strKind c.prog c.w) a (strKind_is c.prog c.w (S x) t) hsys _) ⟨f, hm, ?_⟩
          refine ⟨Gr.toks (Nat.le_succ _), ?_⟩
          have hx := hf x
          cases e : kvs.lookup x with
          | none =>
            rw [e] at hx
            simp only at hx
            rw [hx]
            exact r''.gr (Gr.toks (Nat.le_succ _))
          | some d' =>
            rw [e] at hx
            obtain ⟨v, h1, h2⟩ := hx
            rw [h1]
            exact h2.gr (Gr.toks (Nat.le_succ _))

/-- the values of any table-like thing, gathered -/
theorem kdlCollect {prog : Program} {w : World} {A : Around} {E : Value → Shared → Prop} {s : Shared} {T : String} {r d : Addr} {n : Nat} {P : Nat → Value → Prop} {OK : Heap → Prop} {R : List Value → Shared → Prop} (K : KdlSrc prog w T r d n P OK) (hh : A.handled = none) (hok : OK s.heap) (hn : n ≤ sizeLine)
    (h : ∀ (h' : Heap) (tk : Nat) (acc : Array Value), (∀ b o, s.heap.get? b = some o → h'.get? b = some o) → ItemsOf P acc n → R acc.toList { s with heap := h', toks := tk }) :
    wpAny (model prog w) A (collect (.ref r)) R E s := by
  have hlt := K.there _ hok
  unfold collect
  refine wpAny_bind (wpAny_runValue (codeAny_builtin entry_proto_collect' ?_))
  rw [Around.under_plainId PySem.F.plain_proto_collect _]
  show wpAny _ A.in1 (newList [] >>= fun l => again (.builtin "list.__iadd__" ⟨[l, .ref r], []⟩)) _ _ s
  refine wpAny_bind (wpAny_newObj_type ?_)
  refine wpAny_pure ⟨plainId_quiet PySem.F.plain_list_iadd _, codeAny_builtin entry_list_iadd' ?_⟩
  rw [Around.under_plainId PySem.F.plain_list_iadd _]
  have hS₁ : (s.heap.push { cls := .type "list", data := .seq ([] : List Value).toArray }).get? s.heap.objs.size = some { cls := .type "list", data := .seq #[] } := Heap.get?_push_size _ rfl
  show wpAny _ A.in1 (Builtin.List.listExtendWith (.ref s.heap.objs.size) (.ref r) (.ref s.heap.objs.size)) _ _ _
  have key := kdl_extend (A := A) (s := { s with heap := s.heap.push { cls := .type "list", data := .seq ([] : List Value).toArray } })
    (R := fun (q : Result) (s' : Shared) => ∃ (h' : Heap) (tk : Nat) (acc' : Array Value) (c' : Nat), q = .ok (.ret (.ref s.heap.objs.size)) ∧ s' = { s with heap := h', toks := tk } ∧
      (∀ b o, s.heap.get? b = some o → h'.get? b = some o) ∧ h'.get? s.heap.objs.size = some { cls := .type "list", dict := none, data := .seq acc' c', slots := #[] } ∧ ItemsOf P acc' n)
    K hh (K.keep _ _ hok fun b _ o e => Heap.get?_push_of_some _ e) s.heap.objs.size (Nat.ne_of_gt hlt.1) (Nat.ne_of_gt hlt.2) (.ref s.heap.objs.size) 0 hS₁
    (fun h' tk acc' c' hk hS' hacc => ⟨h', tk, acc', c', rfl, rfl, fun b o e => hk b o (Nat.ne_of_lt (Heap.lt_size e)) (Heap.get?_push_of_some _ e), hS', hacc⟩) hn
  refine wpAny_mono key (fun fin s' x => ?_) fun e s' x => ?_
  · cases fin with
    | done f =>
      obtain ⟨h', tk, acc', c', e, rfl, hk, hS', hacc⟩ := x
      cases e
      show wpAny _ A (load s.heap.objs.size >>= _) _ _ _
      refine wpAny_bind (wpAny_load hS' ?_)
      exact wpAny_pure (h h' tk acc' hk hacc)
    | again c₁ =>
      refine ⟨x.1, codeAny_mono x.2 fun q s₂ y => ?_⟩
      obtain ⟨h', tk, acc', c', e, rfl, hk, hS', hacc⟩ := y
      cases e
      show wpAny _ A (load s.heap.objs.size >>= _) _ _ _
      refine wpAny_bind (wpAny_load hS' ?_)
      exact wpAny_pure (h h' tk acc' hk hacc)
  · obtain ⟨h', tk, acc', c', e, _⟩ := x
    cases e

/-- texts in their order -/
def leL (a b : List Nat) : Bool := !decide (b < a)
def srt (l : List (List Nat)) : List (List Nat) := l.mergeSort leL
theorem leL_trans (a b c : List Nat) (h1 : leL a b = true) (h2 : leL b c = true) : leL a c = true := by
  simp only [leL, Bool.not_eq_true', decide_eq_false_iff_not, List.not_lt] at h1 h2 ⊢
  exact List.le_trans h1 h2
theorem leL_total (a b : List Nat) : (leL a b || leL b a) = true := by
  simp only [leL, Bool.or_eq_true, Bool.not_eq_true', decide_eq_false_iff_not, List.not_lt]
  exact List.le_total a b
theorem leL_anti {a b : List Nat} (h1 : leL a b = true) (h2 : leL b a = true) : a = b := by
  simp only [leL, Bool.not_eq_true', decide_eq_false_iff_not, List.not_lt] at h1 h2
  exact List.le_antisymm h1 h2
theorem srt_eq {l l' : List (List Nat)} (hp : l'.Perm l) (hs : l'.Pairwise fun a b => leL a b = true) : l' = srt l :=
  List.Perm.eq_of_pairwise (fun a b _ _ h1 h2 => leL_anti h1 h2) hs (List.pairwise_mergeSort leL_trans leL_total l) (hp.trans (List.mergeSort_perm l leL).symm)
theorem srt_perm {l l' : List (List Nat)} (hp : l'.Perm l) : srt l' = srt l := srt_eq ((List.mergeSort_perm _ _).trans hp) (List.pairwise_mergeSort leL_trans leL_total l')
theorem risingS_pairwise : ∀ (p : Str) (l : List Str), risingS p l = true → (p :: l).Pairwise fun a b => leL a.cps.toList b.cps.toList = true
  | p, [], _ => by simp
  | p, x :: r, h => by
    have h' : (!Spec.ltCps x.cps.toList p.cps.toList && risingS x r) = true := h
    rw [Bool.and_eq_true] at h'
    have ih := risingS_pairwise x r h'.2
    have hpx : leL p.cps.toList x.cps.toList = true := by unfold leL; rw [← ltCps_eq]; exact h'.1
    refine List.pairwise_cons.mpr ⟨fun b hb => ?_, ih⟩
    rcases List.mem_cons.mp hb with rfl | hb
    · exact hpx
    · exact leL_trans _ _ _ hpx (List.rel_of_pairwise_cons ih hb)
theorem sortedS_pairwise : ∀ l : List Str, sortedS l = true → l.Pairwise fun a b => leL a.cps.toList b.cps.toList = true
  | [], _ => .nil
  | x :: r, h => risingS_pairwise x r h
theorem strsAre_of {V : Addr → Prop} {s : Shared} : ∀ {ls : List (List Nat)} {vs : List Value}, RepL c V s (ls.map sd) vs → StrsAre vs (ls.map S)
  | [], _, .nil => .nil
  | l :: ls, _, .cons r rs => by
    cases r with
    | str _ t => exact .cons _ _ (strsAre_of rs)
theorem rep_of_strs {V : Addr → Prop} {s : Shared} : ∀ {ss : List Str} {vs : List Value}, StrsAre vs ss → RepL c V s (ss.map fun x => sd x.cps.toList) vs
  | _, _, .nil => .nil
  | _, _, .cons y t r => .cons (by show Rep c V s (.str (S y.cps.toList)) _; rw [← S_of]; exact .str _ _) (rep_of_strs r)

/-- list.sort of texts -/
theorem sort_wp {A : Around} {E : Value → Shared → Prop} {s : Shared} {x : Value} {vs : List Value} {ls : List (List Nat)} {Q : Value → Shared → Prop} (hS : StrsAre vs (ls.map S)) (h64 : vs.length < 64)
    (hcol : ∀ R : List Value → Shared → Prop, (∀ h' tk, Keeps s.heap h' → R vs { s with heap := h', toks := tk }) → wpAny c.M A.in1 (collect x) R E s)
    (hQ : ∀ h' tk a o us m, Keeps s.heap h' → s.heap.get? a = none → h'.get? a = some o → o.cls = .type "list" → (o.dict = none ∧ o.slots = #[]) → o.data = .seq us m → StrsAre us.toList ((srt ls).map S) → Q (.ref a) { s with heap := h', toks := tk }) :
    wpAny c.M A (call (.builtin "sorted") [x]) Q E s := by
  refine Calls.call_function_entry kind_sorted plain_sorted entry_sorted (args_sorted1 _) ?_
  unfold Builtin.«sorted»
  refine wpAny_bind (m := checkCount "sorted" 1 1 _) (wpAny_pure ?_)
  refine wpAny_bind (hcol _ fun h₁ tk hk₁ => ?_)
  refine wpAny_bind (wpAny_newList ?_)
  have hoL : (h₁.push (seqObj "list" vs.toArray 0)).get? h₁.objs.size = some (seqObj "list" vs.toArray 0) := Heap.get?_push_size _ rfl
  show wpAny _ _ _ _ _ { s with heap := h₁.push (seqObj "list" vs.toArray 0), toks := tk }
  refine wpAny_bind (wpAny_holding (wpAny_call_entry slot_list_sort ⟨_, hoL, rfl⟩ entry_list_sort (list_sort_treeK strKind_oneLt hoL hS.keysOf (fun v₁ v₂ rest e => keyKind_strs (by rw [← e]; exact hS)) h64 fun st' a1 a2 => ⟨_, rfl, ?_⟩) (args_list_sort _)))
  refine wpAny_pure ⟨_, rfl, ?_⟩
  obtain ⟨ss', h1, h2, h3⟩ := sorted_out_str hS a1 a2
  obtain ⟨e, he⟩ := sortedHeap_at (out := (arrOf st').map (·.2)) hoL
  have hnone : s.heap.get? h₁.objs.size = none := by
    cases q : s.heap.get? h₁.objs.size with
    | none => rfl
    | some o => exact absurd (Heap.lt_size (hk₁ _ _ q)) (Nat.lt_irrefl _)
  refine hQ _ _ _ _ _ _ (fun b o q => ?_) hnone he rfl ⟨rfl, rfl⟩ rfl ?_
  · have hb := hk₁ _ _ q
    have hlt := Heap.lt_size hb
    rw [sortedHeap_old (Nat.ne_of_lt hlt) (by rw [Heap.size_push]; exact Nat.lt_succ_of_lt hlt)]
    exact Heap.get?_push_of_some _ hb
  · have e2 : ss'.map (fun x => x.cps.toList) = srt ls := by
      refine srt_eq ?_ ?_
      · have := h2.map fun x : Str => x.cps.toList
        rw [List.map_map] at this
        have e3 : ls.map ((fun x : Str => x.cps.toList) ∘ S) = ls := by
          conv => rhs; rw [← List.map_id ls]
          exact List.map_congr_left fun l _ => by simp
        rw [e3] at this; exact this
      · exact List.pairwise_map.mpr (sortedS_pairwise ss' h3)
    rw [← e2, List.map_map]
    have e4 : ss'.map (S ∘ fun x : Str => x.cps.toList) = ss' := by
      conv => rhs; rw [← List.map_id ss']
      exact List.map_congr_left fun x _ => (S_of x).symm
    rw [e4]; exact h1

theorem FnR.sortedL {ls : List (List Nat)} (h64 : ls.length < 64) : FnR c n (.builtin "sorted") [.list (ls.map sd)] (.list ((srt ls).map sd)) := .mk fun A V s vs hA hS r => by
  cases r with
  | cons r rs => cases rs; cases r with
    | @list a o us m _ na ho hcl hd hdt r =>
      have hlen : us.toList.length = ls.length := by rw [← r.length]; simp
      have hl : s.heap.IsList a us.toList.toArray := ⟨o, ho, hcl, m, by simpa using hdt⟩
      refine wp_end (sort_wp (c := c) (strsAre_of r) (by omega) (fun R hR => collect_list hl (hR _ s.toks fun b o' e => ?_) (by rw [sizeLine_eq]; omega)) fun h' tk a' o' us' m' hk hn ho' hc' hd' hdt' hSt => ⟨hk, rfl, rfl, fun _ => .list (fun q => ?_) ho' hc' hd' hdt' ?_⟩)
      · exact (Heap.get?_update_other _ _ (fun q => absurd (Heap.lt_size e) (by rw [← q]; exact Nat.lt_irrefl _))).trans (Heap.get?_push_of_some _ e)
      · obtain ⟨o2, e2⟩ := hS.live _ q; rw [hn] at e2; cases e2
      · have := rep_of_strs (c := c) (V := V) (s := { s with heap := h', toks := tk }) hSt
        rw [List.map_map] at this
        have e4 : (srt ls).map ((fun x : Str => sd x.cps.toList) ∘ S) = (srt ls).map sd := List.map_congr_left fun x _ => by simp
        rw [e4] at this; exact this

theorem pairs_of {V : Addr → Prop} {s : Shared} : ∀ {kvs : List (List Nat × D)} {es : List DictEntry}, RepD c V s kvs es → ∃ kvv : List (Str × Value), Pairs (strKind c.prog c.w) es kvv ∧ kvv.map (·.1) = kvs.map (fun p => S p.1) ∧ RepL c V s (kvs.map (·.2)) (kvv.map (·.2))
  | _, _, .nil => ⟨[], .nil, rfl, .nil⟩
  | _, _, .cons (k := x) (t := t) (e := e) hk hh r rs => by
    obtain ⟨kvv, h1, h2, h3⟩ := pairs_of rs
    exact ⟨(S x, e.val) :: kvv, .cons (by rw [hk]; exact strKind_is c.prog c.w _ t) rfl h1, by simp [h2], .cons r h3⟩
theorem nodup_S {kvs : List (List Nat × D)} (h : (kvs.map (·.1)).Nodup) : (kvs.map fun p => S p.1).Nodup := by
  induction kvs with
  | nil => exact .nil
  | cons x l ih =>
    rw [List.map_cons, List.nodup_cons] at h ⊢
    refine ⟨fun q => ?_, ih h.2⟩
    obtain ⟨y, hy, e⟩ := List.mem_map.mp q
    exact h.1 (List.mem_map.mpr ⟨y, hy, S_inj e⟩)
theorem Rep.dictOf {V : Addr → Prop} {s : Shared} {kvs : List (List Nat × D)} {a : Addr} (hnd : (kvs.map (·.1)).Nodup) (r : Rep c V s (.dict kvs) (.ref a)) :
    (a == sysModules) = false ∧ ∃ kvv : List (Str × Value), s.heap.DictOf (strKind c.prog c.w) a kvv ∧ kvv.map (·.1) = kvs.map (fun p => S p.1) ∧ RepL c V s (kvs.map (·.2)) (kvv.map (·.2)) := by
  cases r with
  | dict na hsm ho hx hdt r =>
    obtain ⟨kvv, h1, h2, h3⟩ := pairs_of r
    exact ⟨hsm, kvv, ⟨_, _, _, ho, hx, hdt, fun e he => r.keys e (Array.mem_toList_iff.mpr he), h1, h2 ▸ nodup_S hnd⟩, h2, h3⟩

/-- sorted(table.values()) of texts -/
theorem Ev.sortedVals {o : Expr} {p1 apos ip pos : Pos} {kvs : List (List Nat × D)} {ls : List (List Nat)} (hb : c.mg (Str.ofString "sorted") = Option.none ∧ c.mb (Str.ofString "sorted") = some (.builtin "sorted")) (ho : Ev c n sc true ρ o (.dict kvs)) (hnd : (kvs.map (·.1)).Nodup) (hls : kvs.map (·.2) = ls.map sd) (h64 : ls.length < 64)
    (hg : sc.names.lookup (Str.ofString "sorted") = some .globalImplicit := by rfl) (hline : (apos.endLine == ip.line) = true := by rfl) (hbase : ∀ env : Env, attributeBase o (Str.ofString "values") env (PySem.eval o env) = PySem.eval o env := by intro _; rfl)
    (he : ∀ env : Env, PySem.eval (.Call (.Name (Str.ofString "sorted") p1) [.Call (.Attribute o (Str.ofString "values") apos) [] [] ip] [] pos) env = (do callWith pos (← PySem.eval (.Name (Str.ofString "sorted") p1) env) [] (backTo pos (starEach [.Call (.Attribute o (Str.ofString "values") apos) [] [] ip] env)) (backToKw pos (keywordEach [] env))) := by intro _; rfl) :
    Ev c n sc k ρ (.Call (.Name (Str.ofString "sorted") p1) [.Call (.Attribute o (Str.ofString "values") apos) [] [] ip] [] pos) (.list ((srt ls).map sd)) :=
  Ev.weak <| .mk fun A env V0 h0 Cs X s hA F => by
    rw [he]
    refine wpAny_bind (wpAny_mono ((Ev.blt (c := c) (n := n) (sc := sc) (k := true) (ρ := ρ) (pos := p1) hb.1 hb.2 hg).run A env V0 h0 Cs X s hA F) (fun v s₁ q₁ => ?_) fun _ _ q => q)
    obtain ⟨g₁, r₁⟩ := q₁
    cases r₁
    refine (Callee.builtin (c := c) "sorted").wp rfl (wpAny_items_cons ?_ (starEach_cons rfl))
    refine wpAny_Call_method (hbase env) rfl hline PySem.F.plainAttrs_dict PySem.F.slot_dict_values PySem.F.type_dict_values (wpAny_mono (ho.run A env V0 h0 Cs X s₁ hA (F.gr g₁)) (fun v s₂ q₂ => ?_) fun _ _ q => q)
    obtain ⟨g₂, r₂⟩ := q₂
    have ht := r₂.typeIs (T := "dict") rfl
    refine ⟨ht.1, ht.2, (Callee.builtin (c := c) "dict.values").wp rfl (wpAny_items_nil ⟨((F.gr g₁).gr g₂).base.trans ((F.gr g₁).gr g₂).keep, ?_⟩)⟩
    obtain ⟨a, rfl⟩ := r₂.dictRef
    obtain ⟨hsys, kvv, hD, hk, hr⟩ := r₂.dictOf hnd
    refine call_meetsIn PySem.F.slot_dict_values hD.typeIs PySem.F.entry_dict_values (PySem.F.args_dict_values_1 _) (meets_dict_values (strKind c.prog c.w) a hsys) ⟨⟨kvv, hD⟩, ?_⟩
    show wpAny _ _ _ _ _ _
    have g₃ := Gr.push (s := s₂) { cls := .type "dict_values", data := .fields #[.ref a] }
    have F₃ := ((F.gr g₁).gr g₂).gr g₃
    refine wpAny_items_nil ⟨F₃.base.trans F₃.keep, ?_⟩
    refine wp_gr ((g₁.trans g₂).trans g₃) (wp_end ?_)
    obtain ⟨ep, hat⟩ := (hD.push { cls := .type "dict_values", data := .fields #[.ref a] }).dictAt
    rw [hls] at hr
    have hlen : (kvv.map (·.2)).length = ls.length := by rw [← hr.length]; simp
    have hS3 := (F.st true).gr ((g₁.trans g₂).trans g₃)
    refine sort_wp (c := c) (strsAre_of hr) (by omega) (fun R hR => ?_) fun h' tk a' o' us' m' hk hn ho' hc' hd' hdt' hSt => ⟨hk, rfl, rfl, fun _ => .list (fun q => ?_) ho' hc' hd' hdt' ?_⟩
    · refine kdlCollect (kdl_values (knd := strKind c.prog c.w) (kvs := kvv) (ep := ep) (d := a) (r := s₂.heap.objs.size)) hA.handled ⟨⟨_, Heap.get?_push_size _ rfl, rfl, rfl⟩, hat⟩ (by rw [sizeLine_eq]; simp at hlen; omega) fun h' tk acc hk hI => ?_
      have := kdl_vals_eq (kvs := kvv) acc.toList (by rw [Array.length_toList]; exact hI.1) fun j v e => hI.2 j v (by rw [← Array.getElem?_toList]; exact e)
      rw [this]
      exact hR h' tk hk
    · obtain ⟨o2, e2⟩ := hS3.live _ q; rw [hn] at e2; cases e2
    · have := rep_of_strs (c := c) (V := VK true V0 X) (s := { s₂ with heap := h', toks := tk }) hSt
      rw [List.map_map] at this
      have e4 : (srt ls).map ((fun x : Str => sd x.cps.toList) ∘ S) = (srt ls).map sd := List.map_congr_left fun x _ => by simp
      rw [e4] at this; exact this
end
end Mine
namespace Mine
section
variable {c : Cx} {n : Nat} {sc : Scope} {k : Bool} {ρ : Sto}

def setAll (ρ : Sto) : List (String × D) → Sto
  | [] => ρ
  | (x, d) :: r => setAll (setS ρ x (.val d)) r

theorem storeAll : ∀ {ps : List (String × D)} {ρ : Sto}, (∀ p ∈ ps, sc.names.lookup (Str.ofString p.1) = some .local) → ∀ {A env V0 h0 Cs X s vs}, Fm c sc env V0 h0 Cs X ρ s → RepL c (Vol V0 X) s (ps.map (·.2)) vs →
    wpAny c.M A (assignInOrder ((ps.map fun p => Str.ofString p.1).map fun n => bindName env n) vs) (fun _ s' => ∃ X', Stp X s X' s' ∧ Fm c sc env V0 h0 Cs X' (setAll ρ ps) s') (fun _ _ => False) s
  | [], ρ, _, A, env, V0, h0, Cs, X, s, vs, F, r => wpAny_pure ⟨X, .refl X s, F⟩
  | (x, d) :: ps, ρ, hk, A, env, V0, h0, Cs, X, s, vs, F, r => by
    cases r with
    | cons r rs =>
      have hx := hk _ (.head _)
      refine wpAny_bind (wpAny_holding (wpAny_bindName (wpAny_mono (F.store (.refl s) (fun q => by rw [hx] at q; cases q) (.inl hx) (RepS.ofRep (r.weak fun _ q => q.2)) .nil fun _ ha => nomatch ha) (fun _ s' q => ?_) fun _ _ q => q)))
      obtain ⟨X', g, F'⟩ := q
      exact wpAny_mono (storeAll (fun p hp => hk p (.tail _ hp)) F' (rs.stp g)) (fun _ s'' q => let ⟨X'', g', F''⟩ := q; ⟨X'', g.trans g', F''⟩) fun _ _ q => q

/-- a, b = (.., ..): the stores from the last to the first -/
theorem Sx.assignW {ts : List Expr} {kk : Nat} {tp pos : Pos} {e : Expr} {ps : List (String × D)} (h : Ev c n sc true ρ e (.tuple (ps.map (·.2)))) (hk : (ps.all fun p => sc.names.lookup (Str.ofString p.1) == some .local) = true)
    (hw : ∀ env : Env, env.scope = sc → swappedStores [.Tuple ts kk tp] e env = pure (some (ps.map fun p => Str.ofString p.1)))
    (hs : ∀ env : Env, swapsWithSole [.Tuple ts kk tp] e pos.line env = pure false := by intro _; rfl) : Sn c n sc ρ (.Assign [.Tuple ts kk tp] e pos) (setAll ρ ps.reverse) := .mk fun A env V0 h0 Cs X s hA hO F => by
  refine Assign_Tuple_swapped (wpAny_mono (h.run A env V0 h0 Cs X s hA F) (fun v s₁ q => ?_) fun _ _ q => q) (hs env) (hw env F.scope)
  obtain ⟨g, r⟩ := q
  have r' : Rep c (Vol V0 X) s₁ (.tuple (ps.map (·.2))) v := r.weak fun _ q => ⟨rfl, q⟩
  cases r' with
  | @tuple a o vs nn _ na ho hcl hd hdt rl =>
    have hl : vs.size = ps.length := by have := rl.length; simpa using this.symm
    have : (ps.map fun p => Str.ofString p.1).length = vs.size := by simp [hl]
    rw [this]
    refine unpackItems_tuple hA.handled ⟨o, ho, hcl, _, hdt⟩ fun h' he => ?_
    have g' := Gr.ext he
    have F' := (F.gr g).gr g'
    have hr : RepL c (Vol V0 X) { s₁ with heap := h' } (ps.reverse.map (·.2)) vs.toList.reverse := by
      have hrev : ∀ {ds : List D} {us : List Value} {st : Shared}, RepL c (Vol V0 X) st ds us → RepL c (Vol V0 X) st ds.reverse us.reverse := by
        intro ds us st hh
        induction ds generalizing us with
        | nil => cases hh; exact .nil
        | cons d ds ih => cases hh with
          | cons a b => rw [List.reverse_cons, List.reverse_cons]; exact (ih b).append (.cons a .nil)
      have := hrev (rl.gr g')
      rw [← List.map_reverse] at this; exact this
    have hst := storeAll (c := c) (sc := sc) (A := A) (ps := ps.reverse) (ρ := ρ) (fun p hp => by simpa using List.all_eq_true.mp hk p (List.mem_reverse.mp hp)) F' hr
    rw [List.map_reverse] at hst
    refine wpAny_mono hst (fun _ s₂ q => ?_) fun _ _ q => q
    obtain ⟨X', g2, F2⟩ := q
    exact ⟨X', _, .next, (Stp.of_gr (g.trans g')).trans g2, F2, .next, rfl, rfl⟩
end
end Mine
namespace Mine

abbrev spc (a : Nat) : Bool := Unicode.isSpace a
abbrev lbk (a : Nat) : Bool := Unicode.isLineBreak a

/-- the words of a text -/
def wgo : Option (List Nat) → List Nat → List (List Nat)
  | none, [] => []
  | some w, [] => [w]
  | none, a :: l => if spc a = true then wgo none l else wgo (some [a]) l
  | some w, a :: l => if spc a = true then w :: wgo none l else wgo (some (w ++ [a])) l
def wordsL (l : List Nat) : List (List Nat) := wgo none l

/-- the lines of a text -/
def lgo (keep : Bool) : Bool → List Nat → List Nat → List (List Nat)
  | _, cur, [] => if cur = [] then [] else [cur]
  | true, cur, _ :: l => lgo keep false [] l
  | false, cur, a :: l => if lbk a = true then (cur ++ (if keep = true then (if a = 13 ∧ l.head? = some 10 then [13, 10] else [a]) else [])) :: lgo keep (decide (a = 13 ∧ l.head? = some 10)) [] l else lgo keep false (cur ++ [a]) l
def linesL (keep : Bool) (l : List Nat) : List (List Nat) := lgo keep false [] l

def stripL (l : List Nat) : List Nat := ((l.dropWhile spc).reverse.dropWhile spc).reverse

/-- a map that keeps the white signs and makes no new ones -/
structure Keeping (p : Nat → Bool) (f : Nat → List Nat) (b : Nat) : Prop where
  yes : p b = true → f b = [b]
  no : p b = false → f b ≠ [] ∧ ∀ x ∈ f b, p x = false

theorem wgo_run {u : List Nat} (hu : ∀ x ∈ u, spc x = false) : ∀ (w : List Nat) (l : List Nat), wgo (some w) (u ++ l) = wgo (some (w ++ u)) l := by
  induction u with
  | nil => intro w l; simp
  | cons a u ih =>
    intro w l
    have ha := hu a (.head _)
    rw [List.cons_append]
    show (if spc a = true then _ else _) = _
    rw [if_neg (by rw [ha]; decide), ih (fun x hx => hu x (.tail _ hx))]
    simp
theorem wgo_start {u : List Nat} (hne : u ≠ []) (hu : ∀ x ∈ u, spc x = false) (l : List Nat) : wgo none (u ++ l) = wgo (some u) l := by
  cases u with
  | nil => exact absurd rfl hne
  | cons a u =>
    have ha := hu a (.head _)
    rw [List.cons_append]
    show (if spc a = true then _ else _) = _
    rw [if_neg (by rw [ha]; decide), wgo_run (fun x hx => hu x (.tail _ hx))]
    rfl
theorem wgo_map {f : Nat → List Nat} : ∀ (c : List Nat) (w : Option (List Nat)), (∀ b ∈ c, Keeping spc f b) → wgo (w.map (·.flatMap f)) (c.flatMap f) = (wgo w c).map (·.flatMap f)
  | [], none, _ => rfl
  | [], some w, _ => rfl
  | a :: c, w, h => by
    have ha := h a (.head _)
    have ih := fun w => wgo_map c w fun b hb => h b (.tail _ hb)
    rw [List.flatMap_cons]
    cases hs : spc a with
    | true =>
      rw [ha.yes hs]
      cases w with
      | none =>
        show (if spc a = true then wgo none (c.flatMap f) else _) = (if spc a = true then wgo none c else _).map _
        rw [if_pos hs, if_pos hs]; exact ih none
      | some w =>
        show (if spc a = true then _ :: wgo none (c.flatMap f) else _) = (if spc a = true then w :: wgo none c else _).map _
        rw [if_pos hs, if_pos hs, List.map_cons]
        congr 1
        exact ih none
    | false =>
      obtain ⟨h1, h2⟩ := ha.no hs
      cases w with
      | none =>
        show wgo none (f a ++ c.flatMap f) = (if spc a = true then _ else wgo (some [a]) c).map _
        rw [if_neg (by rw [hs]; decide), wgo_start h1 h2, ← ih (some [a])]
        simp
      | some w =>
        show wgo (some (w.flatMap f)) (f a ++ c.flatMap f) = (if spc a = true then _ else wgo (some (w ++ [a])) c).map _
        rw [if_neg (by rw [hs]; decide), wgo_run h2, ← ih (some (w ++ [a]))]
        simp
theorem words_map {f : Nat → List Nat} {c : List Nat} (h : ∀ b ∈ c, Keeping spc f b) : wordsL (c.flatMap f) = (wordsL c).map (·.flatMap f) := wgo_map c none h

theorem lgo_run {keep : Bool} {u : List Nat} (hu : ∀ x ∈ u, lbk x = false) : ∀ (w : List Nat) (l : List Nat), lgo keep false w (u ++ l) = lgo keep false (w ++ u) l := by
  induction u with
  | nil => intro w l; simp
  | cons a u ih =>
    intro w l
    have ha := hu a (.head _)
    rw [List.cons_append]
    show (if lbk a = true then _ else _) = _
    rw [if_neg (by rw [ha]; decide), ih (fun x hx => hu x (.tail _ hx))]
    simp
theorem lgo_map {keep : Bool} {f : Nat → List Nat} : ∀ (c : List Nat) (sk : Bool) (cur : List Nat), (∀ b ∈ c, Keeping lbk f b) → (∀ b ∈ cur, f b ≠ []) → (sk = true → c.head? = some 10 ∧ cur = []) →
    lgo keep sk (cur.flatMap f) (c.flatMap f) = (lgo keep sk cur c).map (·.flatMap f)
  | [], sk, cur, _, hcur, hsk => by
    have hsf : sk = false := by
      cases sk with
      | false => rfl
      | true => exact absurd (hsk rfl).1 (by simp)
    subst hsf
    show (if cur.flatMap f = [] then [] else [cur.flatMap f]) = (if cur = [] then [] else [cur]).map _
    cases cur with
    | nil => rfl
    | cons a r =>
      have := hcur a (.head _)
      rw [if_neg (by rw [List.flatMap_cons]; intro e; exact this (List.append_eq_nil_iff.mp e).1), if_neg (by simp)]
      rfl
  | a :: c, true, cur, h, hcur, hsk => by
    obtain ⟨h1, rfl⟩ := hsk rfl
    have ha10 : a = 10 := by simpa using h1
    subst ha10
    have hf : f 10 = [10] := (h 10 (.head _)).yes (by decide)
    rw [List.flatMap_cons, hf]
    show lgo keep false [] (c.flatMap f) = (lgo keep false [] c).map _
    exact lgo_map c false [] (fun b hb => h b (.tail _ hb)) (fun b hb => nomatch hb) (fun q => nomatch q)
  | a :: c, false, cur, h, hcur, _ => by
    have ha := h a (.head _)
    rw [List.flatMap_cons]
    cases hs : lbk a with
    | true =>
      rw [ha.yes hs]
      have hhd : (c.flatMap f).head? = some 10 ↔ c.head? = some 10 := by
        cases c with
        | nil => simp
        | cons b c =>
          have hb := h b (.tail _ (.head _))
          rw [List.flatMap_cons]
          cases hl : lbk b with
          | true => rw [hb.yes hl]; simp
          | false =>
            obtain ⟨q1, q2⟩ := hb.no hl
            constructor
            · intro e
              cases hfb : f b with
              | nil => exact absurd hfb q1
              | cons x y =>
                rw [hfb] at e
                have hx : x = 10 := by simpa using e
                have := q2 x (by rw [hfb]; exact .head _)
                rw [hx] at this; exact absurd this (by decide)
            · intro e
              have hb10 : b = 10 := by simpa using e
              rw [hb10] at hl; exact absurd hl (by decide)
      show (if lbk a = true then (cur.flatMap f ++ (if keep = true then (if a = 13 ∧ (c.flatMap f).head? = some 10 then [13, 10] else [a]) else [])) :: lgo keep (decide (a = 13 ∧ (c.flatMap f).head? = some 10)) [] (c.flatMap f) else _) = (if lbk a = true then (cur ++ (if keep = true then (if a = 13 ∧ c.head? = some 10 then [13, 10] else [a]) else [])) :: lgo keep (decide (a = 13 ∧ c.head? = some 10)) [] c else _).map _
      rw [if_pos hs, if_pos hs, List.map_cons]
      have e1 : (a = 13 ∧ (c.flatMap f).head? = some 10) ↔ (a = 13 ∧ c.head? = some 10) := by rw [hhd]
      rw [List.flatMap_append]
      congr 1
      · congr 1
        cases keep with
        | false => rfl
        | true =>
          by_cases q : a = 13 ∧ c.head? = some 10
          · rw [if_pos rfl, if_pos rfl, if_pos q, if_pos (e1.mpr q)]
            have f13 : f 13 = [13] := by have := ha.yes hs; rw [q.1] at this; exact this
            have f10 : f 10 = [10] := by
              cases c with
              | nil => exact absurd q.2 (by simp)
              | cons b c =>
                have hb10 : b = 10 := by simpa using q.2
                exact hb10 ▸ (h b (.tail _ (.head _))).yes (by rw [hb10]; decide)
            simp [f13, f10]
          · rw [if_pos rfl, if_pos rfl, if_neg q, if_neg (fun z => q (e1.mp z))]
            simp [ha.yes hs]
      · have e2 : decide (a = 13 ∧ (c.flatMap f).head? = some 10) = decide (a = 13 ∧ c.head? = some 10) := decide_eq_decide.mpr e1
        rw [e2]
        exact lgo_map c (decide (a = 13 ∧ c.head? = some 10)) [] (fun b hb => h b (.tail _ hb)) (fun b hb => nomatch hb) (fun q => ⟨(of_decide_eq_true q).2, rfl⟩)
    | false =>
      obtain ⟨h1, h2⟩ := ha.no hs
      show lgo keep false (cur.flatMap f) (f a ++ c.flatMap f) = (if lbk a = true then _ else lgo keep false (cur ++ [a]) c).map _
      rw [if_neg (by rw [hs]; decide), lgo_run h2, ← lgo_map c false (cur ++ [a]) (fun b hb => h b (.tail _ hb)) (fun b hb => (List.mem_append.mp hb).elim (hcur b) fun q => by rw [List.mem_singleton.mp q]; exact h1) (fun q => nomatch q)]
      simp
theorem lines_map {keep : Bool} {f : Nat → List Nat} {c : List Nat} (h : ∀ b ∈ c, Keeping lbk f b) : linesL keep (c.flatMap f) = (linesL keep c).map (·.flatMap f) := lgo_map c false [] h (fun b hb => nomatch hb) (fun q => nomatch q)

theorem dropW_map {p : Nat → Bool} {f : Nat → List Nat} : ∀ c : List Nat, (∀ b ∈ c, Keeping p f b) → (c.flatMap f).dropWhile p = (c.dropWhile p).flatMap f
  | [], _ => rfl
  | a :: c, h => by
    have ha := h a (.head _)
    rw [List.flatMap_cons]
    cases hs : p a with
    | true =>
      rw [ha.yes hs, List.dropWhile_cons, if_pos hs, List.singleton_append, List.dropWhile_cons, if_pos hs]
      exact dropW_map c fun b hb => h b (.tail _ hb)
    | false =>
      obtain ⟨h1, h2⟩ := ha.no hs
      rw [List.dropWhile_cons, if_neg (by rw [hs]; decide), List.flatMap_cons]
      cases hfa : f a with
      | nil => exact absurd hfa h1
      | cons x y =>
        have := h2 x (by rw [hfa]; exact .head _)
        rw [List.cons_append, List.dropWhile_cons, if_neg (by rw [this]; decide)]
theorem flatMap_rev (f : Nat → List Nat) : ∀ c : List Nat, (c.flatMap f).reverse = c.reverse.flatMap fun b => (f b).reverse
  | [] => rfl
  | a :: c => by rw [List.flatMap_cons, List.reverse_append, flatMap_rev f c, List.reverse_cons, List.flatMap_append]; simp
theorem Keeping.rev {p : Nat → Bool} {f : Nat → List Nat} {b : Nat} (h : Keeping p f b) : Keeping p (fun b => (f b).reverse) b :=
  ⟨fun q => by rw [h.yes q]; rfl, fun q => ⟨fun e => (h.no q).1 (by simpa using e), fun x hx => (h.no q).2 x (List.mem_reverse.mp hx)⟩⟩
theorem mem_dropWhile {p : Nat → Bool} {x : Nat} : ∀ {l : List Nat}, x ∈ l.dropWhile p → x ∈ l
  | a :: l, h => by
    rw [List.dropWhile_cons] at h
    split at h
    · exact .tail _ (mem_dropWhile h)
    · exact h
theorem strip_map {f : Nat → List Nat} {c : List Nat} (h : ∀ b ∈ c, Keeping spc f b) : stripL (c.flatMap f) = (stripL c).flatMap f := by
  unfold stripL
  rw [dropW_map c h, flatMap_rev, dropW_map _ fun b hb => (h b (mem_dropWhile (List.mem_reverse.mp hb))).rev, flatMap_rev]
  congr 1
  funext b
  simp
end Mine
namespace Mine

abbrev subL (l : List Nat) (i j : Nat) : List Nat := (l.drop i).take (j - i)
theorem strSub_S (l : List Nat) (i j : Nat) : Builtin.Str.strSub (S l) i j = S (subL l i j) := by
  apply StrLaws.mk_of_toList
  rw [StrLaws.strSub_toList]
theorem getD_S (l : List Nat) (i : Nat) : (S l).cps.getD i 0 = l.getD i 0 := by
  simp [Array.getD_eq_getD_getElem?, List.getD_eq_getElem?_getD]
theorem drop_at {l : List Nat} {i : Nat} (h : i < l.length) : l.drop i = l.getD i 0 :: l.drop (i + 1) := by
  rw [List.drop_eq_getElem_cons h]
  congr 1
  rw [List.getD_eq_getElem?_getD, List.getElem?_eq_getElem h]; rfl
theorem subL_snoc {l : List Nat} {b i : Nat} (hb : b ≤ i) (h : i < l.length) : subL l b (i + 1) = subL l b i ++ [l.getD i 0] := by
  unfold subL
  rw [show i + 1 - b = (i - b) + 1 by omega, List.take_add_one]
  congr 1
  rw [List.getElem?_drop, show b + (i - b) = i by omega, List.getD_eq_getElem?_getD, List.getElem?_eq_getElem h]; rfl
theorem subL_self (l : List Nat) (i : Nat) : subL l i i = [] := by unfold subL; simp

theorem sw_words (l : List Nat) (limit : Nat) (hl : l.length < limit) : ∀ (m cur : Nat) (words : Array (Nat × Nat)) (start : Option Nat), cur + m = l.length → (∀ b, start = some b → b ≤ cur) → words.size ≤ cur →
    (StrLaws.swEnd (S l) (forIn (m := Id) (List.range' cur m) ((none, words, start) : StrLaws.SwSt) (StrLaws.swBody (S l) limit)).run).map (fun p => subL l p.1 p.2) = words.toList.map (fun p => subL l p.1 p.2) ++ wgo (start.map fun b => subL l b cur) (l.drop cur)
  | 0, cur, words, start, hm, hs, hw => by
    rw [show l.drop cur = [] from List.drop_eq_nil_of_le (by omega)]
    cases start with
    | none =>
      show words.toList.map _ = words.toList.map _ ++ []
      simp
    | some b =>
      show (words.push (b, (S l).length)).toList.map _ = words.toList.map _ ++ [subL l b cur]
      rw [S_length, show l.length = cur by omega]; simp
  | m + 1, cur, words, start, hm, hs, hw => by
    have hcl : cur < l.length := by omega
    rw [List.range'_succ, List.forIn_cons, drop_at hcl]
    have hsz : ¬ ((words.size == limit) = true) := by
      have : words.size ≠ limit := by omega
      simpa using this
    have hg := getD_S l cur
    cases hsp : spc (l.getD cur 0) with
    | true =>
      have hsp' : Unicode.isSpace ((S l).cps.getD cur 0) = true := by rw [hg]; exact hsp
      cases start with
      | none =>
        have e : StrLaws.swBody (S l) limit cur (none, words, none) = pure (ForInStep.yield (none, words, none)) := by
          unfold StrLaws.swBody
          rw [if_neg hsz, hsp']
        rw [e]
        refine (sw_words l limit hl m (cur + 1) words none (by omega) (fun b q => nomatch q) (by omega)).trans ?_
        congr 1
        show wgo none _ = if spc (l.getD cur 0) = true then _ else _
        rw [if_pos hsp]
      | some b =>
        have e : StrLaws.swBody (S l) limit cur (none, words, some b) = pure (ForInStep.yield (none, words.push (b, cur), none)) := by
          unfold StrLaws.swBody
          rw [if_neg hsz, hsp']
        rw [e]
        refine (sw_words l limit hl m (cur + 1) (words.push (b, cur)) none (by omega) (fun b q => nomatch q) (by rw [Array.size_push]; omega)).trans ?_
        show _ = _ ++ (if spc (l.getD cur 0) = true then subL l b cur :: wgo none (l.drop (cur + 1)) else _)
        rw [if_pos hsp]
        simp
    | false =>
      have hsp' : Unicode.isSpace ((S l).cps.getD cur 0) = false := by rw [hg]; exact hsp
      cases start with
      | none =>
        have e : StrLaws.swBody (S l) limit cur (none, words, none) = pure (ForInStep.yield (none, words, some cur)) := by
          unfold StrLaws.swBody
          rw [if_neg hsz, hsp']
        rw [e]
        refine (sw_words l limit hl m (cur + 1) words (some cur) (by omega) (fun b q => by cases q; omega) (by omega)).trans ?_
        congr 1
        show wgo (some (subL l cur (cur + 1))) _ = if spc (l.getD cur 0) = true then _ else wgo (some [l.getD cur 0]) _
        rw [if_neg (by rw [hsp]; decide), subL_snoc (Nat.le_refl _) hcl, subL_self]; rfl
      | some b =>
        have hb := hs b rfl
        have e : StrLaws.swBody (S l) limit cur (none, words, some b) = pure (ForInStep.yield (none, words, some b)) := by
          unfold StrLaws.swBody
          rw [if_neg hsz, hsp']
        rw [e]
        refine (sw_words l limit hl m (cur + 1) words (some b) (by omega) (fun b' q => by cases q; omega) (by omega)).trans ?_
        congr 1
        show wgo (some (subL l b (cur + 1))) _ = if spc (l.getD cur 0) = true then _ else wgo (some (subL l b cur ++ [l.getD cur 0])) _
        rw [if_neg (by rw [hsp]; decide), subL_snoc hb hcl]
theorem words_S (l : List Nat) : (Builtin.Str.spaceWords (S l) ((S l).length + 1)).map (fun p => subL l p.1 p.2) = wordsL l := by
  rw [StrLaws.sw_eq, S_length]
  exact sw_words l (l.length + 1) (Nat.lt_succ_self _) l.length 0 #[] none (by omega) (fun b q => nomatch q) (Nat.zero_le _)

theorem ls_lines (l : List Nat) (keep : Bool) : ∀ (m cur : Nat) (lines : Array (Nat × Nat × Nat)) (start : Nat), cur + m = l.length → start ≤ cur + 1 →
    (StrLaws.lsEnd (S l) (Id.run (forIn (m := Id) (List.range' cur m) ((lines, start) : StrLaws.LsSt) (StrLaws.lsBody (S l))))).map (fun p => subL l p.1 (if keep = true then p.2.2 else p.2.1)) =
      lines.toList.map (fun p => subL l p.1 (if keep = true then p.2.2 else p.2.1)) ++ lgo keep (decide (cur < start)) (subL l start cur) (l.drop cur)
  | 0, cur, lines, start, hm, hs => by
    rw [show l.drop cur = [] from List.drop_eq_nil_of_le (by omega)]
    show (StrLaws.lsEnd (S l) (lines, start)).map _ = _ ++ (if subL l start cur = [] then [] else [subL l start cur])
    unfold StrLaws.lsEnd
    rw [S_length]
    simp only
    by_cases h : start < l.length
    · rw [if_pos h, if_neg]
      · rw [Array.toList_push, List.map_append]
        congr 1
        show [subL l start (if keep = true then l.length else l.length)] = _
        rw [show (if keep = true then l.length else l.length) = cur by split <;> omega]
      · unfold subL
        intro e
        have := congrArg List.length e
        simp at this; omega
    · rw [if_neg h, if_pos (by unfold subL; rw [List.drop_eq_nil_of_le (by omega)]; simp)]
      simp
  | m + 1, cur, lines, start, hm, hs => by
    have hcl : cur < l.length := by omega
    rw [List.range'_succ, List.forIn_cons, drop_at hcl]
    have hg := getD_S l cur
    by_cases hst : start ≤ cur
    · have hd : decide (cur < start) = false := decide_eq_false (by omega)
      rw [hd]
      cases hlb : lbk (l.getD cur 0) with
      | true =>
        have hlb' : Unicode.isLineBreak ((S l).cps.getD cur 0) = true := by rw [hg]; exact hlb
        have hnx : StrLaws.lsNext (S l) cur = if l.getD cur 0 = 13 ∧ (l.drop (cur + 1)).head? = some 10 then cur + 2 else cur + 1 := by
          unfold StrLaws.lsNext
          rw [hg]
          have e1 : ((S l).cps)[cur + 1]? = (l.drop (cur + 1)).head? := by
            rw [List.head?_drop]; simp
          rw [e1]
          by_cases q : l.getD cur 0 = 13 ∧ (l.drop (cur + 1)).head? = some 10
          · rw [if_pos q, if_pos (by rw [q.1, q.2]; decide)]
          · rw [if_neg q, if_neg]
            intro z
            rw [Bool.and_eq_true, beq_iff_eq, beq_iff_eq] at z
            exact q z
        have e : StrLaws.lsBody (S l) cur (lines, start) = pure (ForInStep.yield (lines.push (start, cur, StrLaws.lsNext (S l) cur), StrLaws.lsNext (S l) cur)) := by
          unfold StrLaws.lsBody
          rw [if_pos (by rw [hlb', decide_eq_true hst]; rfl)]
        rw [e]
        have hb := StrLaws.lsNext_bounds (S l) cur
        refine (ls_lines l keep m (cur + 1) (lines.push (start, cur, StrLaws.lsNext (S l) cur)) (StrLaws.lsNext (S l) cur) (by omega) (by omega)).trans ?_
        show _ = _ ++ (if lbk (l.getD cur 0) = true then (subL l start cur ++ (if keep = true then (if l.getD cur 0 = 13 ∧ (l.drop (cur + 1)).head? = some 10 then [13, 10] else [l.getD cur 0]) else [])) :: lgo keep (decide (l.getD cur 0 = 13 ∧ (l.drop (cur + 1)).head? = some 10)) [] (l.drop (cur + 1)) else _)
        rw [if_pos hlb, Array.toList_push, List.map_append, List.append_assoc, hnx]
        congr 1
        show [_] ++ _ = _
        rw [List.singleton_append]
        by_cases q : l.getD cur 0 = 13 ∧ (l.drop (cur + 1)).head? = some 10
        · have hc1 : cur + 1 < l.length := by
            rcases Nat.lt_or_ge (cur + 1) l.length with z | z
            · exact z
            · have := q.2; rw [List.drop_eq_nil_of_le z] at this; cases this
          have hd10 : l.getD (cur + 1) 0 = 10 := by
            have := q.2; rw [drop_at hc1] at this; simpa using this
          simp only [if_pos q, decide_eq_true q]
          congr 1
          · cases keep with
            | false => simp
            | true =>
              show subL l start (cur + 2) = subL l start cur ++ [13, 10]
              rw [subL_snoc (by omega) hc1, subL_snoc hst hcl, hd10, q.1]; simp
          · rw [decide_eq_true (by omega : cur + 1 < cur + 2)]
            congr 1
            unfold subL
            rw [show cur + 1 - (cur + 2) = 0 by omega]; rfl
        · simp only [if_neg q, decide_eq_false q]
          congr 1
          · cases keep with
            | false => simp
            | true =>
              show subL l start (cur + 1) = subL l start cur ++ [l.getD cur 0]
              exact subL_snoc hst hcl
          · rw [decide_eq_false (by omega : ¬ cur + 1 < cur + 1), subL_self]
      | false =>
        have hlb' : Unicode.isLineBreak ((S l).cps.getD cur 0) = false := by rw [hg]; exact hlb
        have e : StrLaws.lsBody (S l) cur (lines, start) = pure (ForInStep.yield (lines, start)) := by
          unfold StrLaws.lsBody
          rw [if_neg (by rw [hlb']; simp)]
        rw [e]
        refine (ls_lines l keep m (cur + 1) lines start (by omega) (by omega)).trans ?_
        congr 1
        rw [decide_eq_false (by omega : ¬ cur + 1 < start), subL_snoc hst hcl]
        show _ = if lbk (l.getD cur 0) = true then _ else lgo keep false (subL l start cur ++ [l.getD cur 0]) _
        rw [if_neg (by rw [hlb]; decide)]
    · have hse : start = cur + 1 := by omega
      subst hse
      have e : StrLaws.lsBody (S l) cur (lines, cur + 1) = pure (ForInStep.yield (lines, cur + 1)) := by
        unfold StrLaws.lsBody
        rw [if_neg (by rw [decide_eq_false hst]; simp)]
      rw [e]
      refine (ls_lines l keep m (cur + 1) lines (cur + 1) (by omega) (by omega)).trans ?_
      congr 1
      rw [decide_eq_false (by omega : ¬ cur + 1 < cur + 1), decide_eq_true (by omega : cur < cur + 1), subL_self]
      rfl
theorem lines_S (l : List Nat) (keep : Bool) : (Builtin.Str.lineSpans (S l)).map (fun p => subL l p.1 (if keep = true then p.2.2 else p.2.1)) = linesL keep l := by
  rw [StrLaws.ls_eq, S_length]
  exact ls_lines l keep l.length 0 #[] 0 (by omega) (Nat.zero_le _)

theorem takeW_drop (p : Nat → Bool) (l : List Nat) : l.drop (l.takeWhile p).length = l.dropWhile p := by
  have h := List.takeWhile_append_dropWhile (p := p) (l := l)
  have h2 : (l.takeWhile p ++ l.dropWhile p).drop (l.takeWhile p).length = l.dropWhile p := List.drop_left
  rw [h] at h2; exact h2
theorem strip_S (l : List Nat) : Txt.strip (S l) = S (stripL l) := by
  have key : Builtin.Str.strSub (S l) (stripLo Unicode.isSpace true (S l)) (stripHi Unicode.isSpace true (S l) (stripLo Unicode.isSpace true (S l))) = S (stripL l) := by
    rw [strSub_S]
    congr 1
    unfold stripLo stripHi subL stripL
    rw [if_pos rfl, if_pos rfl, S_length]
    have e0 : (S l).cps.toList = l := by simp
    rw [e0, takeW_drop]
    have hlen : (l.dropWhile spc).length = l.length - (l.takeWhile spc).length := by rw [← takeW_drop, List.length_drop]
    generalize hd : l.dropWhile spc = d at hlen
    have e1 : l.length - (d.reverse.takeWhile spc).length - (l.takeWhile spc).length = d.length - (d.reverse.takeWhile spc).length := by omega
    rw [e1, ← takeW_drop, List.drop_reverse, List.reverse_reverse]
  unfold Txt.strip Txt.stripBy
  split
  · rename_i h
    rw [← key]
    unfold stripSame at h
    rw [Bool.and_eq_true, beq_iff_eq, beq_iff_eq] at h
    obtain ⟨q1, q2⟩ := h
    rw [q2, q1, strSub_S, S_length]
    congr 1
    unfold subL; simp
  · exact key
end Mine
namespace Mine
section
variable {c : Cx} {n : Nat} {sc : Scope} {k : Bool} {ρ : Sto}

theorem words_count (l : List Nat) : (Builtin.Str.spaceWords (S l) ((S l).length + 1)).length ≤ l.length + 1 := by
  have h1 := StrLaws.len_le_wsum (Builtin.Str.spaceWords (S l) ((S l).length + 1))
  have h2 := (StrLaws.sw_weight (S l)).1
  rw [S_length] at h2 h1 ⊢
  omega

theorem FnR.split0 {l : List Nat} (hz : l.length < 16777216) : FnR c n (.builtin "str.split") [sd l] (.list ((wordsL l).map sd)) := .mk fun A V s vs hA hS r => by
  cases r with
  | cons r rs => cases rs; cases r with
    | str _ t =>
      have hw := words_S l
      have hlen := words_count l
      refine wp_end (call_meets PySem.F.slot_str_split (typeIs_str _ _ _) PySem.F.entry_str_split (PySem.F.args_str_split_1 _) (meets_str_split_space (S l) t (by rw [S_length, sizeLine_eq]; omega) (by rw [sizeLine_eq]; omega)) ?_)
      cases h1 : Builtin.Str.spaceWords (S l) ((S l).length + 1) == [(0, (S l).length)]
      · rw [if_neg Bool.false_ne_true]
        refine ⟨fun _ _ e => Heap.get?_push_of_some _ e, rfl, rfl, fun _ => .list hS.new (Heap.get?_push_size _ rfl) rfl ⟨rfl, rfl⟩ rfl (numbered_rep ?_)⟩
        rw [← hw, List.map_map]
        exact List.map_congr_left fun p _ => strSub_S l p.1 p.2
      · rw [if_pos rfl]
        rw [eq_of_beq h1] at hw
        refine ⟨fun _ _ e => Heap.get?_push_of_some _ e, rfl, rfl, fun _ => .list hS.new (Heap.get?_push_size _ rfl) rfl ⟨rfl, rfl⟩ rfl ?_⟩
        have e2 : wordsL l = [l] := by
          rw [← hw, S_length]
          show [subL l 0 l.length] = [l]
          simp [subL]
        rw [e2]; exact .cons (.str _ _) .nil

theorem lines_count (l : List Nat) : (Builtin.Str.lineSpans (S l)).length ≤ l.length + 1 := by
  have := lineCuts_le (S l)
  unfold lineCuts at this
  rw [List.length_map, S_length] at this; exact this

theorem lines_tree {x : Str} {t : Tok} (b : Bool) {args : List Value} (ha : (args = [.str x t] ∧ b = false) ∨ (args = [.str x t, .bool true] ∧ b = true)) : Builtin.«str.splitlines» ⟨args, []⟩ = (do
    if (true && (Builtin.Str.lineSpans x).map (fun (i, j, k) => (i, if b = true then k else j)) == [(0, x.length)]) = true then (do rule "str.splitlines.same-object"; ret (← newList [.str x t]))
    else ret (← newList (← ((Builtin.Str.lineSpans x).map fun (i, j, k) => (i, if b = true then k else j)).mapM fun (i, j) => mkStr (Builtin.Str.strSub x i j)))) := by
  rcases ha with ⟨rfl, rfl⟩ | ⟨rfl, rfl⟩ <;> rfl

theorem lines_aux {l : List Nat} {b : Bool} {A : Around} {V : Addr → Prop} {s : Shared} {t : Tok} {args : List Value} (hz : l.length < 16777216) (hS : St c V s) (hargs : argsOk "str.splitlines" ⟨args, []⟩) (ha : (args = [.str (S l) t] ∧ b = false) ∨ (args = [.str (S l) t, .bool true] ∧ b = true)) :
    wpAny c.M A (call (.builtin "str.splitlines") args) (fun v s' => Gr s s' ∧ Rep c V s' (.list ((linesL b l).map sd)) v) (fun _ _ => False) s := by
  have hw := lines_S l b
  have hlen := lines_count l
  have hcall : ∀ Q : Value → Shared → Prop, wpAny c.M A.in1 (Builtin.«str.splitlines» ⟨args, []⟩) (fun fin s' => ∃ v, fin = .done (.ret v) ∧ Q v s') (fun _ _ => False) s → wpAny c.M A (call (.builtin "str.splitlines") args) Q (fun _ _ => False) s := fun Q h => by
    rcases ha with ⟨rfl, _⟩ | ⟨rfl, _⟩
    · exact wpAny_call_entry PySem.F.slot_str_splitlines (typeIs_str _ _ _) PySem.F.entry_str_splitlines h hargs
    · exact wpAny_call_entry PySem.F.slot_str_splitlines (typeIs_str _ _ _) PySem.F.entry_str_splitlines h hargs
  refine wp_end (hcall _ ?_)
  rw [lines_tree b ha]
  have hw' : ((Builtin.Str.lineSpans (S l)).map fun (i, j, k) => (i, if b = true then k else j)).map (fun p => subL l p.1 p.2) = linesL b l := by
    rw [← hw, List.map_map]; rfl
  generalize hcc : ((Builtin.Str.lineSpans (S l)).map fun (i, j, k) => (i, if b = true then k else j)) = cuts at hw' ⊢
  have hcl : cuts.length ≤ l.length + 1 := by rw [← hcc, List.length_map]; exact hlen
  cases h1 : cuts == [(0, (S l).length)]
  · rw [if_neg (by simp)]
    refine wpAny_bind (wpAny_mapM_mkStr_of (fun (p : Nat × Nat) => Builtin.Str.strSub (S l) p.1 p.2) (fun p => ?_) _ _ _ (wpAny_bind (wpAny_newList (wpAny_pure ⟨_, rfl, ?_⟩) (by rw [strsFrom_length, List.length_map, sizeLine_eq]; omega))))
    · rw [strSub_S, S_length, sizeLine_eq]; unfold subL; simp; omega
    · refine ⟨fun _ _ e => Heap.get?_push_of_some _ e, rfl, rfl, fun _ => .list hS.new (Heap.get?_push_size _ rfl) rfl ⟨rfl, rfl⟩ rfl (numbered_rep ?_)⟩
      rw [← hw', List.map_map]
      exact List.map_congr_left fun p _ => strSub_S l p.1 p.2
  · rw [if_pos (by simp)]
    rw [eq_of_beq h1] at hw'
    refine wpAny_bind (wpAny_rule (wpAny_bind (wpAny_newList (wpAny_pure ⟨_, rfl, ?_⟩) (by show 1 ≤ sizeLine; decide))))
    refine ⟨fun _ _ e => Heap.get?_push_of_some _ e, rfl, rfl, fun _ => .list hS.new (Heap.get?_push_size _ rfl) rfl ⟨rfl, rfl⟩ rfl ?_⟩
    have e2 : linesL b l = [l] := by
      rw [← hw', S_length]
      show [subL l 0 l.length] = [l]
      simp [subL]
    rw [e2]; exact .cons (.str _ _) .nil
theorem FnR.lines {l : List Nat} (hz : l.length < 16777216) : FnR c n (.builtin "str.splitlines") [sd l] (.list ((linesL false l).map sd)) := .mk fun A V s vs hA hS r => by
  cases r with
  | cons r rs => cases rs; cases r with
    | str _ t => exact lines_aux hz hS (PySem.F.args_str_splitlines_1 _) (.inl ⟨rfl, rfl⟩)
theorem FnR.linesK {l : List Nat} (hz : l.length < 16777216) : FnR c n (.builtin "str.splitlines") [sd l, .bool true] (.list ((linesL true l).map sd)) := .mk fun A V s vs hA hS r => by
  cases r with
  | cons r rs => cases rs with
    | cons r' rs => cases rs; cases r with
      | str _ t => cases r' with
        | bool _ => exact lines_aux hz hS (PySem.F.args_str_splitlines_2 _ _) (.inr ⟨rfl, rfl⟩)
theorem FnR.strip {l : List Nat} (hz : l.length < 16777216) : FnR c n (.builtin "str.strip") [sd l] (sd (stripL l)) := .mk fun A V s vs hA hS r => by
  cases r with
  | cons r rs => cases rs; cases r with
    | str _ t => exact wp_end (SC.strip (fun t' k => ⟨fun _ _ e => e, rfl, rfl, fun _ => by rw [strip_S]; exact .str _ _⟩) (by rw [S_length, sizeLine_eq]; omega))
theorem FnR.listRange {a b st : Int} {m : Nat} (hsm : Builtin.Range.small a b st = true) (hn : Builtin.Range.rangeSize a b st = (m : Int)) (hm : m ≤ 16777216) : FnR c n (.type "list") [.range a b st] (.list ((List.range m).map fun i : Nat => D.int (a + i * st))) := .mk fun A V s vs hA hS r => by
  cases r with
  | cons r rs => cases rs; cases r with
    | range na h =>
      refine wp_end (call_list_range hA.handled h hsm hn (by omega) fun h' tk acc c' hk hD hI => ⟨hk, rfl, rfl, fun _ => .list hS.new hD rfl ⟨rfl, rfl⟩ rfl ?_⟩)
      have key : ∀ (m : Nat) (us : List Value), us.length = m → (∀ (j : Nat) v, us[j]? = some v → ∃ t, v = Value.int (a + (j : Int) * st) t) → RepL c V { s with heap := h', toks := tk } ((List.range m).map fun i : Nat => D.int (a + i * st)) us := by
        intro m
        induction m with
        | zero => intro us hl _; rw [List.length_eq_zero_iff.mp hl]; exact .nil
        | succ m ih =>
          intro us hl hv
          obtain ⟨us', v, rfl⟩ : ∃ us' v, us = us' ++ [v] := by
            have hne : us ≠ [] := fun e => by rw [e] at hl; cases hl
            exact ⟨us.dropLast, us.getLast hne, (List.dropLast_concat_getLast hne).symm⟩
          have hl' : us'.length = m := by simpa using hl
          rw [List.range_succ, List.map_append]
          refine (ih us' hl' fun j v' e => hv j v' ?_).append (.cons ?_ .nil)
          · rw [List.getElem?_append_left (List.getElem?_eq_some_iff.mp e).1]; exact e
          · obtain ⟨t, e⟩ := hv m v (by rw [List.getElem?_append_right (by omega), hl', Nat.sub_self]; rfl)
            rw [e]; exact .int _ _
      exact key m acc.toList (by rw [Array.length_toList]; exact hI.1) fun j v e => hI.2 j v (by rw [← Array.getElem?_toList]; exact e)

/-- a text that is made anew -/
structure EvFr (c : Cx) (n : Nat) (sc : Scope) (ρ : Sto) (e : Expr) (l : List Nat) : Prop where
  run : ∀ A env V0 h0 Cs X s, Room n A → Fm c sc env V0 h0 Cs X ρ s →
    wpAny c.M A (PySem.eval e env) (fun v s' => Gr s s' ∧ ∃ t, v = .str (S l) t ∧ s.toks ≤ t ∧ t < s'.toks) (fun _ _ => False) s
theorem EvFr.sub {value slice : Expr} {pos : Pos} {a : List Nat} {i : Int} {q : Nat} (h1 : Ev c n sc true ρ value (sd a)) (h2 : Ev c n sc true ρ slice (.int i)) (h0 : 0 ≤ i) (hd : a[i.toNat]? = some q) (hi : i < 2 ^ 63 := by omega)
    (hs : ∀ o i, subscripted slice false o i = operate [o, i] (getItem o i) := by intro _ _; rfl) : EvFr c n sc ρ (.Subscript value slice pos) [q] := .mk fun A env V0 h0' Cs X s hA F =>
  Subscript_ (wpAny_mono (h1.run A env V0 h0' Cs X s hA F) (fun o s₁ q₁ => wpAny_mono (h2.run A env V0 h0' Cs X s₁ hA (F.gr q₁.1)) (fun i' s₂ q₂ => by
    obtain ⟨g₁, r₁⟩ := q₁
    obtain ⟨g₂, r₂⟩ := q₂
    cases r₁ with
    | str _ t => cases r₂ with
      | int _ u =>
        refine tail_any (typeIs_str _ _ _) PySem.F.slot_str_getitem.lookup (P.getItem_str (c := q) ?_ (StrLaws.at_nonneg h0 (by simpa using hd)) ?_) (hs _ _)
        · have e1 : ¬ i < -(2 ^ 63 : Int) := by omega
          have e2 : ¬ i ≥ 2 ^ 63 := by omega
          rw [decide_eq_false e1, decide_eq_false e2]; rfl
        · exact ⟨(g₁.trans g₂).trans (Gr.toks (Nat.le_succ _)), s₂.toks, rfl, (g₁.trans g₂).tok, Nat.lt_succ_self _⟩) fun _ _ q => q) fun _ _ q => q)

/-- text.replace(sign, sign) with two signs that are made anew -/
theorem Ev.replaceF {o e1 e2 : Expr} {apos pos : Pos} {l : List Nat} {q z : Nat} (h : Ev c n sc k ρ o (sd l)) (h1 : EvFr c n sc ρ e1 [q]) (h2 : EvFr c n sc ρ e2 [z]) (hqz : q ≠ z) (hz : l.length ≤ 1000000)
    (hp1 : plainE e1 = true := by rfl) (hp2 : plainE e2 = true := by rfl) (hline : (apos.endLine == pos.line) = true := by rfl) (hbase : ∀ env : Env, attributeBase o (Str.ofString "replace") env (PySem.eval o env) = PySem.eval o env := by intro _; rfl) :
    Ev c n sc k ρ (.Call (.Attribute o (Str.ofString "replace") apos) [e1, e2] [] pos) (sd (rep q [z] l)) := .mk fun A env V0 h0 Cs X s hA F => by
  refine wpAny_Call_method (hbase env) (by rw [starEach_cons hp1, starEach_cons hp2]; rfl) hline PySem.F.plainAttrs_str PySem.F.slot_str_replace PySem.F.type_str_replace (wpAny_mono (h.run A env V0 h0 Cs X s hA F) (fun v s₁ q₁ => ?_) fun _ _ q => q)
  obtain ⟨g₁, r⟩ := q₁
  cases r with
  | str _ t =>
    refine ⟨typeIs_str _ _ _, (fun _ e => nomatch e), (Callee.builtin (c := c) "str.replace").wp (by simp [hp1, hp2]) ?_⟩
    refine wpAny_items_cons (wpAny_mono (h1.run A env V0 h0 Cs X s₁ hA (F.gr g₁)) (fun v s₂ q₂ => ?_) fun _ _ q => q.elim) (starEach_cons hp1)
    obtain ⟨g₂, u, rfl, hu1, hu2⟩ := q₂
    have g12 := g₁.trans g₂
    refine wpAny_items_cons (wpAny_mono (h2.run A env V0 h0 Cs X s₂ hA (F.gr g12)) (fun v s₃ q₃ => ?_) fun _ _ q => q.elim) (starEach_cons hp2)
    obtain ⟨g₃, w, rfl, hw1, hw2⟩ := q₃
    have g13 := g12.trans g₃
    refine wpAny_items_nil ⟨((F.gr g13).base.trans (F.gr g13).keep), ?_⟩
    have hs1 : 0 < s₁.toks := (F.gr g₁).tok_pos
    refine wp_gr g13 (wp_end (SC.replace (s := s₃) (u := u) (v := w) (by have : s₁.toks ≤ u := hu1; exact fun q => absurd hs1 (by rw [q] at this; omega)) (by have h3 : s₂.toks ≤ w := hw1; have h4 : u < s₂.toks := hu2; exact fun e0 => Nat.not_lt_zero _ (Nat.lt_of_lt_of_le h4 (e0 ▸ h3))) (by have h3 : s₂.toks ≤ w := hw1; have h4 : u < s₂.toks := hu2; exact Nat.ne_of_lt (Nat.lt_of_lt_of_le h4 h3)) ?_ ?_ fun t' k => ⟨fun _ _ e => e, rfl, rfl, fun _ => ?_⟩))
    · rw [beq_eq_false_iff_ne]
      exact fun e => hqz (by have := S_inj e; simpa using this)
    · rw [S_length, S_length]; simp; omega
    · have e : Txt.replace (S l) (S [q]) (S [z]) = S (rep q [z] l) := replace_S q [z] l
      rw [e]; exact .str _ _
end
end Mine
namespace Mine
section
variable {c : Cx} {n : Nat}
abbrev p05 := PySem.Challenge.pw_dn0276_05

theorem cd_fn (hd : IsDef c 28 (scAt p05 2) ["text"] (bodyAt p05 2)) {l : List Nat} (hl : l.length ≤ 100000) : FnR c (n + 1) (.ref 28) [sd l] (sd (l.flatMap (wrT tCd))) := by
  refine escFn hd (by decide) (Tr.last (Sx.try ?_))
  refine Tr.escStep (q := 38) hl rfl (by decide) (.inl rfl) (by decide) (by decide) (by decide) ?_
  refine Tr.escStep (q := 60) hl rfl (by decide) (.inl rfl) (by decide) (by decide) (by decide) ?_
  refine Tr.escStep (q := 62) hl rfl (by decide) (.inl rfl) (by decide) (by decide) (by decide) ?_
  exact Tr.last (Sx.ret (Ev.name rfl) rfl)
theorem at_fn (hd : IsDef c 35 (scAt p05 3) ["text"] (bodyAt p05 3)) {l : List Nat} (hl : l.length ≤ 100000) : FnR c (n + 1) (.ref 35) [sd l] (sd (l.flatMap (wrT tAt))) := by
  refine escFn hd (by decide) (Tr.last (Sx.try ?_))
  refine Tr.escStep (q := 38) hl rfl (by decide) (.inl rfl) (by decide) (by decide) (by decide) ?_
  refine Tr.escStep (q := 60) hl rfl (by decide) (.inl rfl) (by decide) (by decide) (by decide) ?_
  refine Tr.escStep (q := 62) hl rfl (by decide) (.inl rfl) (by decide) (by decide) (by decide) ?_
  refine Tr.escStep (q := 34) hl rfl (by decide) (.inl rfl) (by decide) (by decide) (by decide) ?_
  refine Tr.escStep (q := 13) hl rfl (by decide) (.inl rfl) (by decide) (by decide) (by decide) ?_
  refine Tr.escStep (q := 10) hl rfl (by decide) (.inl rfl) (by decide) (by decide) (by decide) ?_
  refine Tr.escStep (q := 9) hl rfl (by decide) (.inl rfl) (by decide) (by decide) (by decide) ?_
  exact Tr.last (Sx.ret (Ev.name rfl) rfl)
theorem ht_fn (hd : IsDef c 42 (scAt p05 4) ["text"] (bodyAt p05 4)) {l : List Nat} (hl : l.length ≤ 100000) : FnR c (n + 1) (.ref 42) [sd l] (sd (l.flatMap (wrT tHt))) := by
  refine escFn hd (by decide) (Tr.last (Sx.try ?_))
  refine Tr.escStep (q := 38) hl rfl (by decide) (.inl rfl) (by decide) (by decide) (by decide) ?_
  refine Tr.escStep (q := 62) hl rfl (by decide) (.inl rfl) (by decide) (by decide) (by decide) ?_
  refine Tr.escStep (q := 34) hl rfl (by decide) (.inl rfl) (by decide) (by decide) (by decide) ?_
  exact Tr.last (Sx.ret (Ev.name rfl) rfl)
theorem cc_fn (hd : IsDef c 49 (scAt p05 5) ["text"] (bodyAt p05 5)) {l : List Nat} (hl : l.length ≤ 100000) : FnR c (n + 1) (.ref 49) [sd l] (sd (l.flatMap (wrT tCc))) := by
  refine escFn hd (by decide) (Tr.last (Sx.try ?_))
  refine Tr.escStep (q := 38) hl rfl (by decide) (.inl rfl) (by decide) (by decide) (by decide) ?_
  refine Tr.escStep (q := 60) hl rfl (by decide) (.inl rfl) (by decide) (by decide) (by decide) ?_
  refine Tr.escStep (q := 62) hl rfl (by decide) (.inl rfl) (by decide) (by decide) (by decide) ?_
  refine Tr.escStep (q := 13) hl rfl (by decide) (.inl rfl) (by decide) (by decide) (by decide) ?_
  exact Tr.last (Sx.ret (Ev.name rfl) rfl)
theorem ac_fn (hd : IsDef c 56 (scAt p05 6) ["text"] (bodyAt p05 6)) {l : List Nat} (hl : l.length ≤ 100000) : FnR c (n + 1) (.ref 56) [sd l] (sd (l.flatMap (wrT tAc))) := by
  refine escFn hd (by decide) (Tr.last (Sx.try ?_))
  refine Tr.escStep (q := 38) hl rfl (by decide) (.inl rfl) (by decide) (by decide) (by decide) ?_
  refine Tr.escStep (q := 60) hl rfl (by decide) (.inl rfl) (by decide) (by decide) (by decide) ?_
  refine Tr.escStep (q := 34) hl rfl (by decide) (.inl rfl) (by decide) (by decide) (by decide) ?_
  refine Tr.escStep (q := 9) hl rfl (by decide) (.inl rfl) (by decide) (by decide) (by decide) ?_
  refine Tr.escStep (q := 10) hl rfl (by decide) (.inl rfl) (by decide) (by decide) (by decide) ?_
  refine Tr.escStep (q := 13) hl rfl (by decide) (.inl rfl) (by decide) (by decide) (by decide) ?_
  exact Tr.last (Sx.ret (Ev.name rfl) rfl)

structure E05 (c : Cx) : Prop where
  cd : IsDef c 28 (scAt p05 2) ["text"] (bodyAt p05 2)
  at' : IsDef c 35 (scAt p05 3) ["text"] (bodyAt p05 3)
  ht : IsDef c 42 (scAt p05 4) ["text"] (bodyAt p05 4)
  cc : IsDef c 49 (scAt p05 5) ["text"] (bodyAt p05 5)
  ac : IsDef c 56 (scAt p05 6) ["text"] (bodyAt p05 6)
  gcd : c.mg (Str.ofString "_escape_cdata") = some (.ref 28)
  gat : c.mg (Str.ofString "_escape_attrib") = some (.ref 35)
  ght : c.mg (Str.ofString "_escape_attrib_html") = some (.ref 42)
  gcc : c.mg (Str.ofString "_escape_cdata_c14n") = some (.ref 49)
  gac : c.mg (Str.ofString "_escape_attrib_c14n") = some (.ref 56)

/-- the five escapes in the law's order, and their tables -/
def handA : List Addr := [28, 35, 42, 49, 56]
def handT : List Tab := [tCd, tAt, tHt, tCc, tAc]
theorem hand_fn (E : E05 c) {h : Nat} (hh : h < 5) {l : List Nat} (hl : l.length ≤ 100000) : FnR c (n + 1) (.ref (handA.getD h 0)) [sd l] (sd (l.flatMap (wrT (handT.getD h [])))) := by
  match h, hh with
  | 0, _ => exact cd_fn E.cd hl
  | 1, _ => exact at_fn E.at' hl
  | 2, _ => exact ht_fn E.ht hl
  | 3, _ => exact cc_fn E.cc hl
  | 4, _ => exact ac_fn E.ac hl
theorem hand_callee (E : E05 c) {h : Nat} (hh : h < 5) : Callee c (.ref (handA.getD h 0)) := by
  match h, hh with
  | 0, _ => exact E.cd.callee
  | 1, _ => exact E.at'.callee
  | 2, _ => exact E.ht.callee
  | 3, _ => exact E.cc.callee
  | 4, _ => exact E.ac.callee
end
end Mine
namespace Mine

abbrev w5 (h a : Nat) : List Nat := wrT (handT.getD h []) a
theorem w5_other {a : Nat} (ha : a ∉ specials) (h : Nat) : w5 h a = [a] := by
  have key : ∀ t : Tab, (∀ p ∈ t, p.1 ∈ specials) → wrT t a = [a] := by
    intro t ht
    unfold wrT
    cases e : t.lookup a with
    | none => rfl
    | some z => exact absurd (ht _ (mem_lookup e)) ha
  match h with
  | 0 => exact key tCd (by decide)
  | 1 => exact key tAt (by decide)
  | 2 => exact key tHt (by decide)
  | 3 => exact key tCc (by decide)
  | 4 => exact key tAc (by decide)
  | h + 5 => exact key [] (by decide)

def marks : List Nat := [57344, 57345, 57346]
def ord5 : List Nat := [3, 0, 1, 2, 4]
def wts : List (List Nat) := [[13], [], [13, 10, 9], [], [13, 10, 9]]

def turn (a b k : Nat) : Nat := if k = a then b else k
theorem rep_map (a b : Nat) : ∀ l : List Nat, rep a [b] l = l.map (turn a b)
  | [] => rfl
  | k :: l => by
    have ih := rep_map a b l
    unfold rep at ih ⊢
    rw [List.flatMap_cons, ih, List.map_cons]
    unfold turn
    split <;> rfl
theorem foldl_turn (f g : Nat → Nat) : ∀ (ps : List Nat) (l : List Nat), ps.foldl (fun acc p => rep (f p) [g p] acc) l = l.map fun k => ps.foldl (fun k p => turn (f p) (g p) k) k
  | [], l => (List.map_id l).symm
  | p :: ps, l => by
    rw [List.foldl_cons, foldl_turn f g ps, rep_map, List.map_map]
    rfl
theorem turn_other {f g : Nat → Nat} {k : Nat} : ∀ (ps : List Nat), (∀ p ∈ ps, f p ≠ k) → ps.foldl (fun k p => turn (f p) (g p) k) k = k
  | [], _ => rfl
  | p :: ps, h => by
    have hp := h p (.head _)
    rw [List.foldl_cons]
    have : turn (f p) (g p) k = k := if_neg fun e => hp e.symm
    rw [this]
    exact turn_other ps fun q hq => h q (.tail _ hq)

def cov (ws : List Nat) (k : Nat) : Nat := (List.range ws.length).foldl (fun k p => turn (ws.getD p 0) (marks.getD p 0) k) k
def unc (ws : List Nat) (k : Nat) : Nat := (List.range ws.length).foldl (fun k p => turn (marks.getD p 0) (ws.getD p 0) k) k
def wt (i : Nat) : List Nat := wts.getD i []
def hd (i : Nat) : Nat := ord5.getD i 0
def ff (i b : Nat) : List Nat := w5 (hd i) (unc (wt i) b)
def coverL (i : Nat) (l : List Nat) : List Nat := l.map (cov (wt i))
def bareL (ws : List Nat) (l : List Nat) : List Nat := l.map (unc ws)
def writeL (i : Nat) (l : List Nat) : List Nat := l.flatMap (w5 (hd i))
theorem write_bare (i : Nat) (w : List Nat) : w.flatMap (ff i) = writeL i (bareL (wt i) w) := by
  unfold writeL bareL
  rw [List.flatMap_map]; rfl

theorem wt_mem {i p : Nat} (h : p < (wt i).length) : (wt i).getD p 0 ∈ specials := by
  have key : ∀ i, i < 5 → ∀ p, p < (wt i).length → (wt i).getD p 0 ∈ specials := by decide
  rcases Nat.lt_or_ge i 5 with q | q
  · exact key i q p h
  · have : wt i = [] := by unfold wt; rw [List.getD_eq_getElem?_getD, List.getElem?_eq_none (by show 5 ≤ i; exact q)]; rfl
    rw [this] at h; exact absurd h (Nat.not_lt_zero _)
theorem wt_len (i : Nat) : (wt i).length ≤ 3 := by
  have key : ∀ i, i < 5 → (wt i).length ≤ 3 := by decide
  rcases Nat.lt_or_ge i 5 with q | q
  · exact key i q
  · have : wt i = [] := by unfold wt; rw [List.getD_eq_getElem?_getD, List.getElem?_eq_none (by show 5 ≤ i; exact q)]; rfl
    rw [this]; exact Nat.zero_le _
theorem cov_other {i a : Nat} (ha : a ∉ specials) : cov (wt i) a = a := by
  refine turn_other _ fun p hp e => ha ?_
  rw [← e]; exact wt_mem (List.mem_range.mp hp)
theorem unc_other {i a : Nat} (ha : a ∉ marks) : unc (wt i) a = a := by
  refine turn_other _ fun p hp e => ha ?_
  have hp := List.mem_range.mp hp
  have := wt_len i
  rw [← e, List.getD_eq_getElem?_getD]
  have h3 : p < marks.length := by show p < 3; omega
  rw [List.getElem?_eq_getElem h3]; exact List.getElem_mem h3
theorem back {i a : Nat} (hi : i < 5) (ha : a ∉ marks) : unc (wt i) (cov (wt i) a) = a := by
  by_cases h : a ∈ specials
  · have key : ∀ i, i < 5 → ∀ a ∈ specials, unc (wt i) (cov (wt i) a) = a := by decide
    exact key i hi a h
  · rw [cov_other h, unc_other ha]

def okAt (p : Nat → Bool) (f : Nat → List Nat) (b : Nat) : Bool := if p b = true then decide (f b = [b]) else !(f b).isEmpty && (f b).all fun x => !p x
theorem keep_at {p : Nat → Bool} {f : Nat → List Nat} {b : Nat} (h : okAt p f b = true) : Keeping p f b := by
  unfold okAt at h
  refine ⟨fun q => ?_, fun q => ?_⟩
  · rw [if_pos q] at h; exact of_decide_eq_true h
  · rw [if_neg (by rw [q]; decide), Bool.and_eq_true] at h
    refine ⟨fun e => ?_, fun x hx => ?_⟩
    · rw [e] at h; exact absurd h.1 (by decide)
    · have := List.all_eq_true.mp h.2 x hx
      simpa using this
theorem spc_ok : ∀ i, i < 5 → ∀ a ∈ specials, okAt spc (ff i) (cov (wt i) a) = true := by decide +kernel
theorem lbk_ok : ∀ i, i < 5 → ∀ a ∈ specials, okAt lbk (ff i) (cov (wt i) a) = true := by decide +kernel
theorem keeps {p : Nat → Bool} (hp : ∀ i, i < 5 → ∀ a ∈ specials, okAt p (ff i) (cov (wt i) a) = true) {i : Nat} (hi : i < 5) {t : List Nat} (ht : ∀ a ∈ t, a ∉ marks) : ∀ b ∈ coverL i t, Keeping p (ff i) b := by
  intro b hb
  obtain ⟨a, ha, rfl⟩ := List.mem_map.mp hb
  by_cases h : a ∈ specials
  · exact keep_at (hp i hi a h)
  · rw [cov_other h]
    have e : ff i a = [a] := by unfold ff; rw [unc_other (ht a ha)]; exact w5_other h _
    refine ⟨fun _ => e, fun q => ?_⟩
    rw [e]
    exact ⟨by simp, fun x hx => by rw [List.mem_singleton.mp hx]; exact q⟩
theorem write_cover {i : Nat} (hi : i < 5) {t : List Nat} (ht : ∀ a ∈ t, a ∉ marks) : (coverL i t).flatMap (ff i) = writeL i t := by
  unfold coverL writeL
  rw [List.flatMap_map]
  have key : ∀ t : List Nat, (∀ a ∈ t, a ∉ marks) → (t.flatMap fun a => ff i (cov (wt i) a)) = t.flatMap (w5 (hd i)) := by
    intro t
    induction t with
    | nil => intro _; rfl
    | cons a t ih =>
      intro h
      rw [List.flatMap_cons, List.flatMap_cons, ih fun b hb => h b (.tail _ hb)]
      congr 1
      unfold ff
      rw [back hi (h a (.head _))]
  exact key t ht

theorem law_words {i : Nat} (hi : i < 5) {t : List Nat} (ht : ∀ a ∈ t, a ∉ marks) : wordsL (writeL i t) = (wordsL (coverL i t)).map fun w => writeL i (bareL (wt i) w) := by
  rw [← write_cover hi ht, words_map (keeps spc_ok hi ht)]
  exact List.map_congr_left fun w _ => write_bare i w
theorem law_lines {i : Nat} (k : Bool) (hi : i < 5) {t : List Nat} (ht : ∀ a ∈ t, a ∉ marks) : linesL k (writeL i t) = (linesL k (coverL i t)).map fun w => writeL i (bareL (wt i) w) := by
  rw [← write_cover hi ht, lines_map (keeps lbk_ok hi ht)]
  exact List.map_congr_left fun w _ => write_bare i w
theorem law_strip {i : Nat} (hi : i < 5) {t : List Nat} (ht : ∀ a ∈ t, a ∉ marks) : stripL (writeL i t) = writeL i (bareL (wt i) (stripL (coverL i t))) := by
  rw [← write_cover hi ht, strip_map (keeps spc_ok hi ht)]
  exact write_bare i _

/-- no word is longer than the text -/
theorem wgo_len : ∀ (l : List Nat) (o : Option (List Nat)), ∀ w ∈ wgo o l, w.length ≤ (o.getD []).length + l.length
  | [], none, w, h => nomatch h
  | [], some u, w, h => by
    have : w = u := by simpa [wgo] using h
    rw [this]; simp
  | a :: l, none, w, h => by
    have h : w ∈ (if spc a = true then wgo none l else wgo (some [a]) l) := h
    split at h
    · have := wgo_len l none w h; simp at this ⊢; omega
    · have := wgo_len l (some [a]) w h; simp at this ⊢; omega
  | a :: l, some u, w, h => by
    have h : w ∈ (if spc a = true then u :: wgo none l else wgo (some (u ++ [a])) l) := h
    split at h
    · rcases List.mem_cons.mp h with rfl | h
      · simp
      · have := wgo_len l none w h; simp at this ⊢; omega
    · have := wgo_len l (some (u ++ [a])) w h; simp at this ⊢; omega
theorem lgo_len (k : Bool) : ∀ (l : List Nat) (sk : Bool) (cur : List Nat), ∀ w ∈ lgo k sk cur l, w.length ≤ cur.length + l.length + 1
  | [], sk, cur, w, h => by
    have h : w ∈ (if cur = [] then [] else [cur]) := by cases sk <;> exact h
    split at h
    · cases h
    · rw [List.mem_singleton.mp h]; simp
  | a :: l, true, cur, w, h => by
    have := lgo_len k l false [] w h
    simp at this ⊢; omega
  | a :: l, false, cur, w, h => by
    have h : w ∈ (if lbk a = true then (cur ++ (if k = true then (if a = 13 ∧ l.head? = some 10 then [13, 10] else [a]) else [])) :: lgo k (decide (a = 13 ∧ l.head? = some 10)) [] l else lgo k false (cur ++ [a]) l) := h
    split at h
    · rcases List.mem_cons.mp h with rfl | h
      · rw [List.length_append, List.length_cons]
        have : (if k = true then (if a = 13 ∧ l.head? = some 10 then [13, 10] else [a]) else []).length ≤ 2 := by
          split
          · split <;> simp
          · simp
        omega
      · have := lgo_len k l _ [] w h
        simp at this ⊢; omega
    · have := lgo_len k l false (cur ++ [a]) w h
      simp at this ⊢; omega
theorem dropWhile_len (p : Nat → Bool) : ∀ l : List Nat, (l.dropWhile p).length ≤ l.length
  | [] => Nat.le_refl _
  | a :: l => by
    rw [List.dropWhile_cons]
    split
    · exact Nat.le_succ_of_le (dropWhile_len p l)
    · exact Nat.le_refl _
theorem strip_len (l : List Nat) : (stripL l).length ≤ l.length := by
  unfold stripL
  rw [List.length_reverse]
  refine Nat.le_trans (dropWhile_len _ _) ?_
  rw [List.length_reverse]; exact dropWhile_len _ _
/-- how many words and lines -/
theorem wgo_count : ∀ (l : List Nat) (o : Option (List Nat)), (wgo o l).length ≤ l.length + 1
  | [], none => Nat.zero_le _
  | [], some u => Nat.le_refl _
  | a :: l, none => by
    show (if spc a = true then wgo none l else wgo (some [a]) l).length ≤ _
    split
    · exact Nat.le_succ_of_le (wgo_count l none)
    · exact Nat.le_succ_of_le (wgo_count l _)
  | a :: l, some u => by
    show (if spc a = true then u :: wgo none l else wgo (some (u ++ [a])) l).length ≤ _
    split
    · exact Nat.succ_le_succ (wgo_count l none)
    · exact Nat.le_succ_of_le (wgo_count l _)
theorem lgo_count (k : Bool) : ∀ (l : List Nat) (sk : Bool) (cur : List Nat), (lgo k sk cur l).length ≤ l.length + 1
  | [], sk, cur => by
    have : lgo k sk cur [] = (if cur = [] then [] else [cur]) := by cases sk <;> rfl
    rw [this]; split <;> simp
  | a :: l, true, cur => Nat.le_succ_of_le (lgo_count k l false [])
  | a :: l, false, cur => by
    show (if lbk a = true then (cur ++ (if k = true then (if a = 13 ∧ l.head? = some 10 then [13, 10] else [a]) else [])) :: lgo k (decide (a = 13 ∧ l.head? = some 10)) [] l else lgo k false (cur ++ [a]) l).length ≤ _
    split
    · exact Nat.succ_le_succ (lgo_count k l _ _)
    · exact Nat.le_succ_of_le (lgo_count k l _ _)
end Mine
namespace Mine
section
variable {c : Cx} {n : Nat}

structure B05 (c : Cx) : Prop where
  chr : c.mg (Str.ofString "chr") = none ∧ c.mb (Str.ofString "chr") = some (.builtin "chr")
  len : c.mg (Str.ofString "len") = none ∧ c.mb (Str.ofString "len") = some (.builtin "len")
  range : c.mg (Str.ofString "range") = none ∧ c.mb (Str.ofString "range") = some (.type "range")
  list : c.mg (Str.ofString "list") = none ∧ c.mb (Str.ofString "list") = some (.type "list")

theorem foldl_len (f g : Nat → Nat) (ps : List Nat) (l : List Nat) : (ps.foldl (fun acc p => rep (f p) [g p] acc) l).length = l.length := by rw [foldl_turn, List.length_map]

def barF (ws : List Nat) (ps l : List Nat) : List Nat := ps.foldl (fun acc p => rep (marks.getD p 0) [ws.getD p 0] acc) l
theorem barF_all (ws l : List Nat) : barF ws (List.range ws.length) l = bareL ws l := foldl_turn (fun p => marks.getD p 0) (fun p => ws.getD p 0) _ l
theorem barF_len (ws ps l : List Nat) : (barF ws ps l).length = l.length := foldl_len _ _ _ _
theorem bareL_len (ws l : List Nat) : (bareL ws l).length = l.length := List.length_map _

theorem wt_at {i p : Nat} (h : p < (wt i).length) : (wt i)[p]? = some ((wt i).getD p 0) := by
  rw [List.getD_eq_getElem?_getD, List.getElem?_eq_getElem h]; rfl
theorem marks_at {p : Nat} (h : p < 3) : marks[p]? = some (marks.getD p 0) := by
  rw [List.getD_eq_getElem?_getD, List.getElem?_eq_getElem (show p < marks.length from h)]; rfl
theorem wt_marks {i p q : Nat} (h : p < (wt i).length) (hq : q < 3) : (wt i).getD p 0 ≠ marks.getD q 0 := by
  have key : ∀ a ∈ specials, ∀ q, q < 3 → a ≠ marks.getD q 0 := by decide
  exact key _ (wt_mem h) q hq

theorem bare05_fn (hd : IsDef c 63 (scAt p05 8) ["part", "white"] (bodyAt p05 8)) (B : B05 c) {i : Nat} {l : List Nat} (hl : l.length ≤ 100000) : FnR c (n + 1) (.ref 63) [sd l, sd (wt i)] (sd (bareL (wt i) l)) := by
  refine FnR.of hd rfl ?_
  have hw3 := wt_len i
  refine Tr.step (Sx.assign (d := sd marks) Ev.lit (.inl rfl)) ?_
  let σ : List Nat → Sto := fun done => [("part", .val (sd (barF (wt i) done l))), ("marks", .val (sd marks)), ("white", .val (sd (wt i)))]
  refine Tr.cons (P₁ := fun af ρ => af = .next ∧ ρ = σ (List.range (wt i).length)) (Sx.forS (g := fun k : Nat => D.int k) (xs := List.range (wt i).length) σ (d₀ := .range 0 ((wt i).length : Nat) 1)
    (Ev.call (Ev.blt B.range.1 B.range.2) (.type _) (EvL.cons (Ev.call (Ev.blt B.len.1 B.len.2) (.builtin _) (EvL.cons (Ev.name rfl) EvL.nil) (FnR.lenS (by omega))) EvL.nil) FnR.range1) (IterR.range0 (by omega)) (.cons rfl (.cons rfl (.cons rfl .nil))) ?_ ⟨rfl, rfl⟩) ?_ (fun _ _ h q => absurd q.1 h)
  · intro done p rest e
    have hp : p < (wt i).length := by
      have : p ∈ List.range (wt i).length := by rw [e]; simp
      exact List.mem_range.mp this
    refine ⟨_, TgtG.name (.inl rfl), ?_⟩
    refine Tr.last (Sx.mono (Sx.assign (Ev.replaceF (Ev.name rfl) (EvFr.sub (Ev.name rfl) (Ev.name rfl) (by omega) (by rw [Int.toNat_natCast]; exact marks_at (by omega)) (by omega)) (EvFr.sub (Ev.name rfl) (Ev.name rfl) (by omega) (by rw [Int.toNat_natCast]; exact wt_at hp) (by omega)) (fun q => wt_marks hp (by omega) q.symm) (by rw [barF_len]; omega)) (.inl rfl)) ?_)
    rintro _ _ ⟨rfl, rfl⟩
    show SubS (σ (done ++ [p])) _
    refine .cons ?_ (.cons rfl (.cons rfl .nil))
    show some _ = some _
    unfold barF; rw [List.foldl_append]; rfl
  rintro _ ⟨_, rfl⟩
  exact Tr.last (Sx.ret (Ev.name (by show some _ = some _; rw [barF_all])) rfl)

def pcs05 : List String := ["\n", "\r", "\r\n", "\n\r", " ", "\t", "\x0b", "\x0c", "\x1c", "\x1f", "\u0085", "\u00a0", "\u2028", "\u2029", "\u3000", "a", "b;", "&", "<", ">", "\"", "&#xD;"]
def piece05 (x : Int) : List Nat := if x.fmod 2 = 0 then cs (pcs05.getD ((x.fdiv 2).fmod 22).toNat "") else if chrOf (x.fdiv 2) ∈ marks then [97] else [chrOf (x.fdiv 2)]
theorem piece05_len (x : Int) : (piece05 x).length ≤ 6 := by
  unfold piece05
  split
  · have h : ∀ i : Nat, (cs (pcs05.getD i "")).length ≤ 6 := by
      intro i
      rcases Nat.lt_or_ge i 22 with q | q
      · exact (by decide : ∀ i, i < 22 → (cs (pcs05.getD i "")).length ≤ 6) i q
      · rw [List.getD_eq_getElem?_getD, List.getElem?_eq_none (by exact q)]; exact Nat.zero_le _
    exact h _
  · split <;> simp
theorem piece05_free (x : Int) : ∀ a ∈ piece05 x, a ∉ marks := by
  unfold piece05
  split
  · have h : ∀ i : Nat, ∀ a ∈ cs (pcs05.getD i ""), a ∉ marks := by
      intro i
      rcases Nat.lt_or_ge i 22 with q | q
      · exact (by decide : ∀ i, i < 22 → ∀ a ∈ cs (pcs05.getD i ""), a ∉ marks) i q
      · rw [List.getD_eq_getElem?_getD, List.getElem?_eq_none (by exact q)]
        intro a ha; exact nomatch ha
    exact h _
  · split
    · decide
    · rename_i h
      intro a ha
      rw [List.mem_singleton.mp ha]; exact h
theorem flatMap_lenI {w : Int → List Nat} {m : Nat} (h : ∀ k, (w k).length ≤ m) : ∀ l : List Int, (l.flatMap w).length ≤ l.length * m
  | [] => by simp
  | x :: l => by
    have := flatMap_lenI h l
    have := h x
    rw [List.flatMap_cons, List.length_append, List.length_cons, Nat.add_mul]
    omega
def text05 (ns : List Int) : List Nat := ns.flatMap piece05
theorem text05_len (ns : List Int) : (text05 ns).length ≤ ns.length * 6 := flatMap_lenI piece05_len ns
theorem text05_free (ns : List Int) : ∀ a ∈ text05 ns, a ∉ marks := by
  intro a ha
  obtain ⟨x, _, h⟩ := List.mem_flatMap.mp ha
  exact piece05_free x a h

set_option maxHeartbeats 1000000 in
theorem text05_fn (hd : IsDef c 70 (scAt p05 9) ["script"] (bodyAt p05 9)) (B : B05 c) {ns : List Int} (hl : ns.length ≤ 100) : FnR c (n + 1) (.ref 70) [.list (ns.map .int)] (sd (text05 ns)) := by
  refine FnR.of hd rfl ?_
  refine Tr.step (Sx.assign (d := .list (pcs05.map fun x => sd (cs x))) (Ev.list ?_ (by rw [List.length_map]; decide)) (.inl rfl)) ?_
  · iterate 22 refine EvL.cons Ev.lit ?_
    exact EvL.nil
  refine Tr.step (Sx.assignS (EvS.list EvL.nil (Nat.zero_le _)) (.inl rfl)) ?_
  let σ1 : List Int → Sto := fun done => [("row", .own (done.map fun x => .val (sd (piece05 x)))), ("pieces", .val (.list (pcs05.map fun x => sd (cs x)))), ("script", .val (.list (ns.map .int)))]
  refine Tr.cons (P₁ := fun af ρ => af = .next ∧ ρ = σ1 ns) (Sx.forS (g := D.int) (xs := ns) σ1 (Ev.name rfl) IterR.list (.cons rfl (.cons rfl (.cons rfl .nil))) ?_ ⟨rfl, rfl⟩) ?_ (fun _ _ h q => absurd q.1 h)
  · intro done x rest e
    have hdl : done.length ≤ 100 := by have := congrArg List.length e; simp at this; omega
    have hm : (0 : Int) ≤ (x.fdiv 2).fmod 22 ∧ (x.fdiv 2).fmod 22 < 22 := ⟨Int.fmod_nonneg_of_pos _ (by decide), Int.fmod_lt_of_pos _ (by decide)⟩
    have fin : ∀ ρ', SubS [("row", .own (done.map (fun x => Slot.val (sd (piece05 x))) ++ [.val (sd (piece05 x))])), ("pieces", .val (.list (pcs05.map fun x => sd (cs x)))), ("script", .val (.list (ns.map .int)))] ρ' → SubS (σ1 (done ++ [x])) ρ' := fun ρ' q => by
      show SubS [("row", Slot.own (List.map _ (done ++ [x]))), _, _] ρ'
      rw [List.map_append]; exact q
    refine ⟨_, TgtG.name (.inl rfl), ?_⟩
    refine Tr.last (Sx.ite (Tst.cmp (Ev.bin (Ev.name rfl) Ev.int (BinR.fmod (by decide))) Ev.int CmpR.eqI) (fun hb => ?_) fun hb => ?_)
    · have hb' : x.fmod 2 = 0 := by simpa using hb
      have hp : piece05 x = cs (pcs05.getD ((x.fdiv 2).fmod 22).toNat "") := by unfold piece05; rw [if_pos hb']
      refine Tr.last (Sx.mono (Sx.append rfl (Ev.subL (Ev.name rfl) (Ev.bin (Ev.bin (Ev.name rfl) Ev.int (BinR.fdiv (by decide) (by decide))) Ev.int (BinR.fmod (by decide))) (ItemR.list (d := sd (piece05 x)) hm.1 ?_ (by omega))) (by simp; omega)) ?_)
      · rw [List.getElem?_map, hp]
        have : ((x.fdiv 2).fmod 22).toNat < pcs05.length := by show _ < 22; omega
        rw [List.getElem?_eq_getElem this, List.getD_eq_getElem?_getD, List.getElem?_eq_getElem this]
        rfl
      · rintro _ _ ⟨rfl, rfl⟩
        exact fin _ (.cons rfl (.cons rfl (.cons rfl .nil)))
    · have hb' : ¬ x.fmod 2 = 0 := by simpa using hb
      have hp : piece05 x = if chrOf (x.fdiv 2) ∈ marks then [97] else [chrOf (x.fdiv 2)] := by unfold piece05; rw [if_neg hb']
      refine Tr.step (Sx.assign (Ev.bin (Ev.bin (Ev.name rfl) Ev.int (BinR.fdiv (by decide) (by decide))) Ev.int (BinR.fmod (by decide))) (.inl rfl)) ?_
      refine Tr.step (Sx.assign (Ev.chrIf B.chr rfl) (.inl rfl)) ?_
      refine Tr.last (Sx.mono (Sx.append (d := sd (piece05 x)) rfl (Ev.ite (Tst.cmp (Ev.name rfl) (Ev.lit (x := "\ue000\ue001\ue002")) (CmpR.inS rfl)) (fun q => Ev.to (Ev.lit (x := "a")) ?_) fun q => Ev.to (Ev.name rfl) ?_) (by simp; omega)) ?_)
      · have : chrOf (x.fdiv 2) ∈ marks := of_decide_eq_true q
        rw [hp, if_pos this]; rfl
      · have : ¬ chrOf (x.fdiv 2) ∈ marks := of_decide_eq_false q
        rw [hp, if_neg this]
      rintro _ _ ⟨rfl, rfl⟩
      exact fin _ (.cons rfl (.cons rfl (.cons rfl .nil)))
  rintro _ ⟨_, rfl⟩
  refine Tr.ent (Ent.freeze (x := "row") rfl) ?_
  have hfl := text05_len ns
  have hfe : (ns.map piece05).flatten = text05 ns := rfl
  refine Tr.last (Sx.ret (Ev.to (Ev.meth Ev.lit rfl PySem.F.plainAttrs_str PySem.F.slot_str_join PySem.F.type_str_join (EvL.cons (d := .list ((ns.map piece05).map sd)) (Ev.name ?_) EvL.nil) (FnR.join0 (by rw [hfe]; omega))) (by rw [hfe])) rfl)
  show some (Slot.val (D.list (Slot.ds _))) = _
  rw [ds_vals, List.map_map]; rfl
end
end Mine
namespace Mine
section
variable {c : Cx} {n : Nat}

structure K05 (c : Cx) : Prop where
  E : E05 c
  bare : IsDef c 63 (scAt p05 8) ["part", "white"] (bodyAt p05 8)
  text : IsDef c 70 (scAt p05 9) ["script"] (bodyAt p05 9)
  law : IsDef c 75 (scAt p05 10) ["script"] (bodyAt p05 10)
  g1 : c.mg (Str.ofString "_law_bare") = some (.ref 63)
  g2 : c.mg (Str.ofString "_law_text") = some (.ref 70)
  B : B05 c

def covF (ws : List Nat) (ps l : List Nat) : List Nat := ps.foldl (fun acc p => rep (ws.getD p 0) [marks.getD p 0] acc) l
theorem covF_all (i : Nat) (l : List Nat) : covF (wt i) (List.range (wt i).length) l = coverL i l := foldl_turn (fun p => (wt i).getD p 0) (fun p => marks.getD p 0) _ l
theorem covF_len (ws ps l : List Nat) : (covF ws ps l).length = l.length := foldl_len _ _ _ _
theorem writeL_len (i : Nat) : ∀ l : List Nat, (writeL i l).length ≤ l.length * 6
  | [] => Nat.zero_le _
  | a :: l => by
    have := writeL_len i l
    unfold writeL at this ⊢
    rw [List.flatMap_cons, List.length_append, List.length_cons]
    have h1 : (w5 (hd i) a).length ≤ 6 := by
      by_cases h : a ∈ specials
      · have key : ∀ j, j < 5 → ∀ a ∈ specials, (w5 j a).length ≤ 6 := by decide +kernel
        rcases Nat.lt_or_ge (hd i) 5 with q | q
        · exact key _ q a h
        · have : handT.getD (hd i) [] = [] := by rw [List.getD_eq_getElem?_getD, List.getElem?_eq_none (by exact q)]; rfl
          show (wrT (handT.getD (hd i) []) a).length ≤ 6
          rw [this]; exact Nat.le_of_ble_eq_true rfl
      · rw [w5_other h]; show 1 ≤ 6; decide
    omega
theorem hd_lt {i : Nat} (h : i < 5) : hd i < 5 := (by decide : ∀ i, i < 5 → hd i < 5) i h
theorem write_fn (E : E05 c) {i : Nat} (hi : i < 5) {l : List Nat} (hl : l.length ≤ 100000) : FnR c (n + 1) (.ref (handA.getD (hd i) 0)) [sd l] (sd (writeL i l)) := hand_fn E (hd_lt hi) hl

def handD (i : Nat) : D := .tuple [.val (.ref (handA.getD (hd i) 0)), sd (wt i)]

set_option maxHeartbeats 4000000 in
theorem law05 (K : K05 c) {ns : List Int} (hl : ns.length ≤ 63) : FnR c 40 (.ref 75) [.list (ns.map .int)] (.bool true) := by
  refine FnR.of (n := 39) K.law rfl ?_
  let ms : List Int := if ns = [] then (List.range 22).map (fun k : Nat => (0 : Int) + k * 2) else ns
  have hms : ms.length ≤ 63 := by
    show (if ns = [] then (List.range 22).map (fun k : Nat => (0 : Int) + k * 2) else ns).length ≤ 63
    split
    · decide
    · exact hl
  have hms2 : Ev c 39 (scAt p05 10) true [("script", .val (.list (ns.map .int)))] (match bodyAt p05 10 with | .Assign _ (.Call _ [e] _ _) _ :: _ => e | _ => .Constant .none 0 ⟨0, 0, 0, 0⟩) (.list (ms.map .int)) := by
    refine Ev.ite (Tst.cmp (Ev.name rfl) (Ev.list EvL.nil (Nat.zero_le _)) CmpR.neNil) (fun q => ?_) fun q => ?_
    · have : ns ≠ [] := by rintro rfl; cases q
      have e : ms = ns := if_neg this
      rw [e]; exact Ev.name rfl
    · have : ns = [] := by
        cases ns with
        | nil => rfl
        | cons a b => cases q
      have e : ms = (List.range 22).map (fun k : Nat => (0 : Int) + k * 2) := if_pos this
      rw [e]
      refine Ev.to (Ev.call (Ev.blt K.B.list.1 K.B.list.2) (.type _) (EvL.cons (Ev.call (Ev.blt K.B.range.1 K.B.range.2) (.type _) (EvL.cons Ev.int (EvL.cons Ev.int (EvL.cons Ev.int EvL.nil))) (FnR.range3 (by decide) (by decide))) EvL.nil) (FnR.listRange (m := 22) (by decide) (by decide) (by decide))) ?_
      rw [List.map_map]; rfl
  generalize ms = ms at hms hms2
  refine Tr.step (Sx.assign (Ev.call (Ev.glob K.g2) K.text.callee (EvL.cons hms2 EvL.nil) ((text05_fn (n := 30) K.text K.B (by omega)).mono (by decide))) (.inl rfl)) ?_
  have htl : (text05 ms).length ≤ 1000 := by have := text05_len ms; omega
  have htf := text05_free ms
  generalize text05 ms = t at htl htf
  refine Tr.step (Sx.assign (d := sd marks) Ev.lit (.inl rfl)) ?_
  refine Tr.step (Sx.assign (d := .list ((List.range 5).map handD)) (Ev.list ?_ (by rw [List.length_map]; decide)) (.inl rfl)) ?_
  · refine EvL.cons (Ev.tuple (EvL.cons (Ev.glob K.E.gcc) (EvL.cons Ev.lit EvL.nil)) (by show 2 ≤ sizeLine; decide)) ?_
    refine EvL.cons (Ev.tuple (EvL.cons (Ev.glob K.E.gcd) (EvL.cons Ev.lit EvL.nil)) (by show 2 ≤ sizeLine; decide)) ?_
    refine EvL.cons (Ev.tuple (EvL.cons (Ev.glob K.E.gat) (EvL.cons Ev.lit EvL.nil)) (by show 2 ≤ sizeLine; decide)) ?_
    refine EvL.cons (Ev.tuple (EvL.cons (Ev.glob K.E.ght) (EvL.cons Ev.lit EvL.nil)) (by show 2 ≤ sizeLine; decide)) ?_
    refine EvL.cons (Ev.tuple (EvL.cons (Ev.glob K.E.gac) (EvL.cons Ev.lit EvL.nil)) (by show 2 ≤ sizeLine; decide)) ?_
    exact EvL.nil
  let σ : List Nat → Sto := fun _ => [("text", .val (sd t)), ("marks", .val (sd marks)), ("hands", .val (.list ((List.range 5).map handD)))]
  refine Tr.cons (P₁ := fun af ρ => af = .next ∧ ρ = σ (List.range 5)) (Sx.forS (g := handD) (xs := List.range 5) σ (d₀ := .list ((List.range 5).map handD)) (Ev.name rfl) IterR.list (.cons rfl (.cons rfl (.cons rfl .nil))) ?_ ⟨rfl, rfl⟩) ?_ (fun _ _ h q => absurd q.1 h)
  · intro dn i rst ed
    have hi : i < 5 := List.mem_range.mp (ed ▸ List.mem_append_right _ (.head _))
    have hw3 := wt_len i
    refine ⟨_, TgtG.tuple (.cons rfl (TgtG.name (.inr ⟨rfl, rfl⟩)) (.cons rfl (TgtG.name (.inr ⟨rfl, rfl⟩)) .nil)), ?_⟩
    refine Tr.step (Sx.assign (Ev.name rfl) (.inl rfl)) ?_
    let τ : List Nat → Sto := fun done => [("covered", .val (sd (covF (wt i) done t))), ("white", .val (sd (wt i))), ("escape", .val (.val (.ref (handA.getD (hd i) 0)))), ("text", .val (sd t)), ("marks", .val (sd marks)), ("hands", .val (.list ((List.range 5).map handD)))]
    refine Tr.cons (P₁ := fun af ρ => af = .next ∧ ρ = τ (List.range (wt i).length)) (Sx.forS (g := fun k : Nat => D.int k) (xs := List.range (wt i).length) τ (d₀ := .range 0 ((wt i).length : Nat) 1)
      (Ev.call (Ev.blt K.B.range.1 K.B.range.2) (.type _) (EvL.cons (Ev.call (Ev.blt K.B.len.1 K.B.len.2) (.builtin _) (EvL.cons (Ev.name rfl) EvL.nil) (FnR.lenS (by omega))) EvL.nil) FnR.range1) (IterR.range0 (by omega)) (.cons rfl (.cons rfl (.cons rfl (.cons rfl (.cons rfl (.cons rfl .nil)))))) ?_ ⟨rfl, rfl⟩) ?_ (fun _ _ h q => absurd q.1 h)
    · intro done p rest e
      have hp : p < (wt i).length := by
        have : p ∈ List.range (wt i).length := by rw [e]; simp
        exact List.mem_range.mp this
      refine ⟨_, TgtG.name (.inl rfl), ?_⟩
      refine Tr.last (Sx.mono (Sx.assign (Ev.replaceF (Ev.name rfl) (EvFr.sub (Ev.name rfl) (Ev.name rfl) (by omega) (by rw [Int.toNat_natCast]; exact wt_at hp) (by omega)) (EvFr.sub (Ev.name rfl) (Ev.name rfl) (by omega) (by rw [Int.toNat_natCast]; exact marks_at (by omega)) (by omega)) (wt_marks hp (by omega)) (by rw [covF_len]; omega)) (.inl rfl)) ?_)
      rintro _ _ ⟨rfl, rfl⟩
      show SubS (τ (done ++ [p])) _
      refine .cons ?_ (.cons rfl (.cons rfl (.cons rfl (.cons rfl (.cons rfl .nil)))))
      show some _ = some _
      unfold covF; rw [List.foldl_append]; rfl
    rintro _ ⟨_, rfl⟩
    have hcl := covF_len (wt i) (List.range (wt i).length) t
    have hca := covF_all i t
    have hlw := law_words hi htf
    have hll := fun k => law_lines k hi htf
    have hls := law_strip hi htf
    show Tr c 39 (scAt p05 10) (("covered", .val (sd (covF (wt i) (List.range (wt i).length) t))) :: ("white", .val (sd (wt i))) :: ("escape", .val (.val (.ref (handA.getD (hd i) 0)))) :: ("text", .val (sd t)) :: ("marks", .val (sd marks)) :: ("hands", .val (.list ((List.range 5).map handD))) :: []) _ _
    rw [hca] at hcl ⊢
    refine Tr.step (Sx.assign (Ev.call (Ev.name rfl) (hand_callee K.E (hd_lt hi)) (EvL.cons (Ev.name rfl) EvL.nil) ((write_fn (n := 30) K.E hi (by omega)).mono (by decide))) (.inl rfl)) ?_
    have hwl := writeL_len i t
    have hwc := wgo_count (coverL i t) none
    have hlc := fun k => lgo_count k (coverL i t) false []
    have hwz := fun w (h : w ∈ wordsL (coverL i t)) => wgo_len (coverL i t) none w h
    have hlz := fun k w (h : w ∈ linesL k (coverL i t)) => lgo_len k (coverL i t) false [] w h
    have hsz := strip_len (coverL i t)
    generalize coverL i t = cv at hcl hlw hll hls hwc hlc hwz hlz hsz
    generalize writeL i t = wr at hlw hll hls hwl
    have one : ∀ (l : List Nat) {sc : Scope} {ρ : Sto} {k : Bool} {e1 e2 : Expr} {p1 p2 pe pa : Pos}, l.length ≤ 10000 → Ev c 39 sc true ρ (.Name (Str.ofString "escape") pe) (.val (.ref (handA.getD (hd i) 0))) → Ev c 39 sc true ρ (.Name (Str.ofString "_law_bare") pa) (.val (.ref 63)) → Ev c 39 sc k ρ e1 (sd l) → Ev c 39 sc k ρ e2 (sd (wt i)) → plainE e1 = true → plainE e2 = true →
        Ev c 39 sc k ρ (.Call (.Name (Str.ofString "escape") pe) [.Call (.Name (Str.ofString "_law_bare") pa) [e1, e2] [] p1] [] p2) (sd (writeL i (bareL (wt i) l))) := fun l sc ρ k e1 e2 p1 p2 pe pa hz h1 h2 h3 h4 q1 q2 =>
      Ev.call h1 (hand_callee K.E (hd_lt hi)) (EvL.cons (Ev.call h2 K.bare.callee (EvL.cons h3 (EvL.cons h4 EvL.nil q2) q1) ((bare05_fn (n := 30) K.bare K.B (by omega)).mono (by decide)) (hp := by simp [q1, q2])) EvL.nil) ((write_fn (n := 30) K.E hi (by rw [bareL_len]; omega)).mono (by decide))
    refine Tr.cons (P₁ := fun af ρ => af = .next ∧ ρ = _) (Sx.ite (b := false) (Tst.to (Tst.cmp (Ev.meth (Ev.name rfl) rfl PySem.F.plainAttrs_str PySem.F.slot_str_split PySem.F.type_str_split EvL.nil (FnR.split0 (by omega)))
      (Ev.to (Ev.compM (g := sd) (ds := wordsL cv) (fun w => sd (writeL i (bareL (wt i) w))) [("escape", .val (.val (.ref (handA.getD (hd i) 0)))), ("white", .val (sd (wt i)))] (Ev.meth (Ev.name rfl) rfl PySem.F.plainAttrs_str PySem.F.slot_str_split PySem.F.type_str_split EvL.nil (FnR.split0 (by omega))) IterR.list (Capt.of (.cons rfl rfl (by decide) (.cons rfl rfl (by decide) .nil)) rfl) (by unfold wordsL; omega)
        fun w hw => ⟨_, TgtG.name (.inl rfl), (.cons rfl (.cons rfl .nil)), one w (by have := hwz w hw; simp at this; omega) (Ev.name rfl) (Ev.glob K.g1) (Ev.name rfl) (Ev.name rfl) rfl rfl⟩) (d' := .list (((wordsL cv).map fun w => writeL i (bareL (wt i) w)).map sd)) (by rw [List.map_map]; rfl)) CmpR.neLS) (decide_eq_false (fun q => q hlw))) (fun q => nomatch q) fun _ => Tr.nil ⟨rfl, rfl⟩) ?_ (fun _ _ h q => absurd q.1 h)
    rintro _ ⟨_, rfl⟩
    refine Tr.cons (P₁ := fun af ρ => af = .next ∧ ρ = _) (Sx.ite (b := false) (Tst.to (Tst.cmp (Ev.meth (Ev.name rfl) rfl PySem.F.plainAttrs_str PySem.F.slot_str_splitlines PySem.F.type_str_splitlines EvL.nil (FnR.lines (by omega)))
      (Ev.to (Ev.compM (g := sd) (ds := linesL false cv) (fun w => sd (writeL i (bareL (wt i) w))) [("escape", .val (.val (.ref (handA.getD (hd i) 0)))), ("white", .val (sd (wt i)))] (Ev.meth (Ev.name rfl) rfl PySem.F.plainAttrs_str PySem.F.slot_str_splitlines PySem.F.type_str_splitlines EvL.nil (FnR.lines (by omega))) IterR.list (Capt.of (.cons rfl rfl (by decide) (.cons rfl rfl (by decide) .nil)) rfl) (by have := hlc false; unfold linesL; omega)
        fun w hw => ⟨_, TgtG.name (.inl rfl), (.cons rfl (.cons rfl .nil)), one w (by have := hlz false w hw; simp at this; omega) (Ev.name rfl) (Ev.glob K.g1) (Ev.name rfl) (Ev.name rfl) rfl rfl⟩) (d' := .list (((linesL false cv).map fun w => writeL i (bareL (wt i) w)).map sd)) (by rw [List.map_map]; rfl)) CmpR.neLS) (decide_eq_false (fun q => q (hll false)))) (fun q => nomatch q) fun _ => Tr.nil ⟨rfl, rfl⟩) ?_ (fun _ _ h q => absurd q.1 h)
    rintro _ ⟨_, rfl⟩
    refine Tr.cons (P₁ := fun af ρ => af = .next ∧ ρ = _) (Sx.ite (b := false) (Tst.to (Tst.cmp (Ev.meth (Ev.name rfl) rfl PySem.F.plainAttrs_str PySem.F.slot_str_splitlines PySem.F.type_str_splitlines (EvL.cons Ev.bool EvL.nil) (FnR.linesK (by omega)))
      (Ev.to (Ev.compM (g := sd) (ds := linesL true cv) (fun w => sd (writeL i (bareL (wt i) w))) [("escape", .val (.val (.ref (handA.getD (hd i) 0)))), ("white", .val (sd (wt i)))] (Ev.meth (Ev.name rfl) rfl PySem.F.plainAttrs_str PySem.F.slot_str_splitlines PySem.F.type_str_splitlines (EvL.cons Ev.bool EvL.nil) (FnR.linesK (by omega))) IterR.list (Capt.of (.cons rfl rfl (by decide) (.cons rfl rfl (by decide) .nil)) rfl) (by have := hlc true; unfold linesL; omega)
        fun w hw => ⟨_, TgtG.name (.inl rfl), (.cons rfl (.cons rfl .nil)), one w (by have := hlz true w hw; simp at this; omega) (Ev.name rfl) (Ev.glob K.g1) (Ev.name rfl) (Ev.name rfl) rfl rfl⟩) (d' := .list (((linesL true cv).map fun w => writeL i (bareL (wt i) w)).map sd)) (by rw [List.map_map]; rfl)) CmpR.neLS) (decide_eq_false (fun q => q (hll true)))) (fun q => nomatch q) fun _ => Tr.nil ⟨rfl, rfl⟩) ?_ (fun _ _ h q => absurd q.1 h)
    rintro _ ⟨_, rfl⟩
    refine Tr.last (Sx.ite (b := false) (Tst.to (Tst.cmp (Ev.meth (Ev.name rfl) rfl PySem.F.plainAttrs_str PySem.F.slot_str_strip PySem.F.type_str_strip EvL.nil (FnR.strip (by omega)))
      (one (stripL cv) (by omega) (Ev.name rfl) (Ev.glob K.g1) (Ev.meth (Ev.name rfl) rfl PySem.F.plainAttrs_str PySem.F.slot_str_strip PySem.F.type_str_strip EvL.nil (FnR.strip (by omega))) (Ev.name rfl) rfl rfl) CmpR.neS) (decide_eq_false (fun q => q hls))) (fun q => nomatch q) fun _ => Tr.nil ?_)
    exact .cons rfl (.cons rfl (.cons rfl .nil))
  rintro _ ⟨_, rfl⟩
  exact Tr.last (Sx.ret Ev.bool rfl)
end
end Mine
set_option maxRecDepth 100000 in
set_option maxHeartbeats 8000000 in
theorem PySem.Challenge.cw_dn0276_05_holds : PySem.Challenge.rw_dn0276_05.Holds := by
  w_on
  o_law
  z_head
  (case hw => w_witness2)
  k_fill
  intro w s₀ s₁ mg mb G y fa o pm cd doc dV kV ho hd hcd hD hmg hg args vals as L hpre hlay hrd hwl hlo
  z_open y L KX ZH ZN ZT
  refine Ground.open G ?_
  intro T B D TE TW
  wrow_args hpre hlay hrd hwl hlo
  have hfa : fa = 75 := by
    have := (mg_of (n := Str.ofString "law") (v := .ref 75) KX T.g rfl).symm.trans hmg
    injection this with this
    injection this with this
    exact this.symm
  subst hfa
  refine Mine.head_end T L (by assumption) (by assumption) hg ZT (by decide) ?_
  exact Mine.law05 ⟨⟨(Mine.IsDef.of KX rfl rfl rfl rfl rfl rfl rfl (Mine.bindOne fun v => rfl) (by simp; exact .inl rfl) (by decide) (by decide) rfl rfl rfl rfl), (Mine.IsDef.of KX rfl rfl rfl rfl rfl rfl rfl (Mine.bindOne fun v => rfl) (by simp; exact .inl rfl) (by decide) (by decide) rfl rfl rfl rfl), (Mine.IsDef.of KX rfl rfl rfl rfl rfl rfl rfl (Mine.bindOne fun v => rfl) (by simp; exact .inl rfl) (by decide) (by decide) rfl rfl rfl rfl), (Mine.IsDef.of KX rfl rfl rfl rfl rfl rfl rfl (Mine.bindOne fun v => rfl) (by simp; exact .inl rfl) (by decide) (by decide) rfl rfl rfl rfl), (Mine.IsDef.of KX rfl rfl rfl rfl rfl rfl rfl (Mine.bindOne fun v => rfl) (by simp; exact .inl rfl) (by decide) (by decide) rfl rfl rfl rfl), mg_of KX T.g rfl, mg_of KX T.g rfl, mg_of KX T.g rfl, mg_of KX T.g rfl, mg_of KX T.g rfl⟩, (Mine.IsDef.of KX rfl rfl rfl rfl rfl rfl rfl (Mine.bindTwo fun v w => rfl) (by simp; exact ⟨.inl rfl, .inl rfl⟩) (by decide) (by decide) rfl rfl rfl rfl), (Mine.IsDef.of KX rfl rfl rfl rfl rfl rfl rfl (Mine.bindOne fun v => rfl) (by simp; exact .inl rfl) (by decide) (by decide) rfl rfl rfl rfl), (Mine.IsDef.of KX rfl rfl rfl rfl rfl rfl rfl (Mine.bindOne fun v => rfl) (by simp; exact .inl rfl) (by decide) (by decide) rfl rfl rfl rfl), mg_of KX T.g rfl, mg_of KX T.g rfl, ⟨Mine.blt_of KX T rfl (by decide +kernel) (by decide), Mine.blt_of KX T rfl (by decide +kernel) (by decide), Mine.blt_of KX T rfl (by decide +kernel) (by decide), Mine.blt_of KX T rfl (by decide +kernel) (by decide)⟩⟩ (by omega)
