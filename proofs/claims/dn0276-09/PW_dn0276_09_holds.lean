import PyProof.Rows.All
import Wide.All
import OpenK.AllK
import Wide.FinOn
import KE.KPar
import PyProof.FactsAll.dict
import PyProof.AttrMissHeap
import KE.KTypeOf
import PyProof.ReprDict
import PyProof.ReprReads
import Wide.BytesRules
import PyProof.Rows.SeqMore
import PyProof.Rows.TupMore
import KE.KIsAll
import KE.KIsBytes
import KE.KDictList
import PyProof.EqKinds
import PyProof.Rows.Tup
import PyProof.TupleOfSeq
import PyProof.GenRules
import PyProof.GenObj
import PyProof.Seq
import KE.KRevIter
import KE.KItemsList
import PyProof.FactsAll.set_1
import PyProof.FactsAll.set_2
import PyProof.CollectWalk
import PyProof.Rows.SortShell
import PyProof.DictWalks
import KE.KSetDisp
import KE.KSortKey
import KE.KSortAsk
import PyProof.FactsAll.list_2
import PyProof.MeetsSeq3
import KE.KLam
import PyProof.SliceStr2
import PyProof.SetRoads
import PyProof.SetNew
import PyProof.FactsAll.set_3
import KE.KBoundM
import PyProof.ExcStrAll.TypeError
import PyProof.ExcStrCall
import PyProof.RulesAs
import PySem.Challenge.RW_dn0276_09
open PySem PySem.W PyProof.Rows
set_option Elab.async false
set_option linter.unusedVariables false
namespace Mine
section
section
set_option maxRecDepth 100000
theorem said09 : PySem.Challenge.rw_dn0276_09.wellSaid = true := by kernel_rfl
local macro_rules | `(tactic| k_head) => `(tactic| z_head)
local macro_rules | `(tactic| o_law) => `(tactic| refine holds_law said09 fun said => ?_)
set_option maxHeartbeats 8000000 in
open_top hd for PySem.Challenge.rw_dn0276_09
end
end
set_option maxRecDepth 100000
open PySem.Str renaming ofString -> oS
open PySem renaming wpAny_bind -> wB, wpAny_mono -> wM, wpAny_pure -> wP, wpAny_holding -> wH, wpAny_execs_cons -> wE, wpAny_with_toks -> wT, wpAny_items_cons -> wI, wpAny_items_nil -> wN, wpAny_standAt -> wZ
open _root_.List renaming mem_append_right -> mR, mem_append_left -> mL, mem_singleton -> mSz, mem_cons -> mC, mem_append -> mA, append_assoc -> aA
theorem lt4 {a b c : Nat} (h : a <= b) (e : Nat.ble b c = true) : a <= c := Nat.le_trans h (Nat.le_of_ble_eq_true e)
theorem nos {α : Type _} {a : α} {G : Prop} (h : none = some a) : G := absurd h.symm (Option.some_ne_none _)
theorem son {α : Type _} {a : α} {G : Prop} (h : some a = none) : G := absurd h (Option.some_ne_none _)
local macro_rules | `(tactic| cases $h:ident) => `(tactic| first | exact nos $h | exact son $h | (replace $h := Option.some.inj $h; subst $h) | (replace $h := Value.ref.inj $h; subst $h) | (replace $h := Value.ref.inj (Option.some.inj $h); subst $h) | subst $h | (have h9 := Eq.symm $h; clear h9; refine absurd $h ?_; intro h; contradiction) | cases ($h))
local macro_rules | `(tactic| erw [$h:term]) => `(tactic| refine Eq.symm $h ▸ ?_) | `(tactic| erw [<- $h:term]) => `(tactic| refine $h ▸ ?_) | `(tactic| erw [$r:rwRule, $t:rwRule,*]) => `(tactic| (erw [$r]; erw [$t,*]))
theorem x02 {A B : Prop} {G : Prop} (h : A /\ B) (f : A -> B -> G) : G := by obtain ⟨a0, a1⟩ := h; exact f a0 a1
theorem x03 {A B C : Prop} {G : Prop} (h : A /\ B /\ C) (f : A -> B -> C -> G) : G := by obtain ⟨a0, a1, a2⟩ := h; exact f a0 a1 a2
theorem x04 {A B C D : Prop} {G : Prop} (h : A /\ B /\ C /\ D) (f : A -> B -> C -> D -> G) : G := by obtain ⟨a0, a1, a2, a3⟩ := h; exact f a0 a1 a2 a3
theorem x05 {A B C D E : Prop} {G : Prop} (h : A /\ B /\ C /\ D /\ E) (f : A -> B -> C -> D -> E -> G) : G := by obtain ⟨a0, a1, a2, a3, a4⟩ := h; exact f a0 a1 a2 a3 a4
theorem x12 {α0 : Sort _} {A B : α0 -> Prop} {G : Prop} (h : ∃ x0, A x0 /\ B x0) (f : ∀ x0, A x0 -> B x0 -> G) : G := by obtain ⟨x0, a0, a1⟩ := h; exact f x0 a0 a1
theorem x13 {α0 : Sort _} {A B C : α0 -> Prop} {G : Prop} (h : ∃ x0, A x0 /\ B x0 /\ C x0) (f : ∀ x0, A x0 -> B x0 -> C x0 -> G) : G := by obtain ⟨x0, a0, a1, a2⟩ := h; exact f x0 a0 a1 a2
theorem x14 {α0 : Sort _} {A B C D : α0 -> Prop} {G : Prop} (h : ∃ x0, A x0 /\ B x0 /\ C x0 /\ D x0) (f : ∀ x0, A x0 -> B x0 -> C x0 -> D x0 -> G) : G := by obtain ⟨x0, a0, a1, a2, a3⟩ := h; exact f x0 a0 a1 a2 a3
theorem x21 {α0 : Sort _} {α1 : Sort _} {A : α0 -> α1 -> Prop} {G : Prop} (h : ∃ x0 x1, A x0 x1) (f : ∀ x0 x1, A x0 x1 -> G) : G := by obtain ⟨x0, x1, a0⟩ := h; exact f x0 x1 a0
theorem x22 {α0 : Sort _} {α1 : Sort _} {A B : α0 -> α1 -> Prop} {G : Prop} (h : ∃ x0 x1, A x0 x1 /\ B x0 x1) (f : ∀ x0 x1, A x0 x1 -> B x0 x1 -> G) : G := by obtain ⟨x0, x1, a0, a1⟩ := h; exact f x0 x1 a0 a1
theorem x23 {α0 : Sort _} {α1 : Sort _} {A B C : α0 -> α1 -> Prop} {G : Prop} (h : ∃ x0 x1, A x0 x1 /\ B x0 x1 /\ C x0 x1) (f : ∀ x0 x1, A x0 x1 -> B x0 x1 -> C x0 x1 -> G) : G := by obtain ⟨x0, x1, a0, a1, a2⟩ := h; exact f x0 x1 a0 a1 a2
theorem x24 {α0 : Sort _} {α1 : Sort _} {A B C D : α0 -> α1 -> Prop} {G : Prop} (h : ∃ x0 x1, A x0 x1 /\ B x0 x1 /\ C x0 x1 /\ D x0 x1) (f : ∀ x0 x1, A x0 x1 -> B x0 x1 -> C x0 x1 -> D x0 x1 -> G) : G := by obtain ⟨x0, x1, a0, a1, a2, a3⟩ := h; exact f x0 x1 a0 a1 a2 a3
theorem x25 {α0 : Sort _} {α1 : Sort _} {A B C D E : α0 -> α1 -> Prop} {G : Prop} (h : ∃ x0 x1, A x0 x1 /\ B x0 x1 /\ C x0 x1 /\ D x0 x1 /\ E x0 x1) (f : ∀ x0 x1, A x0 x1 -> B x0 x1 -> C x0 x1 -> D x0 x1 -> E x0 x1 -> G) : G := by obtain ⟨x0, x1, a0, a1, a2, a3, a4⟩ := h; exact f x0 x1 a0 a1 a2 a3 a4
theorem x26 {α0 : Sort _} {α1 : Sort _} {A B C D E F : α0 -> α1 -> Prop} {G : Prop} (h : ∃ x0 x1, A x0 x1 /\ B x0 x1 /\ C x0 x1 /\ D x0 x1 /\ E x0 x1 /\ F x0 x1) (f : ∀ x0 x1, A x0 x1 -> B x0 x1 -> C x0 x1 -> D x0 x1 -> E x0 x1 -> F x0 x1 -> G) : G := by obtain ⟨x0, x1, a0, a1, a2, a3, a4, a5⟩ := h; exact f x0 x1 a0 a1 a2 a3 a4 a5
theorem x32 {α0 : Sort _} {α1 : Sort _} {α2 : Sort _} {A B : α0 -> α1 -> α2 -> Prop} {G : Prop} (h : ∃ x0 x1 x2, A x0 x1 x2 /\ B x0 x1 x2) (f : ∀ x0 x1 x2, A x0 x1 x2 -> B x0 x1 x2 -> G) : G := by obtain ⟨x0, x1, x2, a0, a1⟩ := h; exact f x0 x1 x2 a0 a1
theorem x33 {α0 : Sort _} {α1 : Sort _} {α2 : Sort _} {A B C : α0 -> α1 -> α2 -> Prop} {G : Prop} (h : ∃ x0 x1 x2, A x0 x1 x2 /\ B x0 x1 x2 /\ C x0 x1 x2) (f : ∀ x0 x1 x2, A x0 x1 x2 -> B x0 x1 x2 -> C x0 x1 x2 -> G) : G := by obtain ⟨x0, x1, x2, a0, a1, a2⟩ := h; exact f x0 x1 x2 a0 a1 a2
theorem x34 {α0 : Sort _} {α1 : Sort _} {α2 : Sort _} {A B C D : α0 -> α1 -> α2 -> Prop} {G : Prop} (h : ∃ x0 x1 x2, A x0 x1 x2 /\ B x0 x1 x2 /\ C x0 x1 x2 /\ D x0 x1 x2) (f : ∀ x0 x1 x2, A x0 x1 x2 -> B x0 x1 x2 -> C x0 x1 x2 -> D x0 x1 x2 -> G) : G := by obtain ⟨x0, x1, x2, a0, a1, a2, a3⟩ := h; exact f x0 x1 x2 a0 a1 a2 a3
theorem x35 {α0 : Sort _} {α1 : Sort _} {α2 : Sort _} {A B C D E : α0 -> α1 -> α2 -> Prop} {G : Prop} (h : ∃ x0 x1 x2, A x0 x1 x2 /\ B x0 x1 x2 /\ C x0 x1 x2 /\ D x0 x1 x2 /\ E x0 x1 x2) (f : ∀ x0 x1 x2, A x0 x1 x2 -> B x0 x1 x2 -> C x0 x1 x2 -> D x0 x1 x2 -> E x0 x1 x2 -> G) : G := by obtain ⟨x0, x1, x2, a0, a1, a2, a3, a4⟩ := h; exact f x0 x1 x2 a0 a1 a2 a3 a4
theorem x36 {α0 : Sort _} {α1 : Sort _} {α2 : Sort _} {A B C D E F : α0 -> α1 -> α2 -> Prop} {G : Prop} (h : ∃ x0 x1 x2, A x0 x1 x2 /\ B x0 x1 x2 /\ C x0 x1 x2 /\ D x0 x1 x2 /\ E x0 x1 x2 /\ F x0 x1 x2) (f : ∀ x0 x1 x2, A x0 x1 x2 -> B x0 x1 x2 -> C x0 x1 x2 -> D x0 x1 x2 -> E x0 x1 x2 -> F x0 x1 x2 -> G) : G := by obtain ⟨x0, x1, x2, a0, a1, a2, a3, a4, a5⟩ := h; exact f x0 x1 x2 a0 a1 a2 a3 a4 a5
theorem x41 {α0 : Sort _} {α1 : Sort _} {α2 : Sort _} {α3 : Sort _} {A : α0 -> α1 -> α2 -> α3 -> Prop} {G : Prop} (h : ∃ x0 x1 x2 x3, A x0 x1 x2 x3) (f : ∀ x0 x1 x2 x3, A x0 x1 x2 x3 -> G) : G := by obtain ⟨x0, x1, x2, x3, a0⟩ := h; exact f x0 x1 x2 x3 a0
theorem x42 {α0 : Sort _} {α1 : Sort _} {α2 : Sort _} {α3 : Sort _} {A B : α0 -> α1 -> α2 -> α3 -> Prop} {G : Prop} (h : ∃ x0 x1 x2 x3, A x0 x1 x2 x3 /\ B x0 x1 x2 x3) (f : ∀ x0 x1 x2 x3, A x0 x1 x2 x3 -> B x0 x1 x2 x3 -> G) : G := by obtain ⟨x0, x1, x2, x3, a0, a1⟩ := h; exact f x0 x1 x2 x3 a0 a1
theorem x43 {α0 : Sort _} {α1 : Sort _} {α2 : Sort _} {α3 : Sort _} {A B C : α0 -> α1 -> α2 -> α3 -> Prop} {G : Prop} (h : ∃ x0 x1 x2 x3, A x0 x1 x2 x3 /\ B x0 x1 x2 x3 /\ C x0 x1 x2 x3) (f : ∀ x0 x1 x2 x3, A x0 x1 x2 x3 -> B x0 x1 x2 x3 -> C x0 x1 x2 x3 -> G) : G := by obtain ⟨x0, x1, x2, x3, a0, a1, a2⟩ := h; exact f x0 x1 x2 x3 a0 a1 a2
theorem x44 {α0 : Sort _} {α1 : Sort _} {α2 : Sort _} {α3 : Sort _} {A B C D : α0 -> α1 -> α2 -> α3 -> Prop} {G : Prop} (h : ∃ x0 x1 x2 x3, A x0 x1 x2 x3 /\ B x0 x1 x2 x3 /\ C x0 x1 x2 x3 /\ D x0 x1 x2 x3) (f : ∀ x0 x1 x2 x3, A x0 x1 x2 x3 -> B x0 x1 x2 x3 -> C x0 x1 x2 x3 -> D x0 x1 x2 x3 -> G) : G := by obtain ⟨x0, x1, x2, x3, a0, a1, a2, a3⟩ := h; exact f x0 x1 x2 x3 a0 a1 a2 a3
theorem x52 {α0 : Sort _} {α1 : Sort _} {α2 : Sort _} {α3 : Sort _} {α4 : Sort _} {A B : α0 -> α1 -> α2 -> α3 -> α4 -> Prop} {G : Prop} (h : ∃ x0 x1 x2 x3 x4, A x0 x1 x2 x3 x4 /\ B x0 x1 x2 x3 x4) (f : ∀ x0 x1 x2 x3 x4, A x0 x1 x2 x3 x4 -> B x0 x1 x2 x3 x4 -> G) : G := by obtain ⟨x0, x1, x2, x3, x4, a0, a1⟩ := h; exact f x0 x1 x2 x3 x4 a0 a1
theorem x56 {α0 : Sort _} {α1 : Sort _} {α2 : Sort _} {α3 : Sort _} {α4 : Sort _} {A B C D E F : α0 -> α1 -> α2 -> α3 -> α4 -> Prop} {G : Prop} (h : ∃ x0 x1 x2 x3 x4, A x0 x1 x2 x3 x4 /\ B x0 x1 x2 x3 x4 /\ C x0 x1 x2 x3 x4 /\ D x0 x1 x2 x3 x4 /\ E x0 x1 x2 x3 x4 /\ F x0 x1 x2 x3 x4) (f : ∀ x0 x1 x2 x3 x4, A x0 x1 x2 x3 x4 -> B x0 x1 x2 x3 x4 -> C x0 x1 x2 x3 x4 -> D x0 x1 x2 x3 x4 -> E x0 x1 x2 x3 x4 -> F x0 x1 x2 x3 x4 -> G) : G := by obtain ⟨x0, x1, x2, x3, x4, a0, a1, a2, a3, a4, a5⟩ := h; exact f x0 x1 x2 x3 x4 a0 a1 a2 a3 a4 a5
theorem x59 {α0 : Sort _} {α1 : Sort _} {α2 : Sort _} {α3 : Sort _} {α4 : Sort _} {A B C D E F H I J : α0 -> α1 -> α2 -> α3 -> α4 -> Prop} {G : Prop} (h : ∃ x0 x1 x2 x3 x4, A x0 x1 x2 x3 x4 /\ B x0 x1 x2 x3 x4 /\ C x0 x1 x2 x3 x4 /\ D x0 x1 x2 x3 x4 /\ E x0 x1 x2 x3 x4 /\ F x0 x1 x2 x3 x4 /\ H x0 x1 x2 x3 x4 /\ I x0 x1 x2 x3 x4 /\ J x0 x1 x2 x3 x4) (f : ∀ x0 x1 x2 x3 x4, A x0 x1 x2 x3 x4 -> B x0 x1 x2 x3 x4 -> C x0 x1 x2 x3 x4 -> D x0 x1 x2 x3 x4 -> E x0 x1 x2 x3 x4 -> F x0 x1 x2 x3 x4 -> H x0 x1 x2 x3 x4 -> I x0 x1 x2 x3 x4 -> J x0 x1 x2 x3 x4 -> G) : G := by obtain ⟨x0, x1, x2, x3, x4, a0, a1, a2, a3, a4, a5, a6, a7, a8⟩ := h; exact f x0 x1 x2 x3 x4 a0 a1 a2 a3 a4 a5 a6 a7 a8
theorem x61 {α0 : Sort _} {α1 : Sort _} {α2 : Sort _} {α3 : Sort _} {α4 : Sort _} {α5 : Sort _} {A : α0 -> α1 -> α2 -> α3 -> α4 -> α5 -> Prop} {G : Prop} (h : ∃ x0 x1 x2 x3 x4 x5, A x0 x1 x2 x3 x4 x5) (f : ∀ x0 x1 x2 x3 x4 x5, A x0 x1 x2 x3 x4 x5 -> G) : G := by obtain ⟨x0, x1, x2, x3, x4, x5, a0⟩ := h; exact f x0 x1 x2 x3 x4 x5 a0
noncomputable abbrev S (l : List Nat) : Str := ⟨l.toArray⟩
theorem obj_eq {o : Obj} {cl : Value} {dt : Data} (h1 : o.cls = cl) (h2 : o.dict = none /\ o.slots = #[]) (h3 : o.data = dt) : o = { cls := cl, data := dt } := by
 obtain ⟨a, b, d, e⟩ := o
 simp only at h1 h2 h3
 rw [h1, h2.1, h2.2, h3]
theorem hideG {G : Prop} (f : ∀ P : Prop, (G -> P) -> P) : G := f G id
theorem hideE {M : Model} {A : Around} {α : Type} {m : Sem α} {Q : α -> Shared -> Prop} {E : Value -> Shared -> Prop} {s : Shared} (h : ∀ E' : Value -> Shared -> Prop, (∀ e s', E e s' -> E' e s') -> wpAny M A m Q E' s) : wpAny M A m Q E s := h E fun _ _ q => q
theorem hideQ {M : Model} {A : Around} {α : Type} {m : Sem α} {Q : α -> Shared -> Prop} {E : Value -> Shared -> Prop} {s : Shared} (h : ∀ Q' : α -> Shared -> Prop, (∀ v s', Q v s' -> Q' v s') -> wpAny M A m Q' E s) : wpAny M A m Q E s := h Q fun _ _ q => q
inductive D where
 | none
 | bool (b : Bool)
 | int (i : Int)
 | str (x : Str)
 | bytes (b : List Nat)
 | val (v : Value)
 | range (a b st : Int)
 | list (xs : List D)
 | tuple (xs : List D)
 | dict (kvs : List (List Nat × D))
 deriving Inhabited
structure Cx where
 prog : Program
 w : World
 base : Heap
 mg : Str -> Option Value
 mb : Str -> Option Value
 lsc : Scope -> Prop
 hn : Prop
 gn : Prop
noncomputable abbrev Cx.M (c : Cx) : Model := model c.prog c.w
noncomputable def Keeps (h h' : Heap) : Prop := ∀ b o, h.get? b = some o -> h'.get? b = some o
theorem Keeps.refl (h : Heap) : Keeps h h := fun _ _ e => e
theorem Keeps.trans {h h' h'' : Heap} (a : Keeps h h') (b : Keeps h' h'') : Keeps h h'' := fun x o e => b x o (a x o e)
structure Cx.Good (c : Cx) : Prop where
 g : c.base.Ns mainGlobals c.mg
 b : c.base.Ns builtinsNs c.mb
 lim : c.base.NoLimit
structure GUp (g' g : Array GenState) : Prop where
 ex : ∃ l : List GenState, (∀ y ∈ l, y.bare = true) /\ g'.toList = g.toList ++ l
theorem GUp.rfl {g : Array GenState} : GUp g g := ⟨[], fun _ h => (nomatch h), (List.append_nil _).symm⟩
theorem GUp.of {g' g : Array GenState} (h : g' = g) : GUp g' g := h ▸ .rfl
theorem GUp.trans {a b d : Array GenState} (x : GUp a b) (y : GUp b d) : GUp a d := by
 obtain ⟨l, h1, h2⟩ := x
 obtain ⟨l', h3, h4⟩ := y
 exact ⟨l' ++ l, fun z hz => (mA.mp hz).elim (h3 z) (h1 z), by rw [h2, h4, aA]⟩
theorem GUp.bare {g' g : Array GenState} (x : GUp g' g) (h : g = #[]) : AllBare g' := by
 obtain ⟨l, h1, h2⟩ := x
 subst h
 exact fun y hy => h1 y (by have := Array.mem_toList_iff.mpr hy; rw [h2] at this; simpa using this)
structure Gr (s s' : Shared) : Prop where
 keep : Keeps s.heap s'.heap
 tok : s.toks <= s'.toks
 gens : GUp s'.gens s.gens
 os : s'.os = s.os
theorem Gr.refl (s : Shared) : Gr s s := ⟨Keeps.refl _, Nat.le_refl _, .rfl, rfl⟩
theorem Gr.trans {s s' s'' : Shared} (a : Gr s s') (b : Gr s' s'') : Gr s s'' :=
 ⟨a.keep.trans b.keep, Nat.le_trans a.tok b.tok, b.gens.trans a.gens, b.os.trans a.os⟩
theorem Gr.toks {s : Shared} {k : Nat} (h : s.toks <= k) : Gr s { s with toks := k } := ⟨Keeps.refl _, h, .rfl, rfl⟩
theorem Gr.push {s : Shared} (o : Obj) : Gr s { s with heap := s.heap.push o } :=
 ⟨fun _ _ e => Heap.get?_push_of_some o e, Nat.le_refl _, .rfl, rfl⟩
noncomputable abbrev Vol0 : Addr -> Prop := fun _ => False
noncomputable def NsK (h : Heap) (a : Addr) (m : Str -> Option Value) (k : Nat) : Prop :=
 ∃ es ep, h.get? a = some { cls := .type "dict", data := .dict es ep } /\ StrKeys es /\ (∀ name, nsFind es name = m name) /\ es.size <= k
mutual
inductive Rep (c : Cx) (V : Addr -> Prop) (s : Shared) : D -> Value -> Prop
 | none : Rep c V s .none .none
 | bool (b) : Rep c V s (.bool b) (.bool b)
 | int (i t) : Rep c V s (.int i) (.int i t)
 | str (x t) : Rep c V s (.str x) (.str x t)
 | bytes (b t) : Rep c V s (.bytes b) (.bytes (b.map UInt8.ofNat).toArray t)
 | val (v) : Rep c V s (.val v) v
 | range {r a b st t u v} : ¬ V r -> IsRange s.heap r a b st t u v -> Rep c V s (.range a b st) (.ref r)
 | list {a o vs n ds} : ¬ V a -> s.heap.get? a = some o -> o.cls = .type "list" -> (o.dict = Option.none /\ o.slots = #[]) -> o.data = .seq vs n -> RepL c V s ds vs.toList ->
  Rep c V s (.list ds) (.ref a)
 | tuple {a o vs n ds} : ¬ V a -> s.heap.get? a = some o -> o.cls = .type "tuple" -> (o.dict = Option.none /\ o.slots = #[]) -> o.data = .seq vs n -> RepL c V s ds vs.toList ->
  Rep c V s (.tuple ds) (.ref a)
 | dict {a o es n kvs} : ¬ V a -> (a == sysModules) = false -> s.heap.get? a = some o -> o.ExactDict -> o.data = .dict es n -> RepD c V s kvs es.toList ->
  Rep c V s (.dict kvs) (.ref a)
inductive RepL (c : Cx) (V : Addr -> Prop) (s : Shared) : List D -> List Value -> Prop
 | nil : RepL c V s [] []
 | cons {d v ds vs} : Rep c V s d v -> RepL c V s ds vs -> RepL c V s (d :: ds) (v :: vs)
inductive RepD (c : Cx) (V : Addr -> Prop) (s : Shared) : List (List Nat × D) -> List DictEntry -> Prop
 | nil : RepD c V s [] []
 | cons {k d t e kvs es} : e.key = .str (S k) t -> e.hash = hashStr c.w (S k) -> Rep c V s d e.val ->
  RepD c V s kvs es -> RepD c V s ((k, d) :: kvs) (e :: es)
end
inductive SeqR (c : Cx) (V : Addr -> Prop) (s : Shared) (T : String) (ds : List D) (v : Value) : Prop
 | mk (a : Addr) (o : Obj) (vs : Array Value) (n : Nat) (e : v = .ref a) (na : ¬ V a) (ho : s.heap.get? a = some o) (hcl : o.cls = .type T) (hd : o.dict = Option.none /\ o.slots = #[]) (hdt : o.data = .seq vs n) (r : RepL c V s ds vs.toList) : SeqR c V s T ds v
inductive DictR (c : Cx) (V : Addr -> Prop) (s : Shared) (kvs : List (List Nat × D)) (v : Value) : Prop
 | mk (a : Addr) (o : Obj) (es : Array DictEntry) (n : Nat) (e : v = .ref a) (na : ¬ V a) (hsm : (a == sysModules) = false) (ho : s.heap.get? a = some o) (hx : o.ExactDict) (hdt : o.data = .dict es n) (r : RepD c V s kvs es.toList) : DictR c V s kvs v
inductive RangeR (V : Addr -> Prop) (s : Shared) (a b st : Int) (v : Value) : Prop
 | mk (r : Addr) (t u w : Tok) (e : v = .ref r) (na : ¬ V r) (h : IsRange s.heap r a b st t u w) : RangeR V s a b st v
noncomputable def RepInv (c : Cx) (V : Addr -> Prop) (s : Shared) : D -> Value -> Prop
 | .none, v => v = .none
 | .bool b, v => v = .bool b
 | .int i, v => ∃ t, v = .int i t
 | .str x, v => ∃ t, v = .str x t
 | .bytes b, v => ∃ t, v = .bytes (b.map UInt8.ofNat).toArray t
 | .val w, v => v = w
 | .range a b st, v => RangeR V s a b st v
 | .list ds, v => SeqR c V s "list" ds v
 | .tuple ds, v => SeqR c V s "tuple" ds v
 | .dict kvs, v => DictR c V s kvs v
theorem Rep.inv {c : Cx} {V : Addr -> Prop} {s : Shared} {d : D} {v : Value} (r : Rep c V s d v) : RepInv c V s d v := by
 cases r with
 | none => rfl
 | bool => rfl
 | int i t => exact ⟨t, rfl⟩
 | str x t => exact ⟨t, rfl⟩
 | bytes b t => exact ⟨t, rfl⟩
 | val => rfl
 | range na h => exact ⟨_, _, _, _, rfl, na, h⟩
 | list na ho hcl hd hdt r => exact ⟨_, _, _, _, rfl, na, ho, hcl, hd, hdt, r⟩
 | tuple na ho hcl hd hdt r => exact ⟨_, _, _, _, rfl, na, ho, hcl, hd, hdt, r⟩
 | dict na hsm ho hx hdt r => exact ⟨_, _, _, _, rfl, na, hsm, ho, hx, hdt, r⟩
noncomputable abbrev Shp (o : Obj) : Prop := (∃ xs n, o.data = .seq xs n) \/ (∃ es n, o.data = .dict es n) \/ (o.cls = .type "range" /\ ∃ vs i t, o.data = .fields vs /\ vs[1]? = some (.int i t))
noncomputable def Calm (V : Addr -> Prop) (s s' : Shared) : Prop := s.toks <= s'.toks /\ ∀ b o, ¬ V b -> s.heap.get? b = some o -> Shp o -> s'.heap.get? b = some o
theorem RepL.mapA {c c' : Cx} {V V' : Addr -> Prop} {s s' : Shared} (hw : c.w = c'.w) (hn : ∀ a o, ¬ V a -> s.heap.get? a = some o -> Shp o -> ¬ V' a /\ s'.heap.get? a = some o) {ds : List D} {vs : List Value} (r : RepL c V s ds vs) : RepL c' V' s' ds vs := by
 refine RepL.rec (motive_1 := fun d v _ => Rep c' V' s' d v) (motive_2 := fun d v _ => RepL c' V' s' d v) (motive_3 := fun d v _ => RepD c' V' s' d v)
  .none .bool .int .str .bytes .val ?_ ?_ ?_ ?_ .nil (fun _ _ => .cons) .nil (fun hk hh _ _ => .cons hk (hw ▸ hh)) r
 · exact fun na h => have q := hn _ _ na h (.inr (.inr ⟨rfl, _, _, _, rfl, rfl⟩)); .range q.1 q.2
 · exact fun na ho hcl hd hdt _ r => have q := hn _ _ na ho (.inl ⟨_, _, hdt⟩); .list q.1 q.2 hcl hd hdt r
 · exact fun na ho hcl hd hdt _ r => have q := hn _ _ na ho (.inl ⟨_, _, hdt⟩); .tuple q.1 q.2 hcl hd hdt r
 · exact fun na hsm ho hx hdt _ r => have q := hn _ _ na ho (.inr (.inl ⟨_, _, hdt⟩)); .dict q.1 hsm q.2 hx hdt r
theorem RepL.o0 {c V s vs} (r : RepL c V s [] vs) : vs = [] := by cases r; rfl
theorem RepL.oc {c V s d ds vs} (r : RepL c V s (d :: ds) vs) : ∃ v vs', vs = v :: vs' /\ Rep c V s d v /\ RepL c V s ds vs' := by
 cases r with
 | cons r rs => exact ⟨_, _, rfl, r, rs⟩
theorem RepL.o1 {c V s d vs} (r : RepL c V s [d] vs) : ∃ v, vs = [v] /\ Rep c V s d v :=
 let ⟨v, _, e, r, rs⟩ := r.oc; ⟨v, by rw [e, rs.o0], r⟩
theorem RepL.o2 {c V s d e vs} (r : RepL c V s [d, e] vs) : ∃ v w, vs = [v, w] /\ Rep c V s d v /\ Rep c V s e w :=
 let ⟨v, _, e, r, rs⟩ := r.oc; let ⟨w, e', r'⟩ := rs.o1; ⟨v, w, by rw [e, e'], r, r'⟩
theorem RepL.o3 {c V s d e f vs} (r : RepL c V s [d, e, f] vs) : ∃ v w x, vs = [v, w, x] /\ Rep c V s d v /\ Rep c V s e w /\ Rep c V s f x :=
 let ⟨v, _, e, r, rs⟩ := r.oc; let ⟨w, x, e', r', r''⟩ := rs.o2; ⟨v, w, x, by rw [e, e'], r, r', r''⟩
theorem RepL.one {c V s d v} (r : RepL c V s [d] [v]) : Rep c V s d v := by cases r; assumption
theorem Rep.mapA {c c' : Cx} {V V' : Addr -> Prop} {s s' : Shared} (hw : c.w = c'.w) (hn : ∀ a o, ¬ V a -> s.heap.get? a = some o -> Shp o -> ¬ V' a /\ s'.heap.get? a = some o) {d : D} {v : Value} (r : Rep c V s d v) : Rep c' V' s' d v := (RepL.mapA hw hn (.cons r .nil)).one
theorem Rep.calm {c : Cx} {V V' : Addr -> Prop} {s s' : Shared} (hc : Calm V s s') (hv : ∀ a, V' a -> V a) {d v} (r : Rep c V s d v) : Rep c V' s' d v := r.mapA rfl fun a o na e sh => ⟨fun q => na (hv a q), hc.2 a o na e sh⟩
theorem RepL.calm {c : Cx} {V V' : Addr -> Prop} {s s' : Shared} (hc : Calm V s s') (hv : ∀ a, V' a -> V a) {d v} (r : RepL c V s d v) : RepL c V' s' d v := r.mapA rfl fun a o na e sh => ⟨fun q => na (hv a q), hc.2 a o na e sh⟩
theorem Gr.calm {s s' : Shared} (g : Gr s s') (V : Addr -> Prop) : Calm V s s' := ⟨g.tok, fun _ _ _ e _ => g.keep _ _ e⟩
theorem Rep.gr {c V s s' d v} (r : Rep c V s d v) (g : Gr s s') : Rep c V s' d v := r.calm (g.calm V) fun _ q => q
theorem RepL.gr {c V s s' d v} (r : RepL c V s d v) (g : Gr s s') : RepL c V s' d v := r.calm (g.calm V) fun _ q => q
theorem Rep.weak {c V V' s d v} (r : Rep c V s d v) (hv : ∀ a, V' a -> V a) : Rep c V' s d v := r.calm (Gr.calm (.refl s) V) hv
theorem RepL.weak {c V V' s d v} (r : RepL c V s d v) (hv : ∀ a, V' a -> V a) : RepL c V' s d v := r.calm (Gr.calm (.refl s) V) hv
theorem RepL.length {c V s} {ds : List D} : ∀ {vs}, RepL c V s ds vs -> ds.length = vs.length := by
 induction ds with
 | nil => intro vs r; cases r; rfl
 | cons d ds ih => intro vs r; cases r with | cons _ r => exact congrArg (· + 1) (ih r)
theorem RepL.append {c V s} {ds' : List D} {vs' : List Value} {ds : List D} : ∀ {vs}, RepL c V s ds vs -> RepL c V s ds' vs' -> RepL c V s (ds ++ ds') (vs ++ vs') := by
 induction ds with
 | nil => intro vs r r'; cases r; exact r'
 | cons d ds ih => intro vs r r'; cases r with | cons a r => exact .cons a (ih r r')
theorem RepL.get {c V s} {d : D} {ds : List D} : ∀ {vs} {i : Nat}, RepL c V s ds vs -> ds[i]? = some d -> ∃ v, vs[i]? = some v /\ Rep c V s d v := by
 induction ds with
 | nil => intro vs i _ e; cases e
 | cons d' ds ih =>
  intro vs i r e
  cases r with
  | cons a r =>
   cases i with
   | zero => cases e; exact ⟨_, rfl, a⟩
   | succ i => have q := ih (i := i) r e; exact q
theorem ofString_inj {x y : String} (h : oS x = oS y) : x = y := by
 rw [Str.ofString_eq_toList, Str.ofString_eq_toList] at h
 injection h with h
 have h2 : x.toList.map Char.toNat = y.toList.map Char.toNat := by
  have := congrArg Array.toList h
  simpa using this
 have inj : ∀ (a b : List Char), a.map Char.toNat = b.map Char.toNat -> a = b := by
  intro a
  induction a with
  | nil => intro b hb; cases b with
   | nil => rfl
   | cons _ _ => simp at hb
  | cons p a ih => intro b hb; cases b with
   | nil => simp at hb
   | cons q b =>
    simp only [List.map_cons, List.cons.injEq] at hb
    rw [ih b hb.2, show p = q from by
     apply Char.ext
     apply UInt32.toNat_inj.mp
     exact hb.1]
 exact String.toList_inj.mp (inj _ _ h2)
structure St (c : Cx) (V : Addr -> Prop) (s : Shared) : Prop where
 good : c.Good
 keep : Keeps c.base s.heap
 tok : s.toks ≠ 0
 live : ∀ a, V a -> ∃ o, s.heap.get? a = some o
theorem St.gr {c V s s'} (h : St c V s) (g : Gr s s') : St c V s' :=
 ⟨h.good, h.keep.trans g.keep, fun e => h.tok (Nat.le_zero.mp (e ▸ g.tok)), fun a q => let ⟨o, e⟩ := h.live a q; ⟨o, g.keep _ _ e⟩⟩
theorem St.weak {c V V' s} (h : St c V s) (hv : ∀ a, V' a -> V a) : St c V' s := ⟨h.good, h.keep, h.tok, fun a q => h.live a (hv a q)⟩
structure Room (c : Cx) (n : Nat) (A : Around) : Prop where
 handled : c.hn -> A.handled = none
 depth : A.depth + n < 900
 units : A.units + 10 * n + 100 < cLine
 guards : ∃ g, A.guards = some g /\ (c.gn -> g = [])
theorem Room.mono {c n m A} (h : Room c n A) (hm : m <= n) : Room c m A := ⟨h.handled, by have := h.depth; omega, by have := h.units; omega, h.guards⟩
theorem Room.deeper {c n A} (h : Room c (n + 1) A) (env : Env) : Room c n (A.deeper env) :=
 ⟨h.handled, by have := h.depth; show A.depth + 1 + n < 900; omega, by have := h.units; show A.units + 3 + 10 * n + 100 < cLine; omega, h.guards⟩
theorem Room.lim {c n A} (h : Room c n A) : A.depth < recursionLimit := by have := h.depth; unfold recursionLimit; omega
structure FnR (c : Cx) (n : Nat) (f : Value) (ds : List D) (d : D) : Prop where
 run : ∀ A V s vs, Room c n A -> St c V s -> RepL c V s ds vs ->
  wpAny c.M A (call f vs) (fun v s' => Gr s s' /\ Rep c V s' d v) (fun _ _ => False) s
structure Res where
 v : Value
 P : List Addr -> Heap -> Prop
 live : ∀ fp h, P fp h -> ∀ a ∈ fp, ∃ o, h.get? a = some o /\ ∀ w, o.data ≠ .cell w
 keep : ∀ fp h h', P fp h -> (∀ a ∈ fp, ∀ o, h.get? a = some o -> h'.get? a = some o) -> P fp h'
inductive Slot where
 | val (d : D)
 | ownO (q : Option Addr) (l : List Slot)
 | res (R : Res)
noncomputable abbrev Slot.own (l : List Slot) : Slot := .ownO .none l
instance : Inhabited Slot := ⟨.val .none⟩
noncomputable abbrev Sto := List (String × Slot)
mutual
inductive RepS (c : Cx) (V : Addr -> Prop) (s : Shared) : Slot -> Value -> List Addr -> Prop
 | val {d v} : Rep c V s d v -> RepS c V s (.val d) v []
 | ownO {q a o vs n sl fp} : (∀ b, q = some b -> b = a) -> s.heap.get? a = some o -> o.cls = .type "list" -> (o.dict = Option.none /\ o.slots = #[]) -> o.data = .seq vs n -> RepSL c V s sl vs.toList fp -> RepS c V s (.ownO q sl) (.ref a) (a :: fp)
 | res {R : Res} {fp} : R.P fp s.heap -> RepS c V s (.res R) R.v fp
inductive RepSL (c : Cx) (V : Addr -> Prop) (s : Shared) : List Slot -> List Value -> List Addr -> Prop
 | nil : RepSL c V s [] [] []
 | cons {sl v fp sls vs fps} : RepS c V s sl v fp -> RepSL c V s sls vs fps -> RepSL c V s (sl :: sls) (v :: vs) (fp ++ fps)
end
theorem RepS.own {c : Cx} {V : Addr -> Prop} {s : Shared} {a : Addr} {o : Obj} {vs : Array Value} {n : Nat} {sl : List Slot} {fp : List Addr} (ho : s.heap.get? a = some o) (hc : o.cls = .type "list") (hd : o.dict = Option.none /\ o.slots = #[]) (hdt : o.data = .seq vs n) (r : RepSL c V s sl vs.toList fp) : RepS c V s (.own sl) (.ref a) (a :: fp) :=
 .ownO (fun _ q => nomatch q) ho hc hd hdt r
inductive OwnR (c : Cx) (V : Addr -> Prop) (s : Shared) (q : Option Addr) (sl : List Slot) (v : Value) (fp : List Addr) : Prop
 | mk (a : Addr) (o : Obj) (vs : Array Value) (n : Nat) (fpi : List Addr) (e : v = .ref a) (ef : fp = a :: fpi) (hq : ∀ b, q = some b -> b = a) (ho : s.heap.get? a = some o) (hcl : o.cls = .type "list") (hd : o.dict = Option.none /\ o.slots = #[]) (hdt : o.data = .seq vs n) (r : RepSL c V s sl vs.toList fpi) : OwnR c V s q sl v fp
noncomputable def RepSInv (c : Cx) (V : Addr -> Prop) (s : Shared) (v : Value) (fp : List Addr) : Slot -> Prop
 | .val d => fp = [] /\ Rep c V s d v
 | .ownO q sl => OwnR c V s q sl v fp
 | .res R => v = R.v /\ R.P fp s.heap
theorem RepS.inv {c : Cx} {V : Addr -> Prop} {s : Shared} {sl : Slot} {v : Value} {fp : List Addr} (r : RepS c V s sl v fp) : RepSInv c V s v fp sl := by
 cases r with
 | val r => exact ⟨rfl, r⟩
 | ownO hq ho hcl hd hdt r => exact ⟨_, _, _, _, _, rfl, rfl, hq, ho, hcl, hd, hdt, r⟩
 | res h => exact ⟨rfl, h⟩
inductive ConsR (c : Cx) (V : Addr -> Prop) (s : Shared) (sl : Slot) (sls : List Slot) (vs : List Value) (fp : List Addr) : Prop
 | mk (v : Value) (vs' : List Value) (fp1 fp2 : List Addr) (e : vs = v :: vs') (ef : fp = fp1 ++ fp2) (r : RepS c V s sl v fp1) (rs : RepSL c V s sls vs' fp2) : ConsR c V s sl sls vs fp
noncomputable def RepSLInv (c : Cx) (V : Addr -> Prop) (s : Shared) (vs : List Value) (fp : List Addr) : List Slot -> Prop
 | [] => vs = [] /\ fp = []
 | sl :: sls => ConsR c V s sl sls vs fp
theorem RepSL.inv {c : Cx} {V : Addr -> Prop} {s : Shared} {sls : List Slot} {vs : List Value} {fp : List Addr} (r : RepSL c V s sls vs fp) : RepSLInv c V s vs fp sls := by
 cases r with
 | nil => exact ⟨rfl, rfl⟩
 | cons r rs => exact ⟨_, _, _, _, rfl, rfl, r, rs⟩
inductive Loc (env : Env) (s : Shared) (m : Str -> Option Value) (x : String) (v : Value) : Prop
 | loc : env.kindOf (oS x) = some .local -> m (oS x) = some v -> Loc env s m x v
 | cell {a o} : (env.kindOf (oS x) = some .cell \/ (env.kindOf (oS x) = some .free /\ x ≠ "__classdict__")) -> env.cells.lookup (oS x) = some a -> s.heap.get? a = some o ->
  o.data = .cell (some v) -> Loc env s m x v
inductive StoR (c : Cx) (env : Env) (V : Addr -> Prop) (s : Shared) (m : Str -> Option Value) : Sto -> List Addr -> Prop
 | nil : StoR c env V s m [] []
 | cons {x sl v fp ρ fps} : Loc env s m x v -> RepS c V s sl v fp -> StoR c env V s m ρ fps -> StoR c env V s m ((x, sl) :: ρ) (fp ++ fps)
noncomputable abbrev Vol (V0 : Addr -> Prop) (X : List Addr) : Addr -> Prop := fun a => V0 a \/ a ∈ X
inductive FSto (c : Cx) (env : Env) (V0 : Addr -> Prop) (Cs : List (Str × Addr)) (X : List Addr) (ρ : Sto) (s : Shared) : Prop
 | mk (m : Str -> Option Value) (fps : List Addr) (ns : s.heap.Ns env.locals m) (hX : X = env.locals :: (Cs.map (·.2) ++ fps)) (nd : X.Nodup) (lv : ∀ a ∈ X, ∃ o, s.heap.get? a = some o) (cl : ∀ p ∈ Cs, ∃ v, s.heap.IsCell p.2 v) (st : StoR c env (Vol V0 X) s m ρ fps) : FSto c env V0 Cs X ρ s
structure Fm (c : Cx) (sc : Scope) (env : Env) (V0 : Addr -> Prop) (h0 : Heap) (Cs : List (Str × Addr)) (X : List Addr) (ρ : Sto) (s : Shared) : Prop where
 good : c.Good
 scope : env.scope = sc
 kind : sc.kind = .function
 globals : env.globals = mainGlobals
 builtins : env.builtins = builtinsNs
 base : Keeps c.base h0
 keep : Keeps h0 s.heap
 tok : s.toks ≠ 0
 live0 : ∀ a, V0 a -> (∃ o, s.heap.get? a = some o) /\ a ∉ X
 ccells : ∀ x, (sc.names.lookup x = some .cell \/ sc.names.lookup x = some .free) -> ∃ a, env.cells.lookup x = some a
 new : ∀ a ∈ X, h0.get? a = none
 cells : ∀ x a, Cs.lookup x = some a -> env.cells.lookup x = some a
 cinj : ∀ x y a, env.cells.lookup x = some a -> env.cells.lookup y = some a -> x = y
 sto : FSto c env V0 Cs X ρ s
noncomputable abbrev VK (k : Bool) (V0 : Addr -> Prop) (X : List Addr) : Addr -> Prop := fun a => k = true /\ Vol V0 X a
structure Ev (c : Cx) (n : Nat) (sc : Scope) (k : Bool) (ρ : Sto) (e : Expr) (d : D) : Prop where
 run : ∀ A env V0 h0 Cs X s, Room c n A -> Fm c sc env V0 h0 Cs X ρ s ->
  wpAny c.M A (eval e env) (fun v s' => Gr s s' /\ Rep c (VK k V0 X) s' d v) (fun _ _ => False) s
section
theorem St.pos {c V s} (h : St c V s) : 0 < s.toks := Nat.pos_of_ne_zero h.tok
theorem wp_end {α : Type} {c : Cx} {A : Around} {t : Sem α} {s : Shared} {P : α -> Shared -> Prop}
 (h : wpAny c.M A t (fun v s' => Keeps s.heap s'.heap /\ s'.gens = s.gens /\ s'.os = s.os /\ (s.toks <= s'.toks -> P v s')) (fun _ _ => False) s) :
 wpAny c.M A t (fun v s' => Gr s s' /\ P v s') (fun _ _ => False) s :=
 wT (Nat.le_refl _) (wM h (fun _ _ q ht => ⟨⟨q.1, ht, .of q.2.1, q.2.2.1⟩, q.2.2.2 ht⟩) fun _ _ q => q.elim)
theorem wp_gr {α : Type} {c : Cx} {A : Around} {t : Sem α} {s s₀ : Shared} {P : α -> Shared -> Prop} (g : Gr s₀ s)
 (h : wpAny c.M A t (fun v s' => Gr s s' /\ P v s') (fun _ _ => False) s) :
 wpAny c.M A t (fun v s' => Gr s₀ s' /\ P v s') (fun _ _ => False) s :=
 wM h (fun _ _ q => ⟨g.trans q.1, q.2⟩) fun _ _ q => q
theorem RepS.map {c c' : Cx} {V V' : Addr -> Prop} {s s' : Shared} (hr : ∀ d v, Rep c V s d v -> Rep c' V' s' d v) {sl v fp} (r : RepS c V s sl v fp) : (∀ a ∈ fp, ∀ o, s.heap.get? a = some o -> s'.heap.get? a = some o) -> RepS c' V' s' sl v fp :=
 RepS.rec (motive_1 := fun sl v fp _ => (∀ a ∈ fp, ∀ o, s.heap.get? a = some o -> s'.heap.get? a = some o) -> RepS c' V' s' sl v fp) (motive_2 := fun sl v fp _ => (∀ a ∈ fp, ∀ o, s.heap.get? a = some o -> s'.heap.get? a = some o) -> RepSL c' V' s' sl v fp)
  (fun r _ => .val (hr _ _ r)) (fun hq ho hcl hd hdt _ r hk => .ownO hq (hk _ (.head _) _ ho) hcl hd hdt (r fun a ha => hk a (.tail _ ha))) (fun hP hk => .res (Res.keep _ _ _ _ hP hk)) (fun _ => .nil)
  (fun _ _ r rs hk => .cons (r fun a ha => hk a (mL _ ha)) (rs fun a ha => hk a (mR _ ha))) r
theorem RepSL.map {c c' : Cx} {V V' : Addr -> Prop} {s s' : Shared} (hr : ∀ d v, Rep c V s d v -> Rep c' V' s' d v) {sl v fp} (r : RepSL c V s sl v fp) : (∀ a ∈ fp, ∀ o, s.heap.get? a = some o -> s'.heap.get? a = some o) -> RepSL c' V' s' sl v fp :=
 RepSL.rec (motive_1 := fun sl v fp _ => (∀ a ∈ fp, ∀ o, s.heap.get? a = some o -> s'.heap.get? a = some o) -> RepS c' V' s' sl v fp) (motive_2 := fun sl v fp _ => (∀ a ∈ fp, ∀ o, s.heap.get? a = some o -> s'.heap.get? a = some o) -> RepSL c' V' s' sl v fp)
  (fun r _ => .val (hr _ _ r)) (fun hq ho hcl hd hdt _ r hk => .ownO hq (hk _ (.head _) _ ho) hcl hd hdt (r fun a ha => hk a (.tail _ ha))) (fun hP hk => .res (Res.keep _ _ _ _ hP hk)) (fun _ => .nil)
  (fun _ _ r rs hk => .cons (r fun a ha => hk a (mL _ ha)) (rs fun a ha => hk a (mR _ ha))) r
theorem RepS.calm {c : Cx} {V V' : Addr -> Prop} {s s' : Shared} (hc : Calm V s s') (hv : ∀ a, V' a -> V a) {sl v fp} (r : RepS c V s sl v fp) : (∀ a ∈ fp, ∀ o, s.heap.get? a = some o -> s'.heap.get? a = some o) -> RepS c V' s' sl v fp := r.map fun _ _ => Rep.calm hc hv
theorem RepSL.calm {c : Cx} {V V' : Addr -> Prop} {s s' : Shared} (hc : Calm V s s') (hv : ∀ a, V' a -> V a) {sl v fp} (r : RepSL c V s sl v fp) : (∀ a ∈ fp, ∀ o, s.heap.get? a = some o -> s'.heap.get? a = some o) -> RepSL c V' s' sl v fp := r.map fun _ _ => Rep.calm hc hv
theorem Loc.calm {env : Env} {s s' : Shared} {m m' : Str -> Option Value} {x : String} {v : Value} (h : Loc env s m x v)
 (hm : env.kindOf (oS x) = some .local -> m' (oS x) = m (oS x)) (hc : ∀ a o w, env.cells.lookup (oS x) = some a -> s.heap.get? a = some o -> o.data = .cell w -> s'.heap.get? a = some o) : Loc env s' m' x v := by
 cases h with
 | loc h1 h2 => exact .loc h1 ((hm h1).trans h2)
 | cell h1 h2 h3 h4 => exact .cell h1 h2 (hc _ _ _ h2 h3 h4) h4
theorem StoR.map {c c' : Cx} {env : Env} {V V' : Addr -> Prop} {s s' : Shared} {m m' : Str -> Option Value} {ρ fps} (h : StoR c env V s m ρ fps) : (∀ p ∈ ρ, ∀ v, Loc env s m p.1 v -> Loc env s' m' p.1 v) ->
 (∀ sl v fp, (∀ a ∈ fp, a ∈ fps) -> RepS c V s sl v fp -> RepS c' V' s' sl v fp) -> StoR c' env V' s' m' ρ fps := by
 induction h with
 | nil => exact fun _ _ => .nil
 | cons l r _ ih => exact fun h1 h2 => .cons (h1 _ (.head _) _ l) (h2 _ _ _ (fun _ => mL _) r) (ih (fun p hp => h1 p (.tail _ hp)) fun sl v fp hf => h2 sl v fp fun a ha => mR _ (hf a ha))
theorem StoR.gr {c : Cx} {env : Env} {V : Addr -> Prop} {s s' : Shared} {m : Str -> Option Value} (g : Gr s s') {ρ fps} (h : StoR c env V s m ρ fps) : StoR c env V s' m ρ fps :=
 h.map (fun _ _ _ l => l.calm (fun _ => rfl) fun _ _ _ _ e _ => g.keep _ _ e) fun _ _ _ _ r => r.calm (g.calm V) (fun _ q => q) fun _ _ _ e => g.keep _ _ e
theorem Fm.gr {c sc env V0 h0 Cs X ρ s s'} (F : Fm c sc env V0 h0 Cs X ρ s) (g : Gr s s') : Fm c sc env V0 h0 Cs X ρ s' :=
 ⟨F.good, F.scope, F.kind, F.globals, F.builtins, F.base, F.keep.trans g.keep, fun e => F.tok (Nat.le_zero.mp (e ▸ g.tok)), fun a q => ⟨let ⟨o, e⟩ := (F.live0 a q).1; ⟨o, g.keep _ _ e⟩, (F.live0 a q).2⟩, F.ccells, F.new, F.cells, F.cinj,
  let ⟨m, fps, h1, h2, h3, h4, h6, h5⟩ := F.sto
  ⟨m, fps, h1.keeps g.keep, h2, h3, fun a ha => let ⟨o, e⟩ := h4 a ha; ⟨o, g.keep _ _ e⟩, fun p hp => let ⟨v, q⟩ := h6 p hp; ⟨v, q.keeps g.keep⟩, h5.gr g⟩⟩
theorem Fm.st {c sc env V0 h0 Cs X ρ s} (F : Fm c sc env V0 h0 Cs X ρ s) (k : Bool) : St c (VK k V0 X) s :=
 ⟨F.good, F.base.trans F.keep, F.tok, fun a q => by
  rcases q.2 with q | q
  · exact (F.live0 a q).1
  · obtain ⟨m, fps, _, _, _, h4, _, _⟩ := F.sto; exact h4 a q⟩
theorem StoR.get {c : Cx} {env : Env} {V : Addr -> Prop} {s : Shared} {m : Str -> Option Value} {x : String} {sl : Slot} {ρ fps} (h : StoR c env V s m ρ fps) : ρ.lookup x = some sl ->
 ∃ v fp, Loc env s m x v /\ RepS c V s sl v fp /\ (∀ a ∈ fp, a ∈ fps) := by
 induction h with
 | nil => intro e; cases e
 | @cons y sl' v fp ρ fps l r rs ih =>
  intro e
  rw [List.lookup_cons] at e
  by_cases hy : x = y
  · subst hy
    rw [beq_self_eq_true] at e
    cases e
    exact ⟨v, fp, l, r, fun a ha => mL _ ha⟩
  · rw [show (x == y) = false from beq_eq_false_iff_ne.mpr hy] at e
    (refine x23 (ih e) ?_; intro v' fp' h1 h2 h3)
    exact ⟨v', fp', h1, h2, fun a ha => mR _ (h3 a ha)⟩
theorem ofString_ne {x y : String} (h : x ≠ y) : (oS x == oS y) = false := by
 rw [beq_eq_false_iff_ne]; exact fun e => h (ofString_inj e)
theorem Loc.load {M : Model} {A : Around} {E : Value -> Shared -> Prop} {env : Env} {s : Shared} {m : Str -> Option Value} {x : String} {v : Value} {Q : Value -> Shared -> Prop}
 (hk : env.scope.kind = .function) (hn : s.heap.Ns env.locals m) (l : Loc env s m x v) (h : Q v s) : wpAny M A (loadName env (oS x)) Q E s := by
 cases l with
 | loc h1 h2 => exact wpAny_loadName_local hk h1 hn h2 h
 | cell h1 h2 h3 h4 =>
  rcases h1 with h1 | ⟨h1, h1'⟩
  · exact wpAny_loadName_cell hk h1 h2 ⟨_, h3, h4⟩ h
  · exact wpAny_loadName_free hk h1 h2 ⟨_, h3, h4⟩ h (ofString_ne h1')
mutual
noncomputable def Slot.d : Slot -> D
 | .val d => d
 | .ownO _ l => .list (Slot.ds l)
 | .res R => .val R.v
noncomputable def Slot.ds : List Slot -> List D
 | [] => []
 | sl :: r => sl.d :: Slot.ds r
end
theorem RepS.freeze {c : Cx} {V W : Addr -> Prop} {s : Shared} {sl v fp} (r : RepS c V s sl v fp) (hw : ∀ a, W a -> V a) : (∀ a ∈ fp, ¬ W a) -> Rep c W s sl.d v :=
 RepS.rec (motive_1 := fun sl v fp _ => (∀ a ∈ fp, ¬ W a) -> Rep c W s sl.d v) (motive_2 := fun sl v fp _ => (∀ a ∈ fp, ¬ W a) -> RepL c W s (Slot.ds sl) v)
  (fun r _ => r.weak hw) (fun _ ho hcl hd hdt _ r hf => .list (hf _ (.head _)) ho hcl hd hdt (r fun a ha => hf a (.tail _ ha))) (fun _ _ => .val _) (fun _ => .nil)
  (fun _ _ r rs hf => .cons (r fun a ha => hf a (mL _ ha)) (rs fun a ha => hf a (mR _ ha))) r
theorem RepS.look {c V s} {sl v fp} (r : RepS c V s sl v fp) : Rep c Vol0 s sl.d v := r.freeze (fun _ q => q.elim) fun _ _ q => q
section
variable {c : Cx} {n : Nat} {sc : Scope} {k : Bool} {ρ : Sto}
theorem Ev.name {x : String} {pos : Pos} {d : D} (h : ρ.lookup x = some (.val d)) (hx : x ≠ "__debug__" := by decide) : Ev c n sc k ρ (.Name (oS x) pos) d := by
 constructor; intro A env V0 h0 Cs X s _ F
 obtain ⟨m, fps, hn, _, _, _, _, hs⟩ := F.sto
 (refine x23 (hs.get h) ?_; intro v fp l r _)
 refine wpAny_Name (l.load (by rw [F.scope]; exact F.kind) hn ⟨.refl s, ?_⟩) (ofString_ne hx)
 exact r.inv.2.weak fun _ q => q.2
theorem Ev.look {x : String} {pos : Pos} {sl : Slot} {d : D} (h : ρ.lookup x = some sl) (hd : sl.d = d) (hx : x ≠ "__debug__" := by decide) : Ev c n sc false ρ (.Name (oS x) pos) d := by
 constructor; intro A env V0 h0 Cs X s _ F
 obtain ⟨m, fps, hn, _, _, _, _, hs⟩ := F.sto
 (refine x23 (hs.get h) ?_; intro v fp l r _)
 refine wpAny_Name (l.load (by rw [F.scope]; exact F.kind) hn ⟨.refl s, ?_⟩) (ofString_ne hx)
 subst hd
 exact r.look.weak fun _ q => nomatch q.1
theorem Ev.weak {e : Expr} {d : D} (h : Ev c n sc true ρ e d) : Ev c n sc k ρ e d := .mk fun A env V0 h0 Cs X s hA F =>
 wM (h.run A env V0 h0 Cs X s hA F) (fun _ _ q => ⟨q.1, q.2.weak fun _ q => ⟨rfl, q.2⟩⟩) fun _ _ q => q
noncomputable def D.flat : D -> Bool
 | .none | .bool _ | .int _ | .str _ | .bytes _ | .val _ => true
 | _ => false
theorem Ev.int {i : Int} {kk : Nat} {pos : Pos} : Ev c n sc k ρ (.Constant (.int i) kk pos) (.int i) := .mk fun A env V0 h0 Cs X s _ _ =>
 wp_end (wpAny_Constant_int ⟨fun _ _ e => e, rfl, rfl, fun _ => .int _ _⟩)
theorem Ev.str {x : Str} {kk : Nat} {pos : Pos} : Ev c n sc k ρ (.Constant (.str x) kk pos) (.str x) := .mk fun A env V0 h0 Cs X s _ _ =>
 wp_end (wpAny_Constant_str ⟨fun _ _ e => e, rfl, rfl, fun _ => .str _ _⟩)
theorem Ev.bool {b : Bool} {kk : Nat} {pos : Pos} : Ev c n sc k ρ (.Constant (.bool b) kk pos) (.bool b) := .mk fun A env V0 h0 Cs X s _ _ =>
 wpAny_Constant_bool ⟨.refl s, .bool _⟩
theorem Ev.none {kk : Nat} {pos : Pos} : Ev c n sc k ρ (.Constant .none kk pos) .none := .mk fun A env V0 h0 Cs X s _ _ =>
 wpAny_Constant_none ⟨.refl s, .none⟩
theorem Ev.glob {x : String} {pos : Pos} {v : Value} (h : c.mg (oS x) = some v) (hk : sc.names.lookup (oS x) = some .globalImplicit := by rfl) (hx : x ≠ "__debug__" := by decide) :
 Ev c n sc k ρ (.Name (oS x) pos) (.val v) := .mk fun A env V0 h0 Cs X s _ F =>
 Calls.Name_function_global (by rw [F.scope]; exact F.kind) (by show env.scope.names.lookup _ = _; rw [F.scope]; exact hk)
  (Calls.loadGlobal_global (by rw [F.globals]; exact (F.good.g.keeps F.base).keeps F.keep) h ⟨.refl s, .val _⟩) (ofString_ne hx)
theorem Ev.blt {x : String} {pos : Pos} {v : Value} (h0 : c.mg (oS x) = Option.none) (h : c.mb (oS x) = some v) (hk : sc.names.lookup (oS x) = some .globalImplicit := by rfl) (hx : x ≠ "__debug__" := by decide) :
 Ev c n sc k ρ (.Name (oS x) pos) (.val v) := .mk fun A env V0 h0' Cs X s _ F =>
 Calls.Name_function_global (by rw [F.scope]; exact F.kind) (by show env.scope.names.lookup _ = _; rw [F.scope]; exact hk)
  (Calls.loadGlobal_builtin (by rw [F.globals]; exact (F.good.g.keeps F.base).keeps F.keep) h0 (by rw [F.builtins]; exact (F.good.b.keeps F.base).keeps F.keep) h ⟨.refl s, .val _⟩) (ofString_ne hx)
noncomputable def BinR (c : Cx) (op : Operator) (d₁ d₂ d : D) : Prop :=
 ∀ A V s v₁ v₂, Room c 0 A -> St c V s -> Rep c V s d₁ v₁ -> Rep c V s d₂ v₂ -> wpAny c.M A (binaryOp op v₁ v₂) (fun v s' => Gr s s' /\ Rep c V s' d v) (fun _ _ => False) s
noncomputable def CmpR (c : Cx) (op : CmpOp) (d₁ d₂ : D) (b : Bool) : Prop :=
 ∀ A V s v₁ v₂, Room c 0 A -> St c V s -> Rep c V s d₁ v₁ -> Rep c V s d₂ v₂ -> wpAny c.M A (compareOp op v₁ v₂) (fun v s' => Gr s s' /\ v = .bool b) (fun _ _ => False) s
noncomputable def ItemR (c : Cx) (d₁ d₂ d : D) : Prop :=
 ∀ A V s v₁ v₂, Room c 0 A -> St c V s -> Rep c V s d₁ v₁ -> Rep c V s d₂ v₂ -> wpAny c.M A (getItem v₁ v₂) (fun v s' => Gr s s' /\ Rep c V s' d v) (fun _ _ => False) s
noncomputable def TruR (c : Cx) (d : D) (b : Bool) : Prop :=
 ∀ A V s v, Room c 0 A -> St c V s -> Rep c V s d v -> wpAny c.M A (truthy v) (fun r s' => Gr s s' /\ r = b) (fun _ _ => False) s
theorem Room.zero {n A} (h : Room c n A) : Room c 0 A := h.mono (Nat.zero_le _)
theorem Ev.bin {l r : Expr} {op : Operator} {pos : Pos} {d₁ d₂ d : D} (h1 : Ev c n sc k ρ l d₁) (h2 : Ev c n sc k ρ r d₂) (h : BinR c op d₁ d₂ d) : Ev c n sc k ρ (.BinOp l op r pos) d :=
 .mk fun A env V0 h0 Cs X s hA F => wpAny_BinOp (wM (h1.run A env V0 h0 Cs X s hA F) (fun v₁ s₁ q₁ => wM (h2.run A env V0 h0 Cs X s₁ hA (F.gr q₁.1)) (fun v₂ s2 q₂ =>
  wp_gr (q₁.1.trans q₂.1) (h A _ s2 v₁ v₂ hA.zero ((F.st k).gr (q₁.1.trans q₂.1)) (q₁.2.gr q₂.1) q₂.2)) fun _ _ q => q) fun _ _ q => q)
theorem Ev.cmp {l r : Expr} {op : CmpOp} {pos : Pos} {d₁ d₂ : D} {b : Bool} (h1 : Ev c n sc false ρ l d₁) (h2 : Ev c n sc false ρ r d₂) (h : CmpR c op d₁ d₂ b)
 (hm : behindInMarks op r = false := by with_unfolding_all rfl) : Ev c n sc k ρ (.Compare l [op] [r] pos) (.bool b) :=
 .mk fun A env V0 h0 Cs X s hA F => wpAny_Compare1 (wM (h1.run A env V0 h0 Cs X s hA F) (fun v₁ s₁ q₁ => wM (h2.run A env V0 h0 Cs X s₁ hA (F.gr q₁.1)) (fun v₂ s2 q₂ =>
  wp_gr (q₁.1.trans q₂.1) (wM (h A _ s2 v₁ v₂ hA.zero ((F.st false).gr (q₁.1.trans q₂.1)) (q₁.2.gr q₂.1) q₂.2) (fun v s' q => ⟨q.1, by rw [q.2]; exact .bool b⟩) fun _ _ q => q)) fun _ _ q => q) fun _ _ q => q) hm
structure Tst (c : Cx) (n : Nat) (sc : Scope) (ρ : Sto) (e : Expr) (b : Bool) : Prop where
 run : ∀ A env V0 h0 Cs X s, Room c n A -> Fm c sc env V0 h0 Cs X ρ s ->
  wpAny c.M A (isTrue e env (eval e env)) (fun r s' => Gr s s' /\ r = b) (fun _ _ => False) s
theorem Tst.cmp {l r : Expr} {op : CmpOp} {pos : Pos} {d₁ d₂ : D} {b : Bool} (h1 : Ev c n sc false ρ l d₁) (h2 : Ev c n sc false ρ r d₂) (h : CmpR c op d₁ d₂ b)
 (hm : behindInMarks op r = false := by with_unfolding_all rfl) : Tst c n sc ρ (.Compare l [op] [r] pos) b :=
 .mk fun A env V0 h0 Cs X s hA F => wpAny_isTrue_Compare1 (wM (h1.run A env V0 h0 Cs X s hA F) (fun v₁ s₁ q₁ => wM (h2.run A env V0 h0 Cs X s₁ hA (F.gr q₁.1)) (fun v₂ s2 q₂ =>
  (wM (h A _ s2 v₁ v₂ hA.zero ((F.st false).gr (q₁.1.trans q₂.1)) (q₁.2.gr q₂.1) q₂.2) (fun v s' q => by
   rw [q.2]; exact wpAny_truthy_bool ⟨(q₁.1.trans q₂.1).trans q.1, rfl⟩) fun _ _ q => q)) fun _ _ q => q) fun _ _ q => q) hm
theorem Tst.not {e : Expr} {pos : Pos} {b : Bool} (h : Tst c n sc ρ e b) : Tst c n sc ρ (.UnaryOp .Not e pos) (!b) :=
 .mk fun A env V0 h0 Cs X s hA F => wpAny_isTrue_Not (wM (h.run A env V0 h0 Cs X s hA F) (fun r s' q => ⟨q.1, by rw [q.2]⟩) fun _ _ q => q)
theorem Tst.val {e : Expr} {d : D} {b : Bool} (h : Ev c n sc false ρ e d) (ht : TruR c d b)
 (hw : ∀ env : Env, isTrue e env (eval e env) = (do let v <- eval e env; standAt e.pos; holding [v] (truthy v)) := by intro _; rfl) : Tst c n sc ρ e b :=
 .mk fun A env V0 h0 Cs X s hA F => by
  rw [hw]
  exact wB (wM (h.run A env V0 h0 Cs X s hA F) (fun v s' q => wB (wZ (wH (wp_gr q.1 (ht A _ s' v hA.zero ((F.st false).gr q.1) q.2))))) fun _ _ q => q)
theorem Tst.bin {e : Expr} {b : Bool} (h : Ev c n sc false ρ e (.bool b))
 (hw : ∀ env : Env, isTrue e env (eval e env) = (do let v <- eval e env; standAt e.pos; holding [v] (truthy v)) := by intro _; rfl) : Tst c n sc ρ e b :=
 Tst.val h (fun A V s v _ _ r => by cases r.inv; exact wpAny_truthy_bool ⟨.refl s, rfl⟩) hw
structure Tsts (c : Cx) (n : Nat) (sc : Scope) (ρ : Sto) (op : BoolOp) (es : List Expr) (b : Bool) : Prop where
 run : ∀ A env V0 h0 Cs X s, Room c n A -> Fm c sc env V0 h0 Cs X ρ s ->
  wpAny c.M A (allTrue op es env) (fun r s' => Gr s s' /\ r = b) (fun _ _ => False) s
theorem Tst.boolop {op : BoolOp} {es : List Expr} {pos : Pos} {b : Bool} (h : Tsts c n sc ρ op es b) : Tst c n sc ρ (.BoolOp op es pos) b :=
 .mk fun A env V0 h0 Cs X s hA F => wpAny_isTrue_BoolOp (h.run A env V0 h0 Cs X s hA F)
theorem Ev.ite {t a b : Expr} {pos : Pos} {x : Bool} {d : D} (h : Tst c n sc ρ t x) (ha : x = true -> Ev c n sc k ρ a d) (hb : x = false -> Ev c n sc k ρ b d) : Ev c n sc k ρ (.IfExp t a b pos) d :=
 .mk fun A env V0 h0 Cs X s hA F => wpAny_IfExp (wM (h.run A env V0 h0 Cs X s hA F) (fun r s' q => by
  obtain ⟨g, rfl⟩ := q
  cases r with
  | true => exact wp_gr g ((ha rfl).run A env V0 h0 Cs X s' hA (F.gr g))
  | false => exact wp_gr g ((hb rfl).run A env V0 h0 Cs X s' hA (F.gr g))) fun _ _ q => q)
end
end
section
noncomputable def delS (x : String) : Sto -> Sto
 | [] => []
 | (y, sl) :: r => if y = x then delS x r else (y, sl) :: delS x r
noncomputable def setS (ρ : Sto) (x : String) (sl : Slot) : Sto := (x, sl) :: delS x ρ
structure Stp (X : List Addr) (s : Shared) (X' : List Addr) (s' : Shared) : Prop where
 keep : ∀ b o, b ∉ X -> s.heap.get? b = some o -> s'.heap.get? b = some o
 tok : s.toks <= s'.toks
 gens : GUp s'.gens s.gens
 os : s'.os = s.os
 new : ∀ b ∈ X', b ∈ X \/ s.heap.get? b = none
 live : ∀ b ∈ X, ∀ o, s.heap.get? b = some o -> ∃ o', s'.heap.get? b = some o'
theorem Stp.refl (X : List Addr) (s : Shared) : Stp X s X s := ⟨fun _ _ _ e => e, Nat.le_refl _, .rfl, rfl, fun _ h => .inl h, fun _ _ o e => ⟨o, e⟩⟩
theorem Stp.of_gr {X : List Addr} {s s' : Shared} (g : Gr s s') : Stp X s X s' := ⟨fun _ _ _ e => g.keep _ _ e, g.tok, g.gens, g.os, fun _ h => .inl h, fun _ _ o e => ⟨o, g.keep _ _ e⟩⟩
theorem Stp.alive {X X' : List Addr} {s s' : Shared} (t : Stp X s X' s') {b : Addr} {o : Obj} (e : s.heap.get? b = some o) : ∃ o', s'.heap.get? b = some o' := by
 by_cases h1 : b ∈ X
 · exact t.live b h1 o e
 · exact ⟨o, t.keep b o h1 e⟩
theorem Stp.trans {X X' X'' : List Addr} {s s' s'' : Shared} (a : Stp X s X' s') (b : Stp X' s' X'' s'') : Stp X s X'' s'' :=
 ⟨fun x o hx e => b.keep x o (fun q => (a.new x q).elim hx fun q => (by rw [q] at e; cases e)) (a.keep x o hx e), Nat.le_trans a.tok b.tok, b.gens.trans a.gens, b.os.trans a.os,
  fun x hx => (by
   rcases b.new x hx with q | q
   · exact a.new x q
   · by_cases hX : x ∈ X
     · exact .inl hX
     · refine .inr ?_
       cases e : s.heap.get? x with
       | none => rfl
       | some o => rw [a.keep x o hX e] at q; cases q),
  fun x hx o e => by
   obtain ⟨o', e'⟩ := a.live x hx o e
   by_cases h' : x ∈ X'
   · exact b.live x h' o' e'
   · exact ⟨o', b.keep x o' h' e'⟩⟩
theorem Stp.sub {X Y X' : List Addr} {s s' : Shared} (a : Stp X s X' s') (h : ∀ b ∈ X, b ∈ Y) : Stp Y s X' s' :=
 ⟨fun b o hb e => a.keep b o (fun q => hb (h b q)) e, a.tok, a.gens, a.os, fun b hb => (a.new b hb).imp (h b) id, fun b hb o e => by
  by_cases hX : b ∈ X
  · exact a.live b hX o e
  · exact ⟨o, a.keep b o hX e⟩⟩
theorem Stp.sub' {X X' Y : List Addr} {s s' : Shared} (a : Stp X s X' s') (h : ∀ b ∈ Y, b ∈ X') : Stp X s Y s' :=
 ⟨a.keep, a.tok, a.gens, a.os, fun b hb => a.new b (h b hb), a.live⟩
theorem ext_na {V W : Addr -> Prop} {s : Shared} (hw : ∀ a, W a -> s.heap.get? a = none) (a : Addr) (o : Obj) (na : ¬ V a) (e : s.heap.get? a = some o) (_ : Shp o) : ¬ (V a \/ W a) /\ s.heap.get? a = some o := ⟨fun q => q.elim na fun q => (by rw [hw a q] at e; cases e), e⟩
theorem Rep.ext {c : Cx} {V W : Addr -> Prop} {s : Shared} (hw : ∀ a, W a -> s.heap.get? a = Option.none) {d v} (r : Rep c V s d v) : Rep c (fun a => V a \/ W a) s d v := r.mapA rfl (ext_na hw)
theorem RepL.ext {c : Cx} {V W : Addr -> Prop} {s : Shared} (hw : ∀ a, W a -> s.heap.get? a = Option.none) {d v} (r : RepL c V s d v) : RepL c (fun a => V a \/ W a) s d v := r.mapA rfl (ext_na hw)
theorem RepS.ext {c : Cx} {V W : Addr -> Prop} {s : Shared} (hw : ∀ a, W a -> s.heap.get? a = Option.none) {d v fp} (r : RepS c V s d v fp) : RepS c (fun a => V a \/ W a) s d v fp := r.map (fun _ _ => Rep.ext hw) fun _ _ _ e => e
theorem RepSL.ext {c : Cx} {V W : Addr -> Prop} {s : Shared} (hw : ∀ a, W a -> s.heap.get? a = Option.none) {d v fp} (r : RepSL c V s d v fp) : RepSL c (fun a => V a \/ W a) s d v fp := r.map (fun _ _ => Rep.ext hw) fun _ _ _ e => e
theorem RepS.weak {c : Cx} {V V' : Addr -> Prop} {s : Shared} {sl v fp} (r : RepS c V s sl v fp) (hv : ∀ a, V' a -> V a) : RepS c V' s sl v fp := r.calm (Gr.calm (.refl s) V) hv fun _ _ _ e => e
theorem StoR.ext {c : Cx} {env : Env} {V W : Addr -> Prop} {s : Shared} {m : Str -> Option Value} (hw : ∀ a, W a -> s.heap.get? a = none) {ρ fps} (h : StoR c env V s m ρ fps) : StoR c env (fun a => V a \/ W a) s m ρ fps := h.map (fun _ _ _ l => l) fun _ _ _ _ r => r.ext hw
theorem StoR.weak {c : Cx} {env : Env} {V V' : Addr -> Prop} {s : Shared} {m : Str -> Option Value} (hv : ∀ a, V' a -> V a) {ρ fps} (h : StoR c env V s m ρ fps) : StoR c env V' s m ρ fps := h.map (fun _ _ _ l => l) fun _ _ _ _ r => r.weak hv
theorem StoR.del {c : Cx} {env : Env} {V : Addr -> Prop} {s : Shared} {m : Str -> Option Value} (x : String) {ρ fps} (h : StoR c env V s m ρ fps) : ∃ fps' rest, StoR c env V s m (delS x ρ) fps' /\ (rest ++ fps').Perm fps := by
 induction h with
 | nil => exact ⟨[], [], .nil, .refl _⟩
 | @cons y sl v fp ρ fps l r rs ih =>
  (refine x22 ih ?_; clear ih; intro fps' rest h1 h2)
  unfold delS
  by_cases hy : y = x
  · erw [if_pos hy]
    exact ⟨fps', fp ++ rest, h1, by rw [aA]; exact h2.append_left fp⟩
  · erw [if_neg hy]
    exact ⟨fp ++ fps', rest, .cons l r h1, (by
     rw [<- aA]
     refine (List.Perm.append_right _ List.perm_append_comm).trans ?_
     rw [aA]; exact h2.append_left fp)⟩
theorem delS_ne {x : String} : ∀ {ρ : Sto}, ∀ p ∈ delS x ρ, p.1 ≠ x
 | [], _, hp => by cases hp
 | (y, sl) :: r, p, hp => by
  unfold delS at hp
  split at hp
  · exact delS_ne p hp
  · rcases mC.mp hp with rfl | hp
    · assumption
    · exact delS_ne p hp
theorem StoR.change {c : Cx} {env : Env} {V : Addr -> Prop} {s s' : Shared} {m m' : Str -> Option Value} (hc : Calm V s s') {ρ fps} (h : StoR c env V s m ρ fps)
 (h1 : ∀ a ∈ fps, ∀ o, s.heap.get? a = some o -> s'.heap.get? a = some o)
 (h2 : ∀ p ∈ ρ, env.kindOf (oS p.1) = some .local -> m' (oS p.1) = m (oS p.1))
 (h3 : ∀ p ∈ ρ, ∀ a o w, env.cells.lookup (oS p.1) = some a -> s.heap.get? a = some o -> o.data = .cell w -> s'.heap.get? a = some o) : StoR c env V s' m' ρ fps :=
 h.map (fun p hp _ l => l.calm (h2 p hp) (h3 p hp)) fun _ _ _ hf r => r.calm hc (fun _ q => q) fun a ha => h1 a (hf a ha)
theorem RepS.live {c V s} {sl v fp} (r : RepS c V s sl v fp) : ∀ a ∈ fp, ∃ o, s.heap.get? a = some o /\ ∀ w, o.data ≠ .cell w :=
 RepS.rec (motive_1 := fun _ _ fp _ => ∀ a ∈ fp, ∃ o, s.heap.get? a = some o /\ ∀ w, o.data ≠ .cell w) (motive_2 := fun _ _ fp _ => ∀ a ∈ fp, ∃ o, s.heap.get? a = some o /\ ∀ w, o.data ≠ .cell w)
  (fun _ _ h => nomatch h) (fun _ ho _ _ hdt _ r a ha => (mC.mp ha).elim (fun e => ⟨_, e ▸ ho, fun w q => by rw [hdt] at q; cases q⟩) (r a)) (fun hP => Res.live _ _ _ hP) (fun _ h => nomatch h) (fun _ _ r rs a ha => (mA.mp ha).elim (r a) (rs a)) r
theorem RepS.alive {c V s} {sl v fp} (r : RepS c V s sl v fp) (a : Addr) (ha : a ∈ fp) : ∃ o, s.heap.get? a = some o := let ⟨o, e, _⟩ := r.live a ha; ⟨o, e⟩
theorem RepSL.live {c V s} {sl v fp} (r : RepSL c V s sl v fp) : ∀ a ∈ fp, ∃ o, s.heap.get? a = some o /\ ∀ w, o.data ≠ .cell w :=
 RepSL.rec (motive_1 := fun _ _ fp _ => ∀ a ∈ fp, ∃ o, s.heap.get? a = some o /\ ∀ w, o.data ≠ .cell w) (motive_2 := fun _ _ fp _ => ∀ a ∈ fp, ∃ o, s.heap.get? a = some o /\ ∀ w, o.data ≠ .cell w)
  (fun _ _ h => nomatch h) (fun _ ho _ _ hdt _ r a ha => (mC.mp ha).elim (fun e => ⟨_, e ▸ ho, fun w q => by rw [hdt] at q; cases q⟩) (r a)) (fun hP => Res.live _ _ _ hP) (fun _ h => nomatch h) (fun _ _ r rs a ha => (mA.mp ha).elim (r a) (rs a)) r
theorem RepSL.alive {c V s} {sl v fp} (r : RepSL c V s sl v fp) (a : Addr) (ha : a ∈ fp) : ∃ o, s.heap.get? a = some o := let ⟨o, e, _⟩ := r.live a ha; ⟨o, e⟩
noncomputable def CanStore (sc : Scope) (x : String) : Prop := sc.names.lookup (oS x) = some .local \/ sc.names.lookup (oS x) = some .cell
structure OwnT (c : Cx) (A : Around) (env : Env) (sc : Scope) (Cs : List (Str × Addr)) : Prop where
 own : ∀ x, sc.names.lookup x = some .cell -> ∃ a, Cs.lookup x = some a
 top : c.lsc sc -> A.frames = some [env] /\ env.frame = some env.locals
noncomputable def Own (sc : Scope) (Cs : List (Str × Addr)) : Prop := ∀ x, sc.names.lookup x = some .cell -> ∃ a, Cs.lookup x = some a
theorem mem_lookup {α β : Type} [BEq α] [LawfulBEq α] {l : List (α × β)} {x : α} {a : β} (h : l.lookup x = some a) : (x, a) ∈ l := by
 induction l with
 | nil => cases h
 | cons p r ih =>
  obtain ⟨y, b⟩ := p
  rw [List.lookup_cons] at h
  cases q : x == y with
  | true => rw [q] at h; cases h; cases beq_iff_eq.mp q; exact .head _
  | false => rw [q] at h; exact .tail _ (ih h)
section
variable {c : Cx} {n : Nat} {sc : Scope} {env : Env} {V0 : Addr -> Prop} {h0 : Heap} {Cs : List (Str × Addr)} {X : List Addr} {ρ : Sto} {s s₁ : Shared} {A : Around}
theorem calm_at {a : Addr} {V : Addr -> Prop} {s : Shared} {h' : Heap} {tk : Nat} (hs : Heap.SameBut a s.heap h') (hv : V a) (ht : s.toks <= tk) : Calm V s { s with heap := h', toks := tk } :=
 ⟨ht, fun b o nb e _ => (hs.2 b fun q => nb (q ▸ hv)).trans e⟩
theorem Fm.store {x : String} {sl : Slot} {v : Value} {fp : List Addr} (F : Fm c sc env V0 h0 Cs X ρ s) (g : Gr s s₁) (hO : sc.names.lookup (oS x) = some .cell -> ∃ a, Cs.lookup (oS x) = some a) (hk : CanStore sc x)
 (r : RepS c (Vol V0 (X ++ fp)) s₁ sl v fp) (hn : fp.Nodup) (hf : ∀ a ∈ fp, s.heap.get? a = none) :
 wpAny c.M A (storeName env (oS x) v) (fun _ s' => ∃ X', Stp X s X' s' /\ Fm c sc env V0 h0 Cs X' (setS ρ x sl) s') (fun _ _ => False) s₁ := by
 obtain ⟨m, fps, hns, hX, hnd, hlv, hcl, hst⟩ := F.sto
 have hfX : ∀ a ∈ fp, a ∉ X := fun a ha hx => by obtain ⟨o, e⟩ := hlv a hx; rw [hf a ha] at e; cases e
 have hvk : sc.kind = .function := F.kind
 have hke : env.scope.kind = .function := by rw [F.scope]; exact hvk
 -- the store before, apart from the new places
 have hst1 : StoR c env (Vol V0 (X ++ fp)) s₁ m ρ fps := ((hst.ext (W := fun a => a ∈ fp) hf).gr g).weak fun a q => by
  rcases q with q | q
  · exact .inl (.inl q)
  · rcases mA.mp q with q | q
    · exact .inl (.inr q)
    · exact .inr q
 (refine x22 (hst1.del x) ?_; intro fps' rest hdel hperm)
 have hsubX : ∀ a ∈ fps', a ∈ fps := fun a ha => hperm.subset (mR _ ha)
 -- the places behind the store
 have hX' : (env.locals :: (Cs.map (·.2) ++ (fp ++ fps'))).Nodup := by
  have hx1 : (env.locals :: (Cs.map (·.2) ++ fps)).Nodup := hX ▸ hnd
  have hp : (rest ++ (env.locals :: (Cs.map (·.2) ++ fps'))).Perm (env.locals :: (Cs.map (·.2) ++ fps)) := by
   refine List.perm_middle.trans (List.Perm.cons _ ?_)
   rw [<- aA]
   refine (List.Perm.append_right _ List.perm_append_comm).trans ?_
   rw [aA]
   exact hperm.append_left _
  have hx2 := (List.nodup_append.mp (hp.nodup_iff.mpr hx1)).2.1
  have hp2 : (fp ++ (env.locals :: (Cs.map (·.2) ++ fps'))).Perm (env.locals :: (Cs.map (·.2) ++ (fp ++ fps'))) := by
   refine List.perm_middle.trans (List.Perm.cons _ ?_)
   rw [<- aA, <- aA]
   exact List.Perm.append_right _ List.perm_append_comm
  refine hp2.nodup_iff.mp (List.nodup_append.mpr ⟨hn, hx2, fun a ha b hb e => ?_⟩)
  subst e
  refine hfX a ha (hX ▸ ?_)
  rcases mC.mp hb with q | q
  · exact q ▸ .head _
  · refine .tail _ ?_
    rcases mA.mp q with q | q
    · exact mL _ q
    · exact mR _ (hsubX a q)
 have hsub : ∀ a ∈ env.locals :: (Cs.map (·.2) ++ (fp ++ fps')), a ∈ X \/ a ∈ fp := fun a ha => by
  rcases mC.mp ha with q | q
  · exact .inl (hX ▸ q ▸ .head _)
  · rcases mA.mp q with q | q
    · exact .inl (hX ▸ .tail _ (mL _ q))
    · rcases mA.mp q with q | q
      · exact .inr q
      · exact .inl (hX ▸ .tail _ (mR _ (hsubX a q)))
 have hvol : ∀ a, Vol V0 (env.locals :: (Cs.map (·.2) ++ (fp ++ fps'))) a -> Vol V0 (X ++ fp) a := fun a q => q.imp id fun q => by
  rcases hsub a q with q | q
  · exact mL _ q
  · exact mR _ q
 have hLX : env.locals ∈ X := hX ▸ .head _
 have hnew : ∀ a ∈ env.locals :: (Cs.map (·.2) ++ (fp ++ fps')), h0.get? a = none := fun a ha => by
  rcases hsub a ha with q | q
  · exact F.new a q
  · cases e : h0.get? a with
    | none => rfl
    | some o => have := F.keep a o e; rw [hf a q] at this; cases this
 have hns1 := hns.keeps g.keep
 rcases hk with hk | hk
 · -- a local
   have hkl : env.kindOf (oS x) = some .local := by show env.scope.names.lookup _ = _; rw [F.scope]; exact hk
   refine wpAny_storeName_local hkl hns1 (fun h' hn' hs' => ?_) (by erw [hke]; rfl)
   have hL0 : ∀ b o, h0.get? b = some o -> b ≠ env.locals := fun b o e q => by rw [q, F.new _ hLX] at e; cases e
   have hcm := calm_at (tk := s₁.toks + 1) (V := Vol V0 (X ++ fp)) hs' (.inr (mL _ hLX)) (Nat.le_succ _)
   have hnl : env.locals ∉ fp ++ fps' := fun q => (List.nodup_cons.mp hX').1 (mR _ q)
   refine ⟨_, ⟨fun b o hb e => (hs'.2 b fun q => hb (q ▸ hLX)).trans (g.keep b o e), Nat.le_trans g.tok (Nat.le_succ _), g.gens, g.os, fun b hb => (hsub b hb).imp id (hf b), ?_⟩,
    ⟨F.good, F.scope, F.kind, F.globals, F.builtins, F.base, fun b o e => (hs'.2 b (hL0 b o e)).trans (g.keep b o (F.keep b o e)), Nat.succ_ne_zero _, (fun a q => by
     obtain ⟨⟨o, e⟩, hx⟩ := F.live0 a q
     exact ⟨⟨o, (hs'.2 a fun q' => hx (q' ▸ hLX)).trans (g.keep _ _ e)⟩, fun q' => (hsub a q').elim hx fun q'' => by rw [hf a q''] at e; cases e⟩), F.ccells, hnew, F.cells, F.cinj,
     ⟨_, _, hn', rfl, hX', fun a ha => ?_, fun p hp => ?_, .cons (.loc hkl (if_pos rfl)) ?_ (StoR.weak hvol ?_)⟩⟩⟩
   · intro b hb o e
     by_cases q : b = env.locals
     · (refine x32 hn' ?_; clear hn'; intro oL _ _ e' _); exact ⟨oL, q ▸ e'⟩
     · exact ⟨o, (hs'.2 b q).trans (g.keep b o e)⟩
   · by_cases q : a = env.locals
     · (refine x32 hn' ?_; clear hn'; intro oL _ _ e' _); exact ⟨oL, q ▸ e'⟩
     · have : ∃ o, s₁.heap.get? a = some o := by
        rcases hsub a ha with q' | q'
        · obtain ⟨o, e⟩ := hlv a q'; exact ⟨o, g.keep _ _ e⟩
        · exact r.alive a q'
       obtain ⟨o, e⟩ := this
       exact ⟨o, (hs'.2 a q).trans e⟩
   · obtain ⟨v₀, q⟩ := hcl p hp
     exact ⟨v₀, (q.keeps g.keep).sameBut hs' fun q' => (List.nodup_cons.mp hX').1 (mL _ (q' ▸ List.mem_map_of_mem hp))⟩
   · exact r.calm hcm hvol fun a ha o e => (hs'.2 a fun q => hnl (q ▸ mL _ ha)).trans e
   · refine hdel.change hcm (fun a ha o e => (hs'.2 a fun q => hnl (q ▸ mR _ ha)).trans e) (fun p hp _ => if_neg fun q => delS_ne p hp (ofString_inj q)) fun p hp a o w hc e hw => ?_
     refine (hs'.2 a fun q => ?_).trans e
     (refine x33 hns1 ?_; clear hns1; intro oL es ep e' hd _)
     rw [q, e'] at e; cases e; rw [hw] at hd; cases hd
 · -- a cell
   have hkl : env.kindOf (oS x) = some .cell := by show env.scope.names.lookup _ = _; rw [F.scope]; exact hk
   obtain ⟨a₀, ha₀⟩ := hO hk
   have hp0 := mem_lookup ha₀
   have haC : a₀ ∈ Cs.map (·.2) := List.mem_map_of_mem (f := (·.2)) hp0
   have hlk := F.cells _ _ ha₀
   obtain ⟨v₀, hcell⟩ := hcl _ hp0
   have haX : a₀ ∈ X := hX ▸ .tail _ (mL _ haC)
   have haL : env.locals ≠ a₀ := fun q => (List.nodup_cons.mp hX').1 (mL _ (q ▸ haC))
   have hna : a₀ ∉ fp ++ fps' := fun q => (List.nodup_append.mp (List.nodup_cons.mp hX').2).2.2 _ haC _ q rfl
   refine wpAny_storeName_cell hke hkl hlk (hcell.keeps g.keep) fun h' hn' hs' => ?_
   have hL0 : ∀ b o, h0.get? b = some o -> b ≠ a₀ := fun b o e q => by rw [q, F.new _ haX] at e; cases e
   have hcm := calm_at (tk := s₁.toks) (V := Vol V0 (X ++ fp)) hs' (.inr (mL _ haX)) (Nat.le_refl _)
   refine ⟨_, ⟨fun b o hb e => (hs'.2 b fun q => hb (q ▸ haX)).trans (g.keep b o e), g.tok, g.gens, g.os, fun b hb => (hsub b hb).imp id (hf b), ?_⟩,
    ⟨F.good, F.scope, F.kind, F.globals, F.builtins, F.base, fun b o e => (hs'.2 b (hL0 b o e)).trans (g.keep b o (F.keep b o e)), (F.gr g).tok, (fun a q => by
     obtain ⟨⟨o, e⟩, hx⟩ := F.live0 a q
     exact ⟨⟨o, (hs'.2 a fun q' => hx (q' ▸ haX)).trans (g.keep _ _ e)⟩, fun q' => (hsub a q').elim hx fun q'' => by rw [hf a q''] at e; cases e⟩), F.ccells, hnew, F.cells, F.cinj,
     ⟨m, _, hns1.sameBut hs' haL, rfl, hX', fun a ha => ?_, fun p hp => ?_, ?_⟩⟩⟩
   · intro b hb o e
     by_cases q : b = a₀
     · (refine x12 hn' ?_; clear hn'; intro oL e' _); exact ⟨oL, q ▸ e'⟩
     · exact ⟨o, (hs'.2 b q).trans (g.keep b o e)⟩
   · by_cases q : a = a₀
     · (refine x12 hn' ?_; clear hn'; intro oL e' _); exact ⟨oL, q ▸ e'⟩
     · have : ∃ o, s₁.heap.get? a = some o := by
        rcases hsub a ha with q' | q'
        · obtain ⟨o, e⟩ := hlv a q'; exact ⟨o, g.keep _ _ e⟩
        · exact r.alive a q'
       obtain ⟨o, e⟩ := this
       exact ⟨o, (hs'.2 a q).trans e⟩
   · by_cases q : p.2 = a₀
     · exact ⟨_, q ▸ hn'⟩
     · obtain ⟨v₁, q'⟩ := hcl p hp
       exact ⟨v₁, (q'.keeps g.keep).sameBut hs' q⟩
   · (refine x12 hn' ?_; clear hn'; intro o' e' hd')
     refine .cons (.cell (.inl hkl) hlk e' hd') ?_ (StoR.weak hvol ?_)
     · exact r.calm hcm hvol fun a ha o e => (hs'.2 a fun q => hna (q ▸ mL _ ha)).trans e
     · refine hdel.change hcm (fun a ha o e => (hs'.2 a fun q => hna (q ▸ mR _ ha)).trans e) (fun p hp _ => rfl) fun p hp a o w hc e hw => ?_
       refine (hs'.2 a fun q => ?_).trans e
       exact delS_ne p hp (ofString_inj (F.cinj _ _ _ (q ▸ hc) hlk))
end
end
noncomputable def plainE : Expr -> Bool
 | .Starred .. => false
 | _ => true
theorem starEach_cons {e : Expr} {rest : List Expr} {env : Env} (h : plainE e = true) : starEach (e :: rest) env = (false, eval e env) :: starEach rest env := by
 cases e <;> first | rfl | cases h
theorem assignEach_cons {e : Expr} {rest : List Expr} {env : Env} (h : plainE e = true) : assignEach (e :: rest) env = (false, assign e env) :: assignEach rest env := by
 cases e <;> first | rfl | cases h
inductive ItAt (c : Cx) (V : Addr -> Prop) (s : Shared) : Addr -> List D -> Prop
 | list {it l i o vs n ds} : s.heap.IsListIter it l i -> ¬ V l -> s.heap.get? l = some o -> o.cls = .type "list" -> o.data = .seq vs n -> RepL c V s ds (vs.toList.drop i) -> ItAt c V s it ds
 | tuple {it l i o vs n ds} : s.heap.IsTupleIter it l i -> ¬ V l -> s.heap.get? l = some o -> o.cls = .type "tuple" -> o.data = .seq vs n -> RepL c V s ds (vs.toList.drop i) -> ItAt c V s it ds
 | range {it x left st} : IsRangeIter s.heap it x left st -> ItAt c V s it ((List.range left.toNat).map fun k : Nat => D.int (x + k * st))
 | ascii {it x t i} : s.heap.IsStrIter it "str_ascii_iterator" x t i -> ItAt c V s it ((x.cps.toList.drop i).map fun k => D.str ⟨#[k]⟩)
 | wide {it x t i} : s.heap.IsStrIter it "str_iterator" x t i -> ItAt c V s it ((x.cps.toList.drop i).map fun k => D.str ⟨#[k]⟩)
structure ItStep (it : Addr) (s s' : Shared) : Prop where
 keep : Heap.ExtBut it s.heap s'.heap
 tok : s.toks <= s'.toks
 gens : GUp s'.gens s.gens
 os : s'.os = s.os
theorem ItAt.fields {c V s it ds} (h : ItAt c V s it ds) : ∃ o vs T, s.heap.get? it = some o /\ o.data = .fields vs /\ o.cls = .type T /\ T ≠ "range" /\
 ["enumerate", "zip", "dict_itemiterator", "dict_reverseitemiterator", "odict_iterator", "itertools.zip_longest", "itertools.pairwise"].contains T = false := by
 cases h with
 | list h => (refine x13 h ?_; clear h; intro o h1 h2 h3); exact ⟨o, _, _, h1, h3, h2, by decide, by decide⟩
 | tuple h => (refine x13 h ?_; clear h; intro o h1 h2 h3); exact ⟨o, _, _, h1, h3, h2, by decide, by decide⟩
 | range h => exact ⟨_, _, "range_iterator", h, rfl, rfl, by decide, by decide⟩
 | ascii h => (refine x13 h ?_; clear h; intro o h1 h2 h3); exact ⟨o, _, _, h1, h3, h2, by decide, by decide⟩
 | wide h => (refine x13 h ?_; clear h; intro o h1 h2 h3); exact ⟨o, _, _, h1, h3, h2, by decide, by decide⟩
theorem ItStep.calm {c V s it ds s'} (h : ItAt c V s it ds) (t : ItStep it s s') (W : Addr -> Prop) : Calm W s s' :=
 ⟨t.tok, fun b o _ e hd => t.keep b o (fun q => by
  (refine x35 h.fields ?_; intro o' vs T h1 h2 h3 h4 _)
  rw [q, h1] at e; cases e
  rcases hd with ⟨_, _, hd⟩ | ⟨_, _, hd⟩ | ⟨hd, _⟩
  · rw [h2] at hd; cases hd
  · rw [h2] at hd; cases hd
  · rw [h3] at hd; injection hd with hd; exact h4 hd) e⟩
theorem ItAt.next {c : Cx} {V s it} {d : D} {ds : List D} {A : Around} (h : ItAt c V s it (d :: ds)) :
 wpAny c.M A (pyNext (.ref it)) (fun r s' => ∃ v, r = some v /\ Rep c V s' d v /\ ItAt c V s' it ds /\ ItStep it s s') (fun _ _ => False) s := by
 have h' := h
 generalize hL : d :: ds = L at h
 cases h with
 | @list l i o vs n _ hi hv ho hcl hdt r =>
  subst hL
  cases hr : vs.toList.drop i with
  | nil => rw [hr] at r; cases r
  | cons v rest =>
   rw [hr] at r
   cases r with
   | cons r rs =>
    have hi0 : vs[i]? = some v := by
     have : (vs.toList.drop i)[0]? = some v := by erw [hr]; rfl
     simpa using this
    refine wpAny_pyNext_list_item hi ⟨o, ho, hcl, n, hdt⟩ hi0 fun h' hi' hs' => ?_
    have st : ItStep it s { s with heap := h' } := ⟨hs'.extBut, Nat.le_refl _, .rfl, rfl⟩
    refine ⟨v, rfl, r.calm (st.calm ‹_› V) fun _ q => q, .list hi' hv ((st.calm ‹_› V).2 _ _ hv ho (.inl ⟨_, _, hdt⟩)) hcl hdt ?_, st⟩
    have : vs.toList.drop (i + 1) = rest := by
     have := congrArg List.tail hr
     simpa using this
    erw [this]
    exact rs.calm (st.calm ‹_› V) fun _ q => q
 | @tuple l i o vs n _ hi hv ho hcl hdt r =>
  subst hL
  cases hr : vs.toList.drop i with
  | nil => rw [hr] at r; cases r
  | cons v rest =>
   rw [hr] at r
   cases r with
   | cons r rs =>
    have hi0 : vs[i]? = some v := by
     have : (vs.toList.drop i)[0]? = some v := by erw [hr]; rfl
     simpa using this
    refine wpAny_pyNext_tuple_item hi ⟨o, ho, hcl, n, hdt⟩ hi0 fun h' hi' hs' => ?_
    have st : ItStep it s { s with heap := h' } := ⟨hs'.extBut, Nat.le_refl _, .rfl, rfl⟩
    refine ⟨v, rfl, r.calm (st.calm ‹_› V) fun _ q => q, .tuple hi' hv ((st.calm ‹_› V).2 _ _ hv ho (.inl ⟨_, _, hdt⟩)) hcl hdt ?_, st⟩
    have : vs.toList.drop (i + 1) = rest := by
     have := congrArg List.tail hr
     simpa using this
    erw [this]
    exact rs.calm (st.calm ‹_› V) fun _ q => q
 | @range x left st hi =>
  obtain ⟨k, hk⟩ : ∃ k, left.toNat = k + 1 := by
   cases hk : left.toNat with
   | zero => rw [hk] at hL; simp at hL
   | succ k => exact ⟨k, rfl⟩
  rw [hk, List.range_succ_eq_map] at hL
  simp only [List.map_cons, List.map_map, List.cons.injEq] at hL
  obtain ⟨rfl, rfl⟩ := hL
  refine wpAny_pyNext_range_item hi (by omega) fun h' hi' hs' => ?_
  have stp : ItStep it s { s with heap := h', toks := s.toks + 1 } := ⟨hs'.extBut, Nat.le_succ _, .rfl, rfl⟩
  refine ⟨_, rfl, ?_, ?_, stp⟩
  · have e0 : x + ((0 : Nat) : Int) * st = x := by simp
    erw [e0]; exact .int _ _
  · have e : (List.map ((fun k : Nat => D.int (x + ↑k * st)) ∘ Nat.succ) (List.range k)) = (List.range (left - 1).toNat).map fun k : Nat => D.int (x + st + k * st) := by
     erw [show (left - 1).toNat = k by omega]
     refine List.map_congr_left fun j _ => ?_
     simp only [Function.comp]
     congr 1
     rw [Int.natCast_succ, Int.add_mul]; omega
    erw [e]; exact .range hi'
 | @ascii x t i hi =>
  cases hr : x.cps.toList.drop i with
  | nil => rw [hr] at hL; cases hL
  | cons k rest =>
   rw [hr] at hL
   simp only [List.map_cons, List.cons.injEq] at hL
   obtain ⟨rfl, rfl⟩ := hL
   have hi0 : x.cps[i]? = some k := by
    have : (x.cps.toList.drop i)[0]? = some k := by erw [hr]; rfl
    simpa using this
   refine wpAny_pyNext_ascii_item hi hi0 fun h' hi' hs' => ?_
   have : x.cps.toList.drop (i + 1) = rest := by
    have := congrArg List.tail hr
    simpa using this
   exact ⟨_, rfl, .str _ _, this ▸ .ascii hi', ⟨hs'.extBut, Nat.le_succ _, .rfl, rfl⟩⟩
 | @wide x t i hi =>
  cases hr : x.cps.toList.drop i with
  | nil => rw [hr] at hL; cases hL
  | cons k rest =>
   rw [hr] at hL
   simp only [List.map_cons, List.cons.injEq] at hL
   obtain ⟨rfl, rfl⟩ := hL
   have hi0 : x.cps[i]? = some k := by
    have : (x.cps.toList.drop i)[0]? = some k := by erw [hr]; rfl
    simpa using this
   refine wpAny_pyNext_wide_item hi hi0 fun h' hi' hs' => ?_
   have : x.cps.toList.drop (i + 1) = rest := by
    have := congrArg List.tail hr
    simpa using this
   exact ⟨_, rfl, .str _ _, this ▸ .wide hi', ⟨hs'.extBut, Nat.le_succ _, .rfl, rfl⟩⟩
theorem ItAt.stop {c : Cx} {V s it} {A : Around} (hh : A.handled = none) (h : ItAt c V s it []) :
 wpAny c.M A (pyNext (.ref it)) (fun r s' => r = none /\ ItStep it s s') (fun _ _ => False) s := by
 generalize hL : ([] : List D) = L at h
 cases h with
 | @list l i o vs n _ hi hv ho hcl hdt r =>
  subst hL
  cases hr : vs.toList.drop i with
  | cons v rest => rw [hr] at r; cases r
  | nil =>
   refine wpAny_pyNext_list_end hh hi ⟨o, ho, hcl, n, hdt⟩ ?_ fun h' hs' => ⟨rfl, hs', Nat.le_refl _, .rfl, rfl⟩
   have : (vs.toList.drop i)[0]? = none := by erw [hr]; rfl
   simpa using this
 | @tuple l i o vs n _ hi hv ho hcl hdt r =>
  subst hL
  cases hr : vs.toList.drop i with
  | cons v rest => rw [hr] at r; cases r
  | nil =>
   refine wpAny_pyNext_tuple_end hh hi ⟨o, ho, hcl, n, hdt⟩ ?_ fun h' hs' => ⟨rfl, hs', Nat.le_refl _, .rfl, rfl⟩
   have : (vs.toList.drop i)[0]? = none := by erw [hr]; rfl
   simpa using this
 | @range x left st hi =>
  have hz : left.toNat = 0 := by
   have := congrArg List.length hL
   simpa using this.symm
  exact wpAny_pyNext_range_end hh hi (by omega) fun h' hs' => ⟨rfl, hs', Nat.le_refl _, .rfl, rfl⟩
 | @ascii x t i hi =>
  have hz : x.cps.toList.drop i = [] := by simpa using hL.symm
  refine wpAny_pyNext_ascii_end hh hi ?_ fun h' hs' => ⟨rfl, hs', Nat.le_refl _, .rfl, rfl⟩
  have : (x.cps.toList.drop i)[0]? = none := by erw [hz]; rfl
  simpa using this
 | @wide x t i hi =>
  have hz : x.cps.toList.drop i = [] := by simpa using hL.symm
  refine wpAny_pyNext_wide_end hh hi ?_ fun h' hs' => ⟨rfl, hs', Nat.le_refl _, .rfl, rfl⟩
  have : (x.cps.toList.drop i)[0]? = none := by erw [hz]; rfl
  simpa using this
noncomputable def IterR (c : Cx) (d : D) (ds : List D) : Prop :=
 ∀ A V s v, Room c 0 A -> St c V s -> Rep c V s d v -> wpAny c.M A (pyIter v) (fun it s' => Gr s s' /\ ∃ a, it = .ref a /\ s.heap.get? a = none /\ ItAt c V s' a ds) (fun _ _ => False) s
theorem get_size (h : Heap) : h.get? h.objs.size = none := by
 cases e : h.get? h.objs.size with
 | none => rfl
 | some o => exact absurd (Heap.lt_size e) (Nat.lt_irrefl _)
theorem IterR.list {c : Cx} {ds : List D} : IterR c (.list ds) ds := fun A V s v _ _ r => by
 replace r := r.inv
 obtain ⟨_, _, _, _, rfl, na, ho, hcl, hd, hdt, r⟩ := r
 refine wpAny_pyIter_list ⟨_, ho, hcl, _, hdt⟩ ⟨.push _, _, rfl, get_size _, .list ⟨_, Heap.get?_push_size _ rfl, rfl, rfl⟩ na (Heap.get?_push_of_some _ ho) hcl hdt ?_⟩
 erw [List.drop_zero]; exact r.gr (.push _)
section
inductive AF where
 | next | brk | cont
 | ret (d : D)
inductive FlowR (c : Cx) (V : Addr -> Prop) (s : Shared) : Flow -> AF -> Prop
 | next : FlowR c V s .next .next
 | brk : FlowR c V s .brk .brk
 | cont : FlowR c V s .cont .cont
 | ret {v d} : Rep c V s d v -> FlowR c V s (.ret v) (.ret d)
inductive SPost (c : Cx) (sc : Scope) (env : Env) (V0 : Addr -> Prop) (h0 : Heap) (Cs : List (Str × Addr)) (X : List Addr) (s : Shared) (P : AF -> Sto -> Prop) (f : Flow) (s' : Shared) : Prop
 | mk (X' : List Addr) (ρ' : Sto) (af : AF) (t : Stp X s X' s') (F : Fm c sc env V0 h0 Cs X' ρ' s') (r : FlowR c (Vol V0 X') s' f af) (p : P af ρ') : SPost c sc env V0 h0 Cs X s P f s'
structure Sx (c : Cx) (n : Nat) (sc : Scope) (ρ : Sto) (st : Stmt) (P : AF -> Sto -> Prop) : Prop where
 run : ∀ A env V0 h0 Cs X s, Room c n A -> OwnT c A env sc Cs -> Fm c sc env V0 h0 Cs X ρ s -> wpAny c.M A (exec st env) (SPost c sc env V0 h0 Cs X s P) (fun _ _ => False) s
structure Tr (c : Cx) (n : Nat) (sc : Scope) (ρ : Sto) (ss : List Stmt) (P : AF -> Sto -> Prop) : Prop where
 run : ∀ A env V0 h0 Cs X s, Room c n A -> OwnT c A env sc Cs -> Fm c sc env V0 h0 Cs X ρ s -> wpAny c.M A (execs ss env) (SPost c sc env V0 h0 Cs X s P) (fun _ _ => False) s
noncomputable abbrev Sn (c : Cx) (n : Nat) (sc : Scope) (ρ : Sto) (st : Stmt) (ρ2 : Sto) : Prop := Sx c n sc ρ st fun af ρ' => af = .next /\ ρ' = ρ2
theorem SPost.mono {c sc env V0 h0 Cs X s P P' f s'} (h : SPost c sc env V0 h0 Cs X s P f s') (hp : ∀ af ρ', P af ρ' -> P' af ρ') : SPost c sc env V0 h0 Cs X s P' f s' :=
 let ⟨X', ρ', af, a, b, d, e⟩ := h; ⟨X', ρ', af, a, b, d, hp _ _ e⟩
theorem SPost.stp {c sc env V0 h0 Cs X X1 s s₁ P f s'} (h : SPost c sc env V0 h0 Cs X1 s₁ P f s') (g : Stp X s X1 s₁) : SPost c sc env V0 h0 Cs X s P f s' :=
 let ⟨X', ρ', af, a, b, d, e⟩ := h; ⟨X', ρ', af, g.trans a, b, d, e⟩
section
variable {c : Cx} {n : Nat} {sc : Scope} {ρ : Sto} {P P' : AF -> Sto -> Prop}
theorem Sx.mono {st : Stmt} (h : Sx c n sc ρ st P) (hp : ∀ af ρ', P af ρ' -> P' af ρ') : Sx c n sc ρ st P' := .mk fun A env V0 h0 Cs X s hA hO F =>
 wM (h.run A env V0 h0 Cs X s hA hO F) (fun _ _ q => q.mono hp) fun _ _ q => q
theorem Tr.mono {ss : List Stmt} (h : Tr c n sc ρ ss P) (hp : ∀ af ρ', P af ρ' -> P' af ρ') : Tr c n sc ρ ss P' := .mk fun A env V0 h0 Cs X s hA hO F =>
 wM (h.run A env V0 h0 Cs X s hA hO F) (fun _ _ q => q.mono hp) fun _ _ q => q
theorem Tr.nil (h : P .next ρ) : Tr c n sc ρ [] P := .mk fun A env V0 h0 Cs X s _ _ F =>
 wpAny_execs_nil ⟨X, ρ, .next, .refl X s, F, .next, h⟩
theorem Tr.cons {st : Stmt} {rest : List Stmt} {P1 : AF -> Sto -> Prop} (h : Sx c n sc ρ st P1) (hn : ∀ ρ', P1 .next ρ' -> Tr c n sc ρ' rest P) (ho : ∀ af ρ', af ≠ .next -> P1 af ρ' -> P af ρ') :
 Tr c n sc ρ (st :: rest) P := .mk fun A env V0 h0 Cs X s hA hO F => wE (wM (h.run A env V0 h0 Cs X s hA hO F) (fun f s' q => by
 obtain ⟨X', ρ', af, a, b, d, e⟩ := q
 cases d with
 | next => exact wM ((hn _ e).run A env V0 h0 Cs X' s' hA hO b) (fun _ _ q => q.stp a) fun _ _ q => q
 | brk => exact ⟨X', ρ', _, a, b, .brk, ho _ _ (by intro q; cases q) e⟩
 | cont => exact ⟨X', ρ', _, a, b, .cont, ho _ _ (by intro q; cases q) e⟩
 | ret r => exact ⟨X', ρ', _, a, b, .ret r, ho _ _ (by intro q; cases q) e⟩) fun _ _ q => q)
theorem Tr.step {st : Stmt} {rest : List Stmt} {ρ2 : Sto} (h : Sn c n sc ρ st ρ2) (hr : Tr c n sc ρ2 rest P) : Tr c n sc ρ (st :: rest) P :=
 Tr.cons h (fun _ q => q.2 ▸ hr) fun _ _ h q => absurd q.1 h
theorem Tr.last {st : Stmt} (h : Sx c n sc ρ st P) : Tr c n sc ρ [st] P := Tr.cons h (fun _ q => .nil q) fun _ _ _ q => q
theorem RepS.ofRep {V : Addr -> Prop} {X : List Addr} {s : Shared} {d : D} {v : Value} (r : Rep c (VK true V X) s d v) : RepS c (Vol V (X ++ [])) s (.val d) v [] :=
 .val (r.weak fun a q => ⟨rfl, by simpa using q⟩)
theorem Sx.assign {x : String} {e : Expr} {p pos : Pos} {d : D} (h : Ev c n sc true ρ e d) (hk : CanStore sc x)
 (hs : ∀ env : Env, env.scope = sc -> swapsWith e (some (.Name (oS x) p)) pos.line env = pure false := by intro _ _; rfl) : Sn c n sc ρ (.Assign [.Name (oS x) p] e pos) (setS ρ x (.val d)) :=
 .mk fun A env V0 h0 Cs X s hA hO F => wpAny_Assign_Name (wM (h.run A env V0 h0 Cs X s hA F) (fun v s₁ q =>
  wM (F.store q.1 (hO.own _) hk (RepS.ofRep q.2) .nil fun _ ha => nomatch ha) (fun _ s' q => let ⟨X', a, b⟩ := q; ⟨X', _, .next, a, b, .next, rfl, rfl⟩) fun _ _ q => q) fun _ _ q => q) (hs env F.scope)
structure EvS (c : Cx) (n : Nat) (sc : Scope) (ρ : Sto) (e : Expr) (sl : Slot) : Prop where
 run : ∀ A env V0 h0 Cs X s, Room c n A -> Fm c sc env V0 h0 Cs X ρ s ->
  wpAny c.M A (eval e env) (fun v s' => Gr s s' /\ ∃ fp, RepS c (Vol V0 (X ++ fp)) s' sl v fp /\ fp.Nodup /\ ∀ a ∈ fp, s.heap.get? a = none) (fun _ _ => False) s
theorem EvS.val {e : Expr} {d : D} (h : Ev c n sc true ρ e d) : EvS c n sc ρ e (.val d) := .mk fun A env V0 h0 Cs X s hA F =>
 wM (h.run A env V0 h0 Cs X s hA F) (fun _ _ q => ⟨q.1, [], RepS.ofRep q.2, .nil, fun _ ha => nomatch ha⟩) fun _ _ q => q
theorem Sx.assignS {x : String} {e : Expr} {p pos : Pos} {sl : Slot} (h : EvS c n sc ρ e sl) (hk : CanStore sc x)
 (hs : ∀ env : Env, env.scope = sc -> swapsWith e (some (.Name (oS x) p)) pos.line env = pure false := by intro _ _; rfl) : Sn c n sc ρ (.Assign [.Name (oS x) p] e pos) (setS ρ x sl) :=
 .mk fun A env V0 h0 Cs X s hA hO F => wpAny_Assign_Name (wM (h.run A env V0 h0 Cs X s hA F) (fun v s₁ q =>
  let ⟨g, fp, r, hn, hf⟩ := q
  wM (F.store g (hO.own _) hk r hn hf) (fun _ s' q => let ⟨X', a, b⟩ := q; ⟨X', _, .next, a, b, .next, rfl, rfl⟩) fun _ _ q => q) fun _ _ q => q) (hs env F.scope)
theorem Sx.ite {t : Expr} {body orelse : List Stmt} {pos : Pos} {b : Bool} (h : Tst c n sc ρ t b) (ht : b = true -> Tr c n sc ρ body P) (hf : b = false -> Tr c n sc ρ orelse P) : Sx c n sc ρ (.If t body orelse pos) P :=
 .mk fun A env V0 h0 Cs X s hA hO F => wpAny_If (wM (h.run A env V0 h0 Cs X s hA F) (fun r s' q => by
  obtain ⟨g, rfl⟩ := q
  cases r with
  | true => exact wM ((ht rfl).run A env V0 h0 Cs X s' hA hO (F.gr g)) (fun _ _ q => q.stp (.of_gr g)) fun _ _ q => q
  | false => exact wM ((hf rfl).run A env V0 h0 Cs X s' hA hO (F.gr g)) (fun _ _ q => q.stp (.of_gr g)) fun _ _ q => q) fun _ _ q => q)
theorem Sx.ret {e : Expr} {pos : Pos} {d : D} (h : Ev c n sc true ρ e d) (hp : P (.ret d) ρ) : Sx c n sc ρ (.Return (some e) pos) P := .mk fun A env V0 h0 Cs X s hA hO F =>
 wpAny_Return_some (wM (h.run A env V0 h0 Cs X s hA F) (fun v s' q => ⟨X, ρ, .ret d, .of_gr q.1, F.gr q.1, .ret (q.2.weak fun _ q => ⟨rfl, q⟩), hp⟩) fun _ _ q => q)
structure TgtG (w : Bool) (c : Cx) (sc : Scope) (tgt : Expr) (d : D) (ρ ρ' : Sto) : Prop where
 run : ∀ A env V0 h0 Cs X s v, Room c 0 A -> (w = true -> Own sc Cs) -> Fm c sc env V0 h0 Cs X ρ s -> Rep c (Vol V0 X) s d v ->
  wpAny c.M A (assign tgt env v) (fun _ s' => ∃ X', Stp X s X' s' /\ Fm c sc env V0 h0 Cs X' ρ' s') (fun _ _ => False) s
noncomputable abbrev TgtR (c : Cx) (sc : Scope) (tgt : Expr) (d : D) (ρ ρ' : Sto) : Prop := TgtG true c sc tgt d ρ ρ'
theorem TgtG.name {w : Bool} {x : String} {p : Pos} {d : D} (hk : sc.names.lookup (oS x) = some .local \/ (w = true /\ sc.names.lookup (oS x) = some .cell)) : TgtG w c sc (.Name (oS x) p) d ρ (setS ρ x (.val d)) := .mk fun A env V0 h0 Cs X s v hA hO F r =>
 wpAny_assign_Name (F.store (.refl s) (fun q => hk.elim (fun q' => by rw [q] at q'; cases q') fun q' => hO q'.1 _ q) (hk.imp id And.right) (RepS.ofRep (r.weak fun _ q => q.2)) .nil fun _ ha => nomatch ha)
theorem RepL.stp {V0 : Addr -> Prop} {X X' : List Addr} {s s' : Shared} {d : List D} {v : List Value} (r : RepL c (Vol V0 X) s d v) (g : Stp X s X' s') : RepL c (Vol V0 X') s' d v := by
 have r2 : RepL c (fun a => Vol V0 X a \/ (a ∈ X' /\ s.heap.get? a = none)) s d v := r.ext fun a q => q.2
 refine r2.calm ⟨g.tok, fun b o nb e _ => g.keep b o (fun q => nb (.inl (.inr q))) e⟩ fun a q => ?_
 rcases q with q | q
 · exact .inl (.inl q)
 · rcases g.new a q with q' | q'
   · exact .inl (.inr q')
   · exact .inr ⟨q, q'⟩
end
inductive TgtsR (w : Bool) (c : Cx) (sc : Scope) : List Expr -> List D -> Sto -> Sto -> Prop
 | nil {ρ} : TgtsR w c sc [] [] ρ ρ
 | cons {t d ts ds ρ ρ1 ρ2} : plainE t = true -> TgtG w c sc t d ρ ρ1 -> TgtsR w c sc ts ds ρ1 ρ2 -> TgtsR w c sc (t :: ts) (d :: ds) ρ ρ2
section
variable {c : Cx} {n : Nat} {sc : Scope} {ρ : Sto} {P P' : AF -> Sto -> Prop}
theorem TgtsR.length {w ts ds ρ ρ'} (h : TgtsR w c sc ts ds ρ ρ') (env : Env) : (assignEach ts env).length = ds.length /\ (assignEach ts env).findIdx? (·.1) = none := by
 induction h with
 | nil => exact ⟨rfl, rfl⟩
 | cons hp _ _ ih =>
  erw [assignEach_cons hp]
  refine ⟨by simp [ih.1], ?_⟩
  erw [List.findIdx?_cons]
  simp [ih.2]
theorem TgtsR.wp {w ts ds ρ ρ'} (h : TgtsR w c sc ts ds ρ ρ') : ∀ {A env V0 h0 Cs X s vs}, Room c 0 A -> (w = true -> Own sc Cs) -> Fm c sc env V0 h0 Cs X ρ s -> RepL c (Vol V0 X) s ds vs ->
 wpAny c.M A (assignInOrder ((assignEach ts env).map (·.2)) vs) (fun _ s' => ∃ X', Stp X s X' s' /\ Fm c sc env V0 h0 Cs X' ρ' s') (fun _ _ => False) s := by
 induction h with
 | nil =>
  intro A env V0 h0 Cs X s vs hA hO F r
  exact wP ⟨X, .refl X s, F⟩
 | cons hp ht _ ih =>
  intro A env V0 h0 Cs X s vs hA hO F r
  cases r with
  | cons r rs =>
   erw [assignEach_cons hp]
   refine wB (wH (wM (ht.run A env V0 h0 Cs X s _ hA hO F r) (fun _ s' q => ?_) fun _ _ q => q))
   (refine x12 q ?_; clear q; intro X' g F')
   exact wM (ih hA hO F' (rs.stp g)) (fun _ s'' q => let ⟨X'', g', F''⟩ := q; ⟨X'', g.trans g', F''⟩) fun _ _ q => q
theorem Gr.ext {s : Shared} {h' : Heap} (h : Heap.ExtBut s.heap.objs.size s.heap h') : Gr s { s with heap := h' } :=
 ⟨fun b o e => h b o (Nat.ne_of_lt (Heap.lt_size e)) e, Nat.le_refl _, .rfl, rfl⟩
theorem TgtG.tuple {w : Bool} {ts : List Expr} {k : Nat} {p : Pos} {ds : List D} {ρ' : Sto} (h : TgtsR w c sc ts ds ρ ρ') (hn : c.hn := by assumption) : TgtG w c sc (.Tuple ts k p) (.tuple ds) ρ ρ' := .mk fun A env V0 h0 Cs X s v hA hO F r => by
 replace r := r.inv
 obtain ⟨a, o, vs, nn, rfl, na, ho, hcl, hd, hdt, r⟩ := r
 have hl := h.length env
 refine wpAny_assign_Tuple (items := vs) (hA.handled hn) ⟨o, ho, hcl, _, hdt⟩ (by rw [hl.1, r.length]; simp) hl.2 fun h' he => ?_
 have g := Gr.ext he
 exact wM (h.wp hA hO (F.gr g) (r.gr g)) (fun _ s'' q => let ⟨X'', g', F''⟩ := q; ⟨X'', (Stp.of_gr g).trans g', F''⟩) fun _ _ q => q
theorem Fm.it {env V0 h0 Cs X s it ds s' V} (F : Fm c sc env V0 h0 Cs X ρ s) (hi : ItAt c V s it ds) (hX : it ∉ X) (hn : h0.get? it = none) (hv : ¬ V0 it) (t : ItStep it s s') : Fm c sc env V0 h0 Cs X ρ s' := by
 have hcm := fun W => t.calm hi W
 (refine x35 hi.fields ?_; intro oi fs T hi1 hi2 _ _ _)
 have hne : ∀ b ∈ X, b ≠ it := fun b hb q => hX (q ▸ hb)
 obtain ⟨m, fps, h1, h2, h3, h4, h6, h5⟩ := F.sto
 have hLX : env.locals ∈ X := h2 ▸ .head _
 exact ⟨F.good, F.scope, F.kind, F.globals, F.builtins, F.base, fun b o e => t.keep b o (fun q => by rw [q, hn] at e; cases e) (F.keep b o e), fun e => F.tok (Nat.le_zero.mp (e ▸ t.tok)), (fun a q => ⟨let ⟨o, e⟩ := (F.live0 a q).1; ⟨o, t.keep a o (fun q' => hv (q' ▸ q)) e⟩, (F.live0 a q).2⟩), F.ccells, F.new, F.cells, F.cinj,
  m, fps, h1.extBut t.keep (hne _ hLX), h2, h3, fun a ha => let ⟨o, e⟩ := h4 a ha; ⟨o, t.keep a o (hne a ha) e⟩,
  fun p hp => let ⟨v, o, e, d⟩ := h6 p hp; ⟨v, o, t.keep _ o (fun q => by rw [q, hi1] at e; cases e; rw [d] at hi2; cases hi2) e, d⟩,
  h5.change (hcm _) (fun a ha o e => t.keep a o (hne a (h2 ▸ .tail _ (mR _ ha))) e) (fun _ _ _ => rfl)
   fun p _ a o w _ e hw => t.keep a o (fun q => by rw [q, hi1] at e; cases e; rw [hw] at hi2; cases hi2) e⟩
theorem ItAt.stp {V0 : Addr -> Prop} {X X' : List Addr} {s s' : Shared} {it : Addr} {ds : List D} (h : ItAt c (Vol V0 X) s it ds) (hX : it ∉ X) (g : Stp X s X' s') : ItAt c (Vol V0 X') s' it ds := by
 have hk : ∀ o, s.heap.get? it = some o -> s'.heap.get? it = some o := fun o e => g.keep it o hX e
 have hv : ∀ l o, ¬ Vol V0 X l -> s.heap.get? l = some o -> ¬ Vol V0 X' l := fun l o nl e q => by
  rcases q with q | q
  · exact nl (.inl q)
  · rcases g.new l q with q' | q'
    · exact nl (.inr q')
    · rw [q'] at e; cases e
 cases h with
 | list hi nl ho hc hd r => (refine x12 hi ?_; clear hi; intro o h1 h2); exact .list ⟨o, hk o h1, h2⟩ (hv _ _ nl ho) (g.keep _ _ (fun q => nl (.inr q)) ho) hc hd (r.stp g)
 | tuple hi nl ho hc hd r => (refine x12 hi ?_; clear hi; intro o h1 h2); exact .tuple ⟨o, hk o h1, h2⟩ (hv _ _ nl ho) (g.keep _ _ (fun q => nl (.inr q)) ho) hc hd (r.stp g)
 | range hi => exact .range (hk _ hi)
 | ascii hi => (refine x12 hi ?_; clear hi; intro o h1 h2); exact .ascii ⟨o, hk o h1, h2⟩
 | wide hi => (refine x12 hi ?_; clear hi; intro o h1 h2); exact .wide ⟨o, hk o h1, h2⟩
theorem lotg {A : Around} {E : Value -> Shared -> Prop} {V s it ds tgt v} (h : ItAt c V s it ds) {Q : Unit -> Shared -> Prop} (hq : Q () s) : wpAny c.M A (letOwnedTupleGo tgt (.ref it) v) Q E s := by
 (refine x35 h.fields ?_; intro o vs T h1 h2 h3 _ h5)
 have key : ∀ a : Addr, wpAny c.M A (do
  let o <- load it
  match o.cls, o.data with
  | .type n, .fields vs =>
   if ["enumerate", "zip", "dict_itemiterator", "dict_reverseitemiterator", "odict_iterator", "itertools.zip_longest", "itertools.pairwise"].contains n && vs[0]? == some (rawInt a) then
    rule "for.unpacks-the-owned-tuple"
    updateField it 0 .none
  | _, _ => pure ()) Q E s := fun a => by
  refine wB (wpAny_load h1 ?_)
  erw [h3, h2]
  dsimp only
  erw [h5]
  exact wP hq
 unfold letOwnedTupleGo
 split
 · cases v <;> first | exact key _ | exact wP hq
 · cases v <;> first | exact key _ | exact wP hq
 · exact wP hq
end
end
section
noncomputable abbrev NoE : Value -> Shared -> Prop := fun _ _ => False
theorem code_for {c : Cx} {A : Around} {s : Shared} {R : Result -> Shared -> Prop} {target : Expr} {it : Value} {body orelse : List Stmt} {env : Env} (I : Nat -> Shared -> Prop)
 (turn : ∀ n s, I n s -> wpAny c.M A (pyNext it) (fun r s₁ => match r with
  | none => wpAny c.M A (execs orelse env) (fun f s₃ => R (.ok f) s₃) NoE s₁
  | some v => wpAny c.M A (letOwnedTupleGo target it v) (fun _ s1' => wpAny c.M A (assign target env v) (fun _ s2 => wpAny c.M A (execs body env) (fun f s₃ => match f with
   | .next | .cont => ∃ m, m < n /\ I m s₃
   | .brk => R (.ok .next) s₃
   | .ret v => R (.ok (.ret v)) s₃) NoE s2) NoE s1') NoE s₁) NoE s)
 (n : Nat) (h : I n s) : codeAny c.M A (.forLoop target it body orelse env) R s := by
 refine codeAny_loop' rfl I (fun n s hI => ?_) n h
 show wpAny _ _ ((forTurn target it body orelse env).onRaise (fun x => do noteFrame x env; theTreesLotGoes x)) _ _ s
 refine wpAny_noted ?_
 simp only [forTurn]
 refine wB (wZ (wB (wpAny_onRaise (wM (turn n s hI) (fun r s₁ h₁ => ?_) fun _ _ h' => h'.elim))))
 cases r with
 | none => exact wP (.inr ⟨rfl, codeAny_block (wM h₁ (fun _ _ q => q) fun _ _ q => q.elim)⟩)
 | some v =>
  refine wB (wM h₁ (fun _ s1' h₁' => ?_) fun _ _ q => q.elim)
  refine wB (wM h₁' (fun _ s2 h₂ => wB (wM h₂ (fun f s₃ h₃ => ?_) fun _ _ h' => h'.elim)) fun _ _ h' => h'.elim)
  cases f with
  | next => exact wP (.inl ⟨rfl, h₃⟩)
  | cont => exact wP (.inl ⟨rfl, h₃⟩)
  | brk => exact wP h₃
  | ret v => exact wP h₃
section
variable {c : Cx} {n : Nat} {sc : Scope} {ρ : Sto} {P P' : AF -> Sto -> Prop}
theorem Stp.it {X X' : List Addr} {s s' s2 : Shared} {it : Addr} (a : Stp X s X' s') (hn : s.heap.get? it = none) (t : ItStep it s' s2) : Stp X s X' s2 :=
 have ne : ∀ b o, s.heap.get? b = some o -> b ≠ it := fun b o e q => by rw [q, hn] at e; cases e
 ⟨fun b o hb e => t.keep b o (ne b o e) (a.keep b o hb e), Nat.le_trans a.tok t.tok, t.gens.trans a.gens, t.os.trans a.os, a.new,
  fun b hb o e => let ⟨o', e'⟩ := a.live b hb o e; ⟨o', t.keep b o' (ne b o e) e'⟩⟩
noncomputable def Turn (I : Sto -> Prop) (P : AF -> Sto -> Prop) : AF -> Sto -> Prop
 | .next, ρ => I ρ
 | .cont, ρ => I ρ
 | .brk, ρ => P .next ρ
 | .ret d, ρ => P (.ret d) ρ
inductive ForI (c : Cx) (sc : Scope) (env : Env) (V0 : Addr -> Prop) (h0 : Heap) (Cs : List (Str × Addr)) (X : List Addr) (s : Shared) (it : Addr) (I : List D -> Sto -> Prop) (ds : List D) (k : Nat) (s' : Shared) : Prop
 | mk (done rest : List D) (X' : List Addr) (ρ' : Sto) (hds : ds = done ++ rest) (hk : k = rest.length) (hI : I done ρ') (hst : Stp X s X' s') (F : Fm c sc env V0 h0 Cs X' ρ' s') (hi : ItAt c (Vol V0 X') s' it rest) (hX : it ∉ X') : ForI c sc env V0 h0 Cs X s it I ds k s'
theorem Sx.for {tgt e : Expr} {body : List Stmt} {pos : Pos} {d₀ : D} {ds : List D} (I : List D -> Sto -> Prop) (he : Ev c n sc true ρ e d₀) (hit : IterR c d₀ ds) (hI : I [] ρ)
 (turn : ∀ done d rest ρ', ds = done ++ d :: rest -> I done ρ' -> ∃ ρ1, TgtR c sc tgt d ρ' ρ1 /\ Tr c n sc ρ1 body (Turn (I (done ++ [d])) P))
 (fin : ∀ ρ', I ds ρ' -> P .next ρ') (hs : ∀ (env : Env) x, foldedSetIterable e env x = pure x := by intro _ _; rfl) (hn : c.hn := by assumption) : Sx c n sc ρ (.For tgt e body [] pos) P := .mk fun A env V0 h0 Cs X s hA hO F => by
 refine wpAny_For (wM (he.run A env V0 h0 Cs X s hA F) (fun v₀ s₀ q₀ => ?_) fun _ _ q => q) (hs env)
 refine wM (hit A _ s₀ v₀ hA.zero ((F.st true).gr q₀.1) q₀.2) (fun itv s₁ q₁ => ?_) fun _ _ q => q
 refine hideG fun G KG => ?_
 (refine x02 q₁ ?_; clear q₁; intro g₁ r9; refine x13 r9 ?_; clear r9; rintro it rfl hnew hi)
 have hnX : ∀ a ∈ X, a ≠ it := fun a ha q => by
  obtain ⟨_, _, _, _, _, h4, _, _⟩ := (F.gr q₀.1).sto
  obtain ⟨o, e⟩ := h4 a ha
  rw [q, hnew] at e; cases e
 have hn0 : h0.get? it = none := by
  cases e : h0.get? it with
  | none => rfl
  | some o => have := (F.gr q₀.1).keep _ _ e; rw [hnew] at this; cases this
 have hv0 : ¬ V0 it := fun q => by
  obtain ⟨⟨o, e⟩, _⟩ := (F.gr q₀.1).live0 it q
  rw [hnew] at e; cases e
 have hns : s.heap.get? it = none := by
  cases e : s.heap.get? it with
  | none => rfl
  | some o => have := q₀.1.keep _ _ e; rw [hnew] at this; cases this
 refine KG (codeAny_mono (R := fun r s' => match r with | .ok f => SPost c sc env V0 h0 Cs X s P f s' | .error _ => False) ?_ (fun r s' q => by cases r with | ok f => exact q | error e => exact q.elim))
 refine code_for (ForI c sc env V0 h0 Cs X s it I ds) ?_ ds.length ?_
 · intro k s' J
   refine hideG fun G KG => ?_
   obtain ⟨done, rest, X', ρ', hds, hk, hI', hst, F', hi', hX'⟩ := J
   cases rest with
   | nil =>
    refine KG (wM (ItAt.stop (hA.handled hn) hi') (fun r s2 q => ?_) fun _ _ q => q)
    erw [q.1]
    exact wpAny_execs_nil ⟨X', ρ', .next, hst.it hns q.2, F'.it hi' hX' hn0 hv0 q.2, .next, fin _ (by rw [hds, List.append_nil]; exact hI')⟩
   | cons d rest =>
    refine KG (wM (ItAt.next hi') (fun r s2 q => ?_) fun _ _ q => q)
    refine hideG fun G KG => ?_
    (refine x14 q ?_; clear q; rintro v rfl rv hi₂ t)
    have F₂ := F'.it hi' hX' hn0 hv0 t
    (refine x12 (turn done d rest ρ' hds hI') ?_; intro ρ1 htg hbody)
    refine KG (lotg hi₂ (wM (htg.run A env V0 h0 Cs X' s2 v hA.zero (fun _ => hO.own) F₂ rv) (fun _ s₃ q => ?_) fun _ _ q => q))
    refine hideG fun G KG => ?_
    (refine x12 q ?_; clear q; intro X3 g₃ F₃)
    have alive : ∃ o, s2.heap.get? it = some o := let ⟨o, _, _, e, _⟩ := hi₂.fields; ⟨o, e⟩
    have hX3 : it ∉ X3 := fun q => (g₃.new it q).elim hX' fun q => by obtain ⟨o, e⟩ := alive; rw [q] at e; cases e
    have hi3 := hi₂.stp hX' g₃
    refine KG (wM (hbody.run A env V0 h0 Cs X3 s₃ hA hO F₃) (fun f s4 q => ?_) fun _ _ q => q)
    refine hideG fun G KG => ?_
    obtain ⟨X4, ρ4, af, g₄, F4, hf, hp⟩ := q
    have hX4 : it ∉ X4 := fun q => (g₄.new it q).elim hX3 fun q => by (refine x32 hi3.fields ?_; intro o _ _ e _); rw [q] at e; cases e
    have hall := ((hst.it hns t).trans g₃).trans g₄
    have nx : I (done ++ [d]) ρ4 -> ∃ m, m < k /\ ForI c sc env V0 h0 Cs X s it I ds m s4 := fun hp => ⟨_, hk ▸ Nat.lt_succ_self _, done ++ [d], rest, X4, ρ4, by rw [hds, aA]; rfl, rfl, hp, hall, F4, hi3.stp hX3 g₄, hX4⟩
    cases hf with
    | next => exact KG (nx hp)
    | cont => exact KG (nx hp)
    | brk => exact KG ⟨X4, ρ4, .next, hall, F4, .next, hp⟩
    | ret r => exact KG ⟨X4, ρ4, _, hall, F4, .ret r, hp⟩
 · have gg := q₀.1.trans g₁
   refine ⟨[], ds, X, ρ, rfl, rfl, hI, .of_gr gg, F.gr gg, ?_, fun q => hnX _ q rfl⟩
   have : VK true V0 X = Vol V0 X := by funext a; simp [VK]
   rw [this] at hi; exact hi
end
end
section
section
variable {c : Cx} {n : Nat} {sc : Scope} {ρ ρ' : Sto} {P P' : AF -> Sto -> Prop}
noncomputable def Ent (c : Cx) (sc : Scope) (ρ ρ' : Sto) : Prop := ∀ env V0 h0 Cs X s, Fm c sc env V0 h0 Cs X ρ s -> ∃ X', (∀ a ∈ X', a ∈ X) /\ Fm c sc env V0 h0 Cs X' ρ' s
theorem Ent.refl (ρ : Sto) : Ent c sc ρ ρ := fun _ _ _ _ X _ F => ⟨X, fun _ h => h, F⟩
theorem Tr.ent {ss : List Stmt} (e : Ent c sc ρ ρ') (h : Tr c n sc ρ' ss P) : Tr c n sc ρ ss P := .mk fun A env V0 h0 Cs X s hA hO F =>
 let ⟨X', h1, F'⟩ := e env V0 h0 Cs X s F
 wM (h.run A env V0 h0 Cs X' s hA hO F') (fun f s' q => let ⟨X2, ρ2, af, a, b, d, p⟩ := q; ⟨X2, ρ2, af, a.sub h1, b, d, p⟩) fun _ _ q => q
theorem StoR.take {env : Env} {V : Addr -> Prop} {s : Shared} {m : Str -> Option Value} {x : String} {sl : Slot} : ∀ {ρ fps}, StoR c env V s m ρ fps -> ρ.lookup x = some sl ->
 ∃ v fp fps' rest, Loc env s m x v /\ RepS c V s sl v fp /\ StoR c env V s m (delS x ρ) fps' /\ (rest ++ (fp ++ fps')).Perm fps
 | _, _, .nil, e => by cases e
 | _, _, .cons (x := y) (v := v) (fp := fp) l r rs, e => by
  rw [List.lookup_cons] at e
  unfold delS
  by_cases hy : x = y
  · subst hy
    simp only [beq_self_eq_true] at e
    cases e
    erw [if_pos rfl]
    (refine x22 (rs.del x) ?_; intro fps' rest h1 h2)
    refine ⟨v, fp, fps', rest, l, r, h1, ?_⟩
    rw [<- aA]
    refine (List.Perm.append_right _ List.perm_append_comm).trans ?_
    rw [aA]; exact h2.append_left fp
  · have : (x == y) = false := by simpa using hy
    rw [this] at e
    rw [if_neg fun q => hy q.symm]
    (refine x44 (rs.take e) ?_; intro v' fp' fps' rest h1 h2 h3 h4)
    refine ⟨v', fp', fp ++ fps', rest, h1, h2, .cons l r h3, ?_⟩
    have e1 : (rest ++ (fp' ++ (fp ++ fps'))).Perm (fp ++ (rest ++ (fp' ++ fps'))) := by
     refine ((List.perm_append_comm_assoc fp' fp fps').append_left rest).trans ?_
     exact List.perm_append_comm_assoc rest fp (fp' ++ fps')
    exact e1.trans (h4.append_left fp)
theorem delS_lookup {x y : String} (h : y ≠ x) : ∀ (ρ : Sto), (delS x ρ).lookup y = ρ.lookup y
 | [] => rfl
 | (z, sl) :: r => by
  unfold delS
  by_cases hz : z = x
  · rw [if_pos hz, delS_lookup h r, List.lookup_cons]
    have : (y == z) = false := by simpa using fun q : y = z => h (q.trans hz)
    rw [this]
  · rw [if_neg hz, List.lookup_cons, List.lookup_cons, delS_lookup h r]
theorem Fm.mk' {env V0 h0 Cs X s} (F : Fm c sc env V0 h0 Cs X ρ s) {X' : List Addr} {m : Str -> Option Value} {fps : List Addr} (hns : s.heap.Ns env.locals m) (hX : X' = env.locals :: (Cs.map (·.2) ++ fps)) (hn : X'.Nodup)
 (hs : ∀ a ∈ X', a ∈ X) (r : StoR c env (Vol V0 X') s m ρ' fps) : Fm c sc env V0 h0 Cs X' ρ' s :=
 ⟨F.good, F.scope, F.kind, F.globals, F.builtins, F.base, F.keep, F.tok, fun a q => ⟨(F.live0 a q).1, fun hx => (F.live0 a q).2 (hs a hx)⟩, F.ccells, fun a ha => F.new a (hs a ha), F.cells, F.cinj,
  let ⟨m₀, fps₀, h1, h2, h3, h4, h6, h5⟩ := F.sto
  ⟨m, fps, hns, hX, hn, fun a ha => h4 a (hs a ha), h6, r⟩⟩
inductive SubS : Sto -> Sto -> Prop
 | nil {ρ1 : Sto} : SubS [] ρ1
 | cons {x : String} {sl : Slot} {r ρ1 : Sto} : ρ1.lookup x = some sl -> SubS r (delS x ρ1) -> SubS ((x, sl) :: r) ρ1
theorem StoR.sub {env : Env} {V : Addr -> Prop} {s : Shared} {m : Str -> Option Value} {ρ' : Sto} {ρ : Sto} (h : SubS ρ' ρ) : ∀ {fps}, StoR c env V s m ρ fps ->
 ∃ fps' rest, StoR c env V s m ρ' fps' /\ (rest ++ fps').Perm fps := by
 induction h with
 | nil => intro fps _; exact ⟨[], fps, .nil, by simp⟩
 | cons hl _ ih =>
  intro fps r
  (refine x44 (r.take hl) ?_; intro v fp fps' rest h1 h2 h3 h4)
  (refine x22 (ih h3) ?_; intro fps'' rest' h5 h6)
  refine ⟨fp ++ fps'', rest ++ rest', .cons h1 h2 h5, ?_⟩
  refine List.Perm.trans ?_ h4
  rw [aA]
  refine List.Perm.append_left rest ?_
  exact (List.perm_append_comm_assoc rest' fp fps'').trans (h6.append_left fp)
theorem Ent.sub (h : SubS ρ' ρ) : Ent c sc ρ ρ' := fun env V0 h0 Cs X s F => by
 obtain ⟨m, fps, h1, h2, h3, h4, h6, h5⟩ := F.sto
 (refine x22 (h5.sub h) ?_; intro fps' rest r hp)
 have hsub : ∀ a ∈ env.locals :: (Cs.map (·.2) ++ fps'), a ∈ X := fun a ha => by
  rw [h2]
  rcases mC.mp ha with q | q
  · exact q ▸ .head _
  · refine .tail _ ?_
    rcases mA.mp q with q | q
    · exact mL _ q
    · exact mR _ (hp.subset (mR _ q))
 refine ⟨_, hsub, F.mk' h1 rfl ?_ hsub (r.weak fun a q => q.imp id (hsub a))⟩
 have hx1 : (env.locals :: (Cs.map (·.2) ++ fps)).Nodup := h2 ▸ h3
 have hpm : (rest ++ (env.locals :: (Cs.map (·.2) ++ fps'))).Perm (env.locals :: (Cs.map (·.2) ++ fps)) := by
  refine List.perm_middle.trans (List.Perm.cons _ ?_)
  exact (List.perm_append_comm_assoc rest _ fps').trans (hp.append_left _)
 exact (List.nodup_append.mp (hpm.nodup_iff.mpr hx1)).2.1
theorem Ent.freeze {x : String} {sl : Slot} (h : ρ.lookup x = some sl) : Ent c sc ρ (setS ρ x (.val sl.d)) := fun env V0 h0 Cs X s F => by
 obtain ⟨m, fps, h1, h2, h3, h4, h6, h5⟩ := F.sto
 (refine x44 (h5.take h) ?_; intro v fp fps' rest l rx r hp)
 have hx1 : (env.locals :: (Cs.map (·.2) ++ fps)).Nodup := h2 ▸ h3
 have hpm : ((rest ++ fp) ++ (env.locals :: (Cs.map (·.2) ++ fps'))).Perm (env.locals :: (Cs.map (·.2) ++ fps)) := by
  refine List.perm_middle.trans (List.Perm.cons _ ?_)
  refine (List.perm_append_comm_assoc (rest ++ fp) _ fps').trans (List.Perm.append_left _ ?_)
  rw [aA]; exact hp
 have hnd := List.nodup_append.mp (hpm.nodup_iff.mpr hx1)
 have hsub : ∀ a ∈ env.locals :: (Cs.map (·.2) ++ fps'), a ∈ X := fun a ha => h2 ▸ hpm.subset (mR _ ha)
 have hfX : ∀ a ∈ fp, a ∈ X := fun a ha => h2 ▸ .tail _ (mR _ (hp.subset (mR _ (mL _ ha))))
 refine ⟨_, hsub, F.mk' h1 (fps := [] ++ fps') rfl hnd.2.1 hsub (.cons l (.val (rx.freeze (fun a q => q.imp id (hsub a)) fun a ha q => ?_)) (r.weak fun a q => q.imp id (hsub a)))⟩
 rcases q with q | q
 · exact (F.live0 a q).2 (hfX a ha)
 · exact hnd.2.2 a (mR _ ha) a q rfl
end
end
theorem bindL_other {kindOf : Str -> Option NameKind} {x : Str} : ∀ (binds : List (Str × Value)) (m : Str -> Option Value), (∀ p ∈ binds, p.1 ≠ x) -> bindL kindOf binds m x = m x
 | [], _, _ => rfl
 | (y, v) :: r, m, h => by
  unfold bindL
  erw [bindL_other r _ fun p hp => h p (.tail _ hp)]
  split
  · exact if_neg fun q => h _ (.head _) q.symm
  · rfl
theorem bindC_other {kindOf : Str -> Option NameKind} {x : Str} : ∀ (binds : List (Str × Value)) (m : Str -> Option Value), (∀ p ∈ binds, p.1 ≠ x) -> bindC kindOf binds m x = m x
 | [], _, _ => rfl
 | (y, v) :: r, m, h => by
  unfold bindC
  erw [bindC_other r _ fun p hp => h p (.tail _ hp)]
  split
  · rfl
  · exact if_neg fun q => h _ (.head _) q.symm
theorem bindL_at {kindOf : Str -> Option NameKind} {x : Str} {v : Value} (hk : kindOf x = some .local) : ∀ (binds : List (Str × Value)) (m : Str -> Option Value), (binds.map (·.1)).Nodup -> (x, v) ∈ binds -> bindL kindOf binds m x = some v
 | (y, w) :: r, m, hn, h => by
  unfold bindL
  rcases mC.mp h with q | q
  · cases q
    erw [bindL_other r _ fun p hp q => (List.nodup_cons.mp hn).1 (List.mem_map.mpr ⟨p, hp, q⟩), if_pos hk]
    exact if_pos rfl
  · exact bindL_at hk r _ (List.nodup_cons.mp hn).2 q
theorem bindC_at {kindOf : Str -> Option NameKind} {x : Str} {v : Value} (hk : kindOf x ≠ some .local) : ∀ (binds : List (Str × Value)) (m : Str -> Option Value), (binds.map (·.1)).Nodup -> (x, v) ∈ binds -> bindC kindOf binds m x = some v
 | (y, w) :: r, m, hn, h => by
  unfold bindC
  rcases mC.mp h with q | q
  · cases q
    erw [bindC_other r _ fun p hp q => (List.nodup_cons.mp hn).1 (List.mem_map.mpr ⟨p, hp, q⟩), if_neg hk]
    exact if_pos rfl
  · exact bindC_at hk r _ (List.nodup_cons.mp hn).2 q
noncomputable def bindsOf (ps : List String) (vs : List Value) : List (Str × Value) := (ps.map oS).zip vs
noncomputable def stoOf : List String -> List D -> Sto
 | p :: ps, d :: ds => (p, .val d) :: stoOf ps ds
 | _, _ => []
structure DefOk (sc : Scope) (ps : List String) : Prop where
 kinds : ∀ p ∈ ps, CanStore sc p
 nodup : ps.Nodup
 cnd : ((cellsFrom 0 sc.names []).map (·.1)).Nodup
 co : sc.isCoroutine = false
 gen : sc.isGenerator = false
 kind : sc.kind = .function
 nofree : ∀ x, sc.names.lookup x ≠ some .free
inductive DefX (c : Cx) (a : Addr) (sc : Scope) (body : List Stmt) (bd : FuncData -> Prop) : Prop
 | mk (o : Obj) (fd : FuncData) (ho : c.base.get? a = some o) (hdat : o.data = .func fd) (hbody : fd.body = .stmts body) (hsc : fd.scope = sc) (hclo : fd.closure = []) (hgl : fd.globals = mainGlobals) (hbl : fd.builtins = builtinsNs) (hcd : c.base.CodeRec fd.code fd.qualname) (hbind : bd fd) : DefX c a sc body bd
theorem DefX.to {c c' : Cx} {a : Addr} {sc : Scope} {body : List Stmt} {bd : FuncData -> Prop} (h : DefX c a sc body bd) (hb : c'.base = c.base) : DefX c' a sc body bd :=
 let ⟨o, fd, h1, h2, h3, h4, h5, h6, h7, h8, h9⟩ := h; ⟨o, fd, hb ▸ h1, h2, h3, h4, h5, h6, h7, hb ▸ h8, h9⟩
structure IsDefL (c : Cx) (a : Addr) (sc : Scope) (ps : List String) (body : List Stmt) : Prop extends DefOk sc ps where
 ex : DefX c a sc body fun fd => ∀ vs : List Value, vs.length = ps.length -> bindArgs fd ⟨vs, []⟩ = pure (bindsOf ps vs)
structure IsDef (c : Cx) (a : Addr) (sc : Scope) (ps : List String) (body : List Stmt) : Prop extends IsDefL c a sc ps body where
 nl : ¬ c.lsc sc
structure IsDefB (c : Cx) (a : Addr) (sc : Scope) (ps : List String) (body : List Stmt) (args : Args) (vs : List Value) : Prop extends DefOk sc ps where
 ex : DefX c a sc body fun fd => ∀ s : Shared, Keeps c.base s.heap -> BindsTo s fd args (bindsOf ps vs)
theorem IsDefL.toB {c : Cx} {a : Addr} {sc : Scope} {ps : List String} {body : List Stmt} {vs : List Value} (h : IsDefL c a sc ps body) (hl : vs.length = ps.length) : IsDefB c a sc ps body ⟨vs, []⟩ vs :=
 ⟨h.toDefOk, let ⟨o, fd, h1, h2, h3, h4, h5, h6, h7, h8, h9⟩ := h.ex; ⟨o, fd, h1, h2, h3, h4, h5, h6, h7, h8, fun s _ => .of_eq (h9 vs hl)⟩⟩
theorem cellsFrom_shift : ∀ (names : List (Str × NameKind)) (n m : Nat) (acc acc' : List (Str × Addr)), acc.map (·.1) = acc'.map (·.1) -> (cellsFrom n names acc).map (·.1) = (cellsFrom m names acc').map (·.1)
 | [], _, _, _, _, h => h
 | (x, k) :: r, n, m, acc, acc', h => by
  unfold cellsFrom
  split
  · exact cellsFrom_shift r _ _ _ _ (by simp [h])
  · exact cellsFrom_shift r _ _ _ _ h
theorem cellsFrom_has {x : Str} : ∀ (names : List (Str × NameKind)) (n : Nat) (acc : List (Str × Addr)), names.lookup x = some .cell -> ((cellsFrom n names acc).lookup x).isSome = true := fun names n acc h =>
 cellsFrom_some names n acc (.inl h)
theorem lookup_inj {cs : List (Str × Addr)} (hp : cs.Pairwise fun x y => x.2 ≠ y.2) {x y : Str} {a : Addr} (hx : cs.lookup x = some a) (hy : cs.lookup y = some a) : x = y :=
 name_of_addr hp (mem_of_lookup hx) (mem_of_lookup hy)
theorem RepSL.length {c : Cx} {V : Addr -> Prop} {s : Shared} {sl : List Slot} : ∀ {vs fp}, RepSL c V s sl vs fp -> sl.length = vs.length := by
 induction sl with
 | nil => intro vs fp r; exact congrArg List.length r.inv.1.symm
 | cons _ sl ih => intro vs fp r; obtain ⟨v, vs', _, _, rfl, _, _, rs⟩ := r.inv; exact congrArg (· + 1) (ih rs)
theorem repSL_zip {c V s} {env : Env} {m : Str -> Option Value} {ps : List String} : ∀ {sls : List Slot} {vs : List Value} {fp : List Addr}, RepSL c V s sls vs fp -> ps.length = sls.length ->
 (∀ p v, (oS p, v) ∈ bindsOf ps vs -> p ∈ ps -> Loc env s m p v) -> StoR c env V s m (ps.zip sls) fp := by
 induction ps with
 | nil =>
  intro sls vs fp r hl _
  cases sls with
  | nil => rw [r.inv.2]; exact .nil
  | cons => cases hl
 | cons p ps ih =>
  intro sls vs fp r0 hl h
  cases sls with
  | nil => cases hl
  | cons sl sls =>
   obtain ⟨v, vs', _, _, rfl, rfl, r, rs⟩ := r0.inv
   exact .cons (h p _ (.head _) (.head _)) r (ih rs (Nat.succ.inj hl) fun q w hq hm => h q w (.tail _ hq) (.tail _ hm))
theorem fn_enterSX {bd : FuncData -> Prop} {c : Cx} {fp : List Addr} {n : Nat} {a : Addr} {sc : Scope} {ps : List String} {body : List Stmt} {sls : List Slot} {args : Args} {vs : List Value} (hd : DefOk sc ps) (hdx : DefX c a sc body fun fd => (∀ s : Shared, Keeps c.base s.heap -> BindsTo s fd args (bindsOf ps vs)) /\ bd fd) (hl : ps.length = sls.length) {A : Around} {V : Addr -> Prop} {s : Shared}
 {Q E : Value -> Shared -> Prop} (hA : Room c (n + 1) A) (hS : St c V s) (hfV : ∀ a ∈ fp, ¬ V a) (hfn : fp.Nodup) (hfb : ∀ a ∈ fp, c.base.get? a = none) (r : RepSL c (fun a => V a \/ a ∈ fp) s sls vs fp)
 (h : ∀ env X s₁, (∃ fd, bd fd /\ env.code = fd.code /\ env.qual = fd.qualname ++ ".<locals>.") -> env.frame = some env.locals -> s.heap.get? env.locals = none -> Gr s s₁ -> Fm c sc env V (hideAll s.heap fp) env.cells X (ps.zip sls) s₁ -> Own sc env.cells -> (∀ a ∈ X, s.heap.get? a = none \/ a ∈ fp) -> (∀ a ∈ fp, a ∈ X) ->
  wpAny c.M (A.deeper env) (execs body env) (fun f s' => s.toks <= s'.toks -> Q (match f with | .ret v => v | _ => .none) s') (fun e s' => wpAny c.M (A.deeper env) (leaving env e) (fun _ s'' => s.toks <= s''.toks -> E e s'') (fun e' s'' => s.toks <= s''.toks -> E e' s'') s') s₁) :
 codeAny c.M A (.call (.ref a) args) (fun r s' => match r with | .ok (.ret v) => s.toks <= s'.toks -> Q v s' | .ok _ => False | .error e => s.toks <= s'.toks -> E e s') s := by
 refine hideG fun G KG => ?_
 obtain ⟨o, fd, ho, hdat, hbody, hsc, hclo, hgl, hbl, hcd, hbind, hbd⟩ := hdx
 subst hsc
 have hvl : vs.length = ps.length := by rw [<- r.length, hl]
 have hkinds : ∀ x ∈ bindsOf ps vs, fd.scope.names.lookup x.1 = some .local \/ (fd.scope.names.lookup x.1 = some .cell /\ ((cellsFrom (s.heap.objs.size + 1) fd.scope.names []).lookup x.1).isSome = true) := fun x hx => by
  obtain ⟨x1, x2⟩ := x
  have := List.of_mem_zip hx
  (refine x12 (List.mem_map.mp this.1) ?_; intro p hp e)
  subst e
  rcases hd.kinds p hp with q | q
  · exact .inl q
  · exact .inr ⟨q, cellsFrom_has _ _ _ q⟩
 have hnames : ((bindsOf ps vs).map (·.1)).Nodup := by
  unfold bindsOf
  rw [List.map_fst_zip (by simp [hvl])]
  have : ∀ l : List String, l.Nodup -> (l.map oS).Nodup := by
   intro l hl
   induction l with
   | nil => exact .nil
   | cons x l ih =>
    rw [List.map_cons, List.nodup_cons]
    refine ⟨fun q => ?_, ih (List.nodup_cons.mp hl).2⟩
    (refine x12 (List.mem_map.mp q) ?_; intro y hy e)
    exact (List.nodup_cons.mp hl).1 (ofString_inj e ▸ hy)
  exact this ps hd.nodup
 refine KG ?_
 refine codeAny_call_function hA.lim (hS.keep _ _ ho) hdat hd.co hd.gen hbody (hcd.keeps hS.keep) ?_
 erw [hclo]
 refine hbind s hS.keep _ _ _ _ (wT (Nat.le_refl _) (wpAny_newFunctionEnv_cells hd.kind hkinds fun env he s₁ x htok => ?_))
 subst he
 refine ⟨(hS.good.lim.keeps hS.keep).keeps x.toInCall.keep, codeAny_func ?_⟩
 -- the body
 have hk₁ : Keeps s.heap s₁.heap := x.toInCall.keep
 have hca := x.apart
 refine hideG fun G KG => ?_
 (refine x21 x.toInCall.same ?_; rintro h₁ tk rfl)
 have hcellAt : ∀ y b, (y, b) ∈ (callEnvC fd s.heap.objs.size a).cells -> (callEnvC fd s.heap.objs.size a).cells.lookup y = some b := fun y b hm => by
  have hnd : ((cellsFrom (s.heap.objs.size + 1) fd.scope.names []).map (·.1)).Nodup := cellsFrom_shift fd.scope.names 0 (s.heap.objs.size + 1) [] [] rfl ▸ hd.cnd
  exact lookup_of_mem_nodup hnd hm
 have htk : 0 < tk := Nat.lt_of_lt_of_le hS.pos htok
 have gr1 : Gr s { s with heap := h₁, toks := tk } := ⟨hk₁, htok, .rfl, rfl⟩
 have hnew : ∀ b ∈ s.heap.objs.size :: (callEnvC fd s.heap.objs.size a).cells.map (·.2), s.heap.get? b = none := fun b hb => by
  have : s.heap.objs.size <= b := by
   rcases mC.mp hb with q | q
   · exact Nat.le_of_eq q.symm
   · (refine x12 (List.mem_map.mp q) ?_; rintro p hp rfl)
     exact Nat.le_of_lt (x.above p.1 p.2 hp)
  cases e : s.heap.get? b with
  | none => rfl
  | some o' => exact absurd (Heap.lt_size e) (Nat.not_lt.mpr this)
 have hfl := r.alive
 have hXc : ∀ b ∈ s.heap.objs.size :: ((callEnvC fd s.heap.objs.size a).cells.map (·.2) ++ fp), s.heap.get? b = none \/ b ∈ fp := fun b hb => by
  rcases mC.mp hb with q | q
  · exact .inl (hnew b (q ▸ .head _))
  · rcases mA.mp q with q | q
    · exact .inl (hnew b (.tail _ q))
    · exact .inr (by simpa using q)
 have hnewH : ∀ b ∈ s.heap.objs.size :: ((callEnvC fd s.heap.objs.size a).cells.map (·.2) ++ fp), (hideAll s.heap fp).get? b = none := fun b hb => by
  rcases hXc b hb with q | q
  · cases e : (hideAll s.heap fp).get? b with
    | none => rfl
    | some o' => have := of_hideAll _ e; rw [q] at this; cases this
  · exact hideAll_none _ q
 have F : Fm c fd.scope (callEnvC fd s.heap.objs.size a) V (hideAll s.heap fp) (callEnvC fd s.heap.objs.size a).cells (s.heap.objs.size :: ((callEnvC fd s.heap.objs.size a).cells.map (·.2) ++ fp)) (ps.zip sls) { s with heap := h₁, toks := tk } := by
  refine ⟨hS.good, rfl, hd.kind, hgl, hbl, fun b o e => hideAll_get _ (hS.keep b o e) (fun q => by rw [hfb b q] at e; cases e), fun b o e => hk₁ b o (of_hideAll _ e), Nat.ne_of_gt htk, (fun b q => by
   obtain ⟨o', e⟩ := hS.live b q
   exact ⟨⟨o', hk₁ _ _ e⟩, fun hb => (hXc b hb).elim (fun q' => by rw [q'] at e; cases e) fun q' => hfV b q' q⟩), (fun y hy => by
   rcases hy with hy | hy
   · exact Option.isSome_iff_exists.mp (cellsFrom_has fd.scope.names (s.heap.objs.size + 1) [] hy)
   · exact absurd hy (hd.nofree y)), hnewH, fun _ _ q => q, fun y z b hy hz => lookup_inj hca hy hz,
   ⟨_, fp, x.toInCall.ns, rfl, ?_, fun b hb => ?_, fun p hp => ⟨_, x.cell p.1 p.2 (hcellAt _ _ hp)⟩, ?_⟩⟩
  · have hold : ∀ b ∈ fp, ∀ b' ∈ s.heap.objs.size :: (callEnvC fd s.heap.objs.size a).cells.map (·.2), b' ≠ b := fun b hb b' hb' q => by
     obtain ⟨o', e⟩ := hfl b hb
     rw [<- q, hnew b' hb'] at e; cases e
    refine List.nodup_cons.mpr ⟨fun q => ?_, List.nodup_append.mpr ⟨List.pairwise_map.mpr hca, hfn, fun b hb b' hb' q => hold b' hb' b (.tail _ hb) q⟩⟩
    rcases mA.mp q with q | q
    · (refine x12 (List.mem_map.mp q) ?_; intro p hp e)
      have := x.above p.1 p.2 hp
      exact Nat.lt_irrefl _ (e ▸ this)
    · exact hold _ q _ (.head _) rfl
  · rcases mC.mp hb with q | q
    · (refine x32 x.toInCall.ns ?_; intro oL _ _ e _)
      exact ⟨oL, q ▸ e⟩
    · rcases mA.mp q with q | q
      · (refine x12 (List.mem_map.mp q) ?_; rintro p hp rfl)
        (refine x12 (x.cell p.1 p.2 (hcellAt _ _ hp)) ?_; intro oc e _)
        exact ⟨oc, e⟩
      · obtain ⟨o', e⟩ := hfl b (by simpa using q)
        exact ⟨o', hk₁ _ _ e⟩
  · have hloc : ∀ p v, (oS p, v) ∈ bindsOf ps vs -> p ∈ ps -> Loc (callEnvC fd s.heap.objs.size a) { s with heap := h₁, toks := tk } (bindL (callEnvC fd s.heap.objs.size a).kindOf (bindsOf ps vs) fun _ => none) p v := fun p v hm hp => by
     rcases hd.kinds p hp with q | q
     · exact .loc q (bindL_at q _ _ hnames hm)
     · obtain ⟨b, hb⟩ := Option.isSome_iff_exists.mp (cellsFrom_has fd.scope.names (s.heap.objs.size + 1) [] q)
       (refine x12 (x.cell _ _ hb) ?_; intro oc e hdc)
       refine .cell (.inl q) hb e (hdc.trans ?_)
       have : bindC (callEnvC fd s.heap.objs.size a).kindOf (bindsOf ps vs) (fun _ => none) (oS p) = some v := bindC_at (by
        show fd.scope.names.lookup _ ≠ _
        rw [q]; decide) _ _ hnames hm
       exact congrArg _ this
    have r2 : RepSL c (Vol V (s.heap.objs.size :: ((callEnvC fd s.heap.objs.size a).cells.map (·.2) ++ fp))) { s with heap := h₁, toks := tk } sls vs fp :=
     ((r.ext (W := fun b => b ∈ s.heap.objs.size :: (callEnvC fd s.heap.objs.size a).cells.map (·.2)) hnew).calm (gr1.calm _) (fun b q => by
      rcases q with q | q
      · exact .inl (.inl q)
      · rcases mC.mp q with q | q
        · exact .inr (q ▸ .head _)
        · rcases mA.mp q with q | q
          · exact .inr (.tail _ q)
          · exact .inl (.inr q)) fun b _ o e => hk₁ b o e)
    exact repSL_zip r2 hl hloc
 refine KG ?_
 exact wM (h _ _ _ ⟨fd, hbd, rfl, rfl⟩ rfl (hnew _ (.head _)) gr1 F (fun y hy => Option.isSome_iff_exists.mp (cellsFrom_has fd.scope.names (s.heap.objs.size + 1) [] hy)) hXc (fun b hb => .tail _ (mR _ (by simpa using hb)))) (fun f s' q => q) fun _ _ q => q
theorem fn_enterSC {c : Cx} {fp : List Addr} {n : Nat} {a : Addr} {sc : Scope} {ps : List String} {body : List Stmt} {sls : List Slot} {args : Args} {vs : List Value} (hd : IsDefB c a sc ps body args vs) (hl : ps.length = sls.length) {A : Around} {V : Addr -> Prop} {s : Shared}
 {Q E : Value -> Shared -> Prop} (hA : Room c (n + 1) A) (hS : St c V s) (hfV : ∀ a ∈ fp, ¬ V a) (hfn : fp.Nodup) (hfb : ∀ a ∈ fp, c.base.get? a = none) (r : RepSL c (fun a => V a \/ a ∈ fp) s sls vs fp)
 (h : ∀ env X s₁, env.frame = some env.locals -> s.heap.get? env.locals = none -> Gr s s₁ -> Fm c sc env V (hideAll s.heap fp) env.cells X (ps.zip sls) s₁ -> Own sc env.cells -> (∀ a ∈ X, s.heap.get? a = none \/ a ∈ fp) -> (∀ a ∈ fp, a ∈ X) ->
  wpAny c.M (A.deeper env) (execs body env) (fun f s' => s.toks <= s'.toks -> Q (match f with | .ret v => v | _ => .none) s') (fun e s' => wpAny c.M (A.deeper env) (leaving env e) (fun _ s'' => s.toks <= s''.toks -> E e s'') (fun e' s'' => s.toks <= s''.toks -> E e' s'') s') s₁) :
 codeAny c.M A (.call (.ref a) args) (fun r s' => match r with | .ok (.ret v) => s.toks <= s'.toks -> Q v s' | .ok _ => False | .error e => s.toks <= s'.toks -> E e s') s :=
 fn_enterSX (bd := fun _ => True) hd.toDefOk (let ⟨o, fd, h1, h2, h3, h4, h5, h6, h7, h8, h9⟩ := hd.ex; ⟨o, fd, h1, h2, h3, h4, h5, h6, h7, h8, h9, trivial⟩) hl hA hS hfV hfn hfb r fun env X s₁ _ => h env X s₁
theorem RepL.slots {c : Cx} {V : Addr -> Prop} {s : Shared} {ds : List D} : ∀ {vs}, RepL c V s ds vs -> RepSL c V s (ds.map .val) vs [] := by
 induction ds with
 | nil => intro vs r; cases r; exact .nil
 | cons d ds ih => intro vs r; cases r with | cons r rs => exact .cons (fp := []) (fps := []) (.val r) (ih rs)
theorem stoOf_zip : ∀ (ps : List String) (ds : List D), ps.zip (ds.map Slot.val) = stoOf ps ds
 | [], _ => rfl
 | _ :: _, [] => rfl
 | p :: ps, d :: ds => congrArg ((p, Slot.val d) :: ·) (stoOf_zip ps ds)
theorem fn_enterB {c : Cx} {n : Nat} {a : Addr} {sc : Scope} {ps : List String} {body : List Stmt} {ds : List D} {args : Args} {vs : List Value} (hd : IsDefB c a sc ps body args vs) (hl : ps.length = ds.length) {A : Around} {V : Addr -> Prop} {s : Shared}
 {Q E : Value -> Shared -> Prop} (hA : Room c (n + 1) A) (hS : St c V s) (r : RepL c V s ds vs)
 (h : ∀ env X s₁, env.frame = some env.locals -> s.heap.get? env.locals = none -> Gr s s₁ -> Fm c sc env V s.heap env.cells X (stoOf ps ds) s₁ -> Own sc env.cells -> (∀ a ∈ X, s.heap.get? a = none) ->
  wpAny c.M (A.deeper env) (execs body env) (fun f s' => s.toks <= s'.toks -> Q (match f with | .ret v => v | _ => .none) s') (fun e s' => wpAny c.M (A.deeper env) (leaving env e) (fun _ s'' => s.toks <= s''.toks -> E e s'') (fun e' s'' => s.toks <= s''.toks -> E e' s'') s') s₁) :
 codeAny c.M A (.call (.ref a) args) (fun r s' => match r with | .ok (.ret v) => s.toks <= s'.toks -> Q v s' | .ok _ => False | .error e => s.toks <= s'.toks -> E e s') s :=
 fn_enterSC (fp := []) (sls := ds.map .val) hd (by rw [List.length_map]; exact hl) hA hS (fun _ q => nomatch q) .nil (fun _ q => nomatch q) ((r.weak fun a q => q.elim id fun q => nomatch q).slots) fun env X s₁ hf hn g F hO hX _ =>
  h env X s₁ hf hn g (stoOf_zip ps ds ▸ F) hO fun a ha => (hX a ha).resolve_right fun q => nomatch q
theorem fn_enter {c : Cx} {n : Nat} {a : Addr} {sc : Scope} {ps : List String} {body : List Stmt} {ds : List D} (hd : IsDefL c a sc ps body) (hl : ps.length = ds.length) {A : Around} {V : Addr -> Prop} {s : Shared} {vs : List Value}
 {Q E : Value -> Shared -> Prop} (hA : Room c (n + 1) A) (hS : St c V s) (r : RepL c V s ds vs)
 (h : ∀ env X s₁, env.frame = some env.locals -> s.heap.get? env.locals = none -> Gr s s₁ -> Fm c sc env V s.heap env.cells X (stoOf ps ds) s₁ -> Own sc env.cells -> (∀ a ∈ X, s.heap.get? a = none) ->
  wpAny c.M (A.deeper env) (execs body env) (fun f s' => s.toks <= s'.toks -> Q (match f with | .ret v => v | _ => .none) s') (fun e s' => wpAny c.M (A.deeper env) (leaving env e) (fun _ s'' => s.toks <= s''.toks -> E e s'') (fun e' s'' => s.toks <= s''.toks -> E e' s'') s') s₁) :
 wpAny c.M A (call (.ref a) vs) Q E s :=
 wT (Nat.le_refl _) (wpAny_call (codeAny_mono (fn_enterB (hd.toB (by rw [<- r.length, hl])) hl hA hS r h) fun r s' q => by
  cases r with
  | error e => exact q
  | ok f =>
   cases f with
   | ret v => exact q
   | _ => exact q.elim))
theorem SPost.out {c : Cx} {sc : Scope} {env : Env} {V : Addr -> Prop} {Cs : List (Str × Addr)} {X : List Addr} {s s₁ s' : Shared} {P : AF -> Sto -> Prop} {f : Flow} {d : D} (q : SPost c sc env V s.heap Cs X s₁ P f s') (g : Gr s s₁) (ht : s.toks <= s'.toks) (hp : ∀ af ρ, P af ρ -> af = .ret d \/ (af ≠ .ret d /\ d = .none /\ ∀ d', af ≠ .ret d')) :
 Gr s s' /\ Rep c V s' d (match (generalizing := false) f with | .ret v => v | _ => .none) := by
 obtain ⟨X', ρ', af, t, F', hfl, p⟩ := q
 refine ⟨⟨F'.keep, ht, t.gens.trans g.gens, t.os.trans g.os⟩, ?_⟩
 rcases hp _ _ p with rfl | ⟨_, rfl, hn⟩
 · cases hfl with
   | ret r' => exact r'.weak fun _ q => .inl q
 · cases hfl with
   | ret r' => exact absurd rfl (hn _)
   | _ => exact .none
theorem FnR.def {c : Cx} {n : Nat} {a : Addr} {sc : Scope} {ps : List String} {body : List Stmt} {ds : List D} {d : D} (hd : IsDef c a sc ps body) (hl : ps.length = ds.length)
 (h : Tr c n sc (stoOf ps ds) body fun af _ => af = .ret d \/ (af ≠ .ret d /\ d = .none /\ ∀ d', af ≠ .ret d')) : FnR c (n + 1) (.ref a) ds d := .mk fun A V s vs hA hS r =>
 fn_enter (Q := fun v s' => Gr s s' /\ Rep c V s' d v) (E := fun _ _ => False) hd.toIsDefL hl hA hS r fun env X s₁ _ _ g F hO _ =>
  wM (h.run (A.deeper env) env V _ env.cells X s₁ (hA.deeper env) ⟨hO, fun q => absurd q hd.nl⟩ F) (fun f s' q ht => q.out g ht fun _ _ p => p) fun _ _ q => q.elim
theorem FnR.of {c : Cx} {n : Nat} {a : Addr} {sc : Scope} {ps : List String} {body : List Stmt} {ds : List D} {d : D} (hd : IsDef c a sc ps body) (hl : ps.length = ds.length)
 (h : Tr c n sc (stoOf ps ds) body fun af _ => af = .ret d) : FnR c (n + 1) (.ref a) ds d := FnR.def hd hl (h.mono fun _ _ q => .inl q)
section
section
variable {c : Cx} {n : Nat} {sc : Scope} {k : Bool} {ρ : Sto}
structure EvL (c : Cx) (n : Nat) (sc : Scope) (k : Bool) (ρ : Sto) (es : List Expr) (ds : List D) : Prop where
 run : ∀ A env V0 h0 Cs X s pos, Room c n A -> Fm c sc env V0 h0 Cs X ρ s ->
  wpAny c.M A (spliced (backTo pos (starEach es env))) (fun vs s' => Gr s s' /\ RepL c (VK k V0 X) s' ds vs) NoE s
theorem EvL.nil : EvL c n sc k ρ [] [] := .mk fun A env V0 h0 Cs X s pos _ _ => wN ⟨.refl s, .nil⟩
theorem EvL.cons {e : Expr} {es : List Expr} {d : D} {ds : List D} (h : Ev c n sc k ρ e d) (hs : EvL c n sc k ρ es ds) (hp : plainE e = true := by rfl) : EvL c n sc k ρ (e :: es) (d :: ds) :=
 .mk fun A env V0 h0 Cs X s pos hA F => wI (wM (h.run A env V0 h0 Cs X s hA F) (fun v s₁ q₁ => wM (hs.run A env V0 h0 Cs X s₁ pos hA (F.gr q₁.1)) (fun vs s2 q₂ =>
  ⟨q₁.1.trans q₂.1, .cons (q₁.2.gr q₂.1) q₂.2⟩) fun _ _ q => q) fun _ _ q => q) (starEach_cons hp)
inductive Callee (c : Cx) : Value -> Prop
 | builtin (id : String) : Callee c (.builtin id)
 | type (T : String) : Callee c (.type T)
 | func {a o fd} : c.base.get? a = some o -> o.data = .func fd -> Callee c (.ref a)
theorem noStar_all {es : List Expr} {env : Env} {pos : Pos} (h : es.all plainE = true) : (backTo pos (starEach es env)).any (·.1) = false := by
 induction es with
 | nil => rfl
 | cons e es ih =>
  simp only [List.all_cons, Bool.and_eq_true] at h
  rw [starEach_cons h.1]
  exact ih h.2
theorem evalArgs_of {M : Model} {A : Around} {E : Value -> Shared -> Prop} {s : Shared} {env : Env} {f : Value} {es : List Expr} {pos : Pos} {Q : Args -> Shared -> Prop} (hp : es.all plainE = true)
 (h : wpAny M A (spliced (backTo pos (starEach es env))) (fun vs s' => Q ⟨vs, []⟩ s') E s) : wpAny M A (evalArgs f true (backTo pos (starEach es env)) []) Q E s := by
 cases es with
 | nil =>
  unfold evalArgs
  show wpAny M A (spliced [] >>= _) Q E s
  refine wB (wM h (fun vs s' h' => ?_) fun _ _ x => x)
  refine wH ?_
  exact wB (wP (wB (wP (wP h'))))
 | cons e es =>
  simp only [List.all_cons, Bool.and_eq_true] at hp
  rw [starEach_cons hp.1] at h ⊢
  exact Calls.evalArgs_plain h
theorem Callee.wp {M : Model} {A : Around} {E : Value -> Shared -> Prop} {s : Shared} {env : Env} {f : Value} {es : List Expr} {pos : Pos} {first : List Value} {Q : Value -> Shared -> Prop} (hf : Callee c f) (hp : es.all plainE = true)
 (h : wpAny M A (spliced (backTo pos (starEach es env))) (fun vs s' => Keeps c.base s'.heap /\ wpAny M A (call f (first ++ vs)) Q E s') E s) :
 wpAny M A (callWith pos f first (backTo pos (starEach es env)) []) Q E s := by
 cases hf with
 | builtin id => exact Calls.callWith_builtin (noStar_all hp) (evalArgs_of hp (wM h (fun _ _ q => q.2) fun _ _ q => q))
 | type T => exact PySem.callWith_type (noStar_all hp) (evalArgs_of hp (wM h (fun _ _ q => q.2) fun _ _ q => q))
 | func ho hd => exact Calls.callWith_function (evalArgs_of hp (wM h (fun _ _ q => ⟨⟨q.1 _ _ ho, hd⟩, q.2⟩) fun _ _ q => q))
theorem Ev.call {f : Expr} {es : List Expr} {pos : Pos} {fv : Value} {ds : List D} {d : D} (hf : Ev c n sc true ρ f (.val fv)) (hc : Callee c fv) (ha : EvL c n sc k ρ es ds) (h : FnR c n fv ds d)
 (hp : es.all plainE = true := by rfl)
 (he : ∀ env : Env, eval (.Call f es [] pos) env = (do callWith pos (<- eval f env) [] (backTo pos (starEach es env)) (backToKw pos (keywordEach [] env))) := by intro _; rfl) : Ev c n sc k ρ (.Call f es [] pos) d :=
 .mk fun A env V0 h0 Cs X s hA F => by
  rw [he]
  refine wB (wM (hf.run A env V0 h0 Cs X s hA F) (fun v s₁ q₁ => ?_) fun _ _ q => q)
  obtain ⟨g₁, r₁⟩ := q₁
  cases r₁.inv
  refine hc.wp hp (wM (ha.run A env V0 h0 Cs X s₁ pos hA (F.gr g₁)) (fun vs s2 q₂ => ⟨((F.gr g₁).gr q₂.1).base.trans ((F.gr g₁).gr q₂.1).keep, ?_⟩) fun _ _ q => q)
  exact wp_gr (g₁.trans q₂.1) (h.run A _ s2 vs hA ((F.st k).gr (g₁.trans q₂.1)) q₂.2)
noncomputable def D.ty : D -> Option String
 | .str _ => some "str"
 | .list _ => some "list"
 | .tuple _ => some "tuple"
 | .dict _ => some "dict"
 | .int _ => some "int"
 | .bool _ => some "bool"
 | _ => Option.none
theorem Rep.typeIs {V s d v T} (r : Rep c V s d v) (h : d.ty = some T) : s.TypeIs v T /\ (∀ a, v = .ref a -> ∃ ob, s.heap.get? a = some ob /\ ob.dict = Option.none) := by
 replace r := r.inv
 cases d with
 | bool b => cases h; erw [show v = _ from r]; exact ⟨rfl, fun _ e => nomatch e⟩
 | int i => cases h; obtain ⟨_, rfl⟩ := r; exact ⟨rfl, fun _ e => nomatch e⟩
 | str x => cases h; obtain ⟨_, rfl⟩ := r; exact ⟨typeIs_str _ _ _, fun _ e => nomatch e⟩
 | list ds => cases h; obtain ⟨_, _, _, _, rfl, _, ho, hcl, hd, _⟩ := r; exact ⟨⟨_, ho, hcl⟩, fun _ e => by cases e; exact ⟨_, ho, hd.1⟩⟩
 | tuple ds => cases h; obtain ⟨_, _, _, _, rfl, _, ho, hcl, hd, _⟩ := r; exact ⟨⟨_, ho, hcl⟩, fun _ e => by cases e; exact ⟨_, ho, hd.1⟩⟩
 | dict kvs => cases h; obtain ⟨_, _, _, _, rfl, _, _, ho, hx, _⟩ := r; exact ⟨⟨_, ho, hx.1⟩, fun _ e => by cases e; exact ⟨_, ho, hx.2.1⟩⟩
 | _ => cases h
theorem Ev.meth {o : Expr} {name : Str} {apos pos : Pos} {es : List Expr} {T id : String} {d₀ : D} {ds : List D} {d : D} (ho : Ev c n sc k ρ o d₀) (hT : d₀.ty = some T) (pa : PlainAttrs T) (slot : PySem.Slot T name id)
 (hty : typeOf (.builtin id) = pure (.type "method_descriptor")) (ha : EvL c n sc k ρ es ds) (h : FnR c n (.builtin id) (d₀ :: ds) d)
 (hline : (apos.endLine == pos.line) = true := by rfl) (hp : es.all plainE = true := by rfl) (hlen : decide (es.length < 30) = true := by rfl)
 (hbase : ∀ env : Env, attributeBase o name env (eval o env) = eval o env := by intro _; rfl) : Ev c n sc k ρ (.Call (.Attribute o name apos) es [] pos) d :=
 .mk fun A env V0 h0 Cs X s hA F => by
  refine wpAny_Call_method (hbase env) ?_ hline pa slot hty (wM (ho.run A env V0 h0 Cs X s hA F) (fun v s₁ q₁ => ?_) fun _ _ q => q)
  · have : (backTo pos (starEach es env)).all (fun x => !x.1) = true := by
     have h2 := noStar_all (env := env) (pos := pos) hp
     rw [List.all_eq_not_any_not]
     simpa using h2
    erw [this]
    have hl : decide (es.length < 30) = true := hlen
    exact hl
  · have ht := q₁.2.typeIs hT
    refine ⟨ht.1, ht.2, (Callee.builtin (c := c) id).wp hp (wM (ha.run A env V0 h0 Cs X s₁ pos hA (F.gr q₁.1)) (fun vs s2 q₂ => ⟨((F.gr q₁.1).gr q₂.1).base.trans ((F.gr q₁.1).gr q₂.1).keep, ?_⟩) fun _ _ q => q)⟩
    exact wp_gr (q₁.1.trans q₂.1) (h.run A _ s2 (v :: vs) hA ((F.st k).gr (q₁.1.trans q₂.1)) (.cons (q₁.2.gr q₂.1) q₂.2))
theorem Ev.list {es : List Expr} {pos : Pos} {ds : List D} (h : EvL c n sc k ρ es ds) (hsz : ds.length <= sizeLine) : Ev c n sc k ρ (.List es pos) (.list ds) := .mk fun A env V0 h0 Cs X s hA F =>
 wpAny_List (wM (h.run A env V0 h0 Cs X s pos hA F) (fun vs s₁ q => ⟨q.2.length ▸ hsz, q.1.trans (.push _), .list (fun q' => by
  obtain ⟨o, e⟩ := ((F.st k).gr q.1).live _ q'
  exact absurd (Heap.lt_size e) (Nat.lt_irrefl _)) (Heap.get?_push_size _ rfl) rfl ⟨rfl, rfl⟩ rfl (by simpa using q.2.gr (.push _))⟩) fun _ _ q => q)
theorem Ev.tuple {es : List Expr} {kk : Nat} {pos : Pos} {ds : List D} (h : EvL c n sc k ρ es ds) (hsz : ds.length <= sizeLine) : Ev c n sc k ρ (.Tuple es kk pos) (.tuple ds) := .mk fun A env V0 h0 Cs X s hA F =>
 wpAny_Tuple (wM (h.run A env V0 h0 Cs X s pos hA F) (fun vs s₁ q => ⟨q.2.length ▸ hsz, q.1.trans (.push _), .tuple (fun q' => by
  obtain ⟨o, e⟩ := ((F.st k).gr q.1).live _ q'
  exact absurd (Heap.lt_size e) (Nat.lt_irrefl _)) (Heap.get?_push_size _ rfl) rfl ⟨rfl, rfl⟩ rfl (by simpa using q.2.gr (.push _))⟩) fun _ _ q => q)
theorem Ev.sub {value slice : Expr} {pos : Pos} {d₁ d₂ d : D} {T id : String} (h1 : Ev c n sc k ρ value d₁) (h2 : Ev c n sc k ρ slice d₂) (hT : d₁.ty = some T) (hl : typeLookup (.type T) "__getitem__" = pure (some (.builtin id))) (h : ItemR c d₁ d₂ d)
 (hs : ∀ o i, subscripted slice false o i = operate [o, i] (getItem o i) := by intro _ _; rfl) : Ev c n sc k ρ (.Subscript value slice pos) d := .mk fun A env V0 h0 Cs X s hA F =>
 Subscript_ (wM (h1.run A env V0 h0 Cs X s hA F) (fun o s₁ q₁ => wM (h2.run A env V0 h0 Cs X s₁ hA (F.gr q₁.1)) (fun i s2 q₂ =>
  tail_any ((q₁.2.gr q₂.1).typeIs hT).1 hl (wp_gr (q₁.1.trans q₂.1) (h A _ s2 o i hA.zero ((F.st k).gr (q₁.1.trans q₂.1)) (q₁.2.gr q₂.1) q₂.2)) (hs o i)) fun _ _ q => q) fun _ _ q => q)
end
end
section
noncomputable def cs (x : String) : List Nat := x.toList.map Char.toNat
theorem ofString_S (x : String) : oS x = S (cs x) := Str.ofString_eq_toList x
theorem S_append (a b : List Nat) : S a ++ S b = S (a ++ b) := by
 show (⟨a.toArray ++ b.toArray⟩ : Str) = _
 simp
theorem S_length (a : List Nat) : (S a).length = a.length := by simp [Str.length]
theorem S_inj {a b : List Nat} (h : S a = S b) : a = b := by
 injection h with h; simpa using congrArg Array.toList h
theorem S_of (x : Str) : x = S x.cps.toList := by cases x; rfl
noncomputable abbrev sd (l : List Nat) : D := .str (S l)
section
variable {c : Cx} {n : Nat} {sc : Scope} {k : Bool} {ρ : Sto}
theorem Ev.lit {x : String} {kk : Nat} {pos : Pos} : Ev c n sc k ρ (.Constant (.str (oS x)) kk pos) (sd (cs x)) := by
 have := Ev.str (c := c) (n := n) (sc := sc) (k := k) (ρ := ρ) (x := oS x) (kk := kk) (pos := pos)
 rw [ofString_S] at this ⊢; exact this
/- ints -/
theorem BinR.sub {a b : Int} : BinR c .Sub (.int a) (.int b) (.int (a - b)) := fun A V s v₁ v₂ _ _ r₁ r₂ => by
 obtain ⟨_, rfl⟩ := r₁.inv; obtain ⟨_, rfl⟩ := r₂.inv; exact wp_end (P.sub_int ⟨fun _ _ e => e, rfl, rfl, fun _ => .int _ _⟩)
theorem BinR.fdiv {a b : Int} (hb : b ≠ 0) (hs : b.natAbs < 1073741824) : BinR c .FloorDiv (.int a) (.int b) (.int (a.fdiv b)) := fun A V s v₁ v₂ _ _ r₁ r₂ => by
 obtain ⟨_, rfl⟩ := r₁.inv; obtain ⟨_, rfl⟩ := r₂.inv; exact wp_end (floordiv_int hb ⟨fun _ _ e => e, rfl, rfl, fun _ => .int _ _⟩ (.inl (PyProof.noPylong_small hs)))
theorem BinR.fmod {a b : Int} (hb : b ≠ 0) (hn : c.hn := by assumption) : BinR c .Mod (.int a) (.int b) (.int (a.fmod b)) := fun A V s v₁ v₂ hA _ r₁ r₂ => by
 obtain ⟨_, rfl⟩ := r₁.inv; obtain ⟨_, rfl⟩ := r₂.inv; exact wp_end (mod_int_or (hA.handled hn) (fun h => absurd h hb) fun _ => ⟨fun _ _ e => e, rfl, rfl, fun _ => .int _ _⟩)
theorem CmpR.eqI {a b : Int} : CmpR c .Eq (.int a) (.int b) (decide (a = b)) := fun A V s v₁ v₂ _ _ r₁ r₂ => by
 obtain ⟨_, rfl⟩ := r₁.inv; obtain ⟨_, rfl⟩ := r₂.inv; exact P.eq_int ⟨.refl s, by by_cases h : a = b <;> simp [h]⟩
theorem CmpR.ltI {a b : Int} : CmpR c .Lt (.int a) (.int b) (decide (a < b)) := fun A V s v₁ v₂ _ _ r₁ r₂ => by
 obtain ⟨_, rfl⟩ := r₁.inv; obtain ⟨_, rfl⟩ := r₂.inv; exact P.lt_int ⟨.refl s, rfl⟩
theorem TruR.bool {b : Bool} : TruR c (.bool b) b := fun A V s v _ _ r => by
 cases r.inv; exact wpAny_truthy_bool ⟨.refl s, rfl⟩
/- texts -/
theorem BinR.cat {a b : List Nat} (hz : a.length + b.length <= 16777216) : BinR c .Add (sd a) (sd b) (sd (a ++ b)) := fun A V s v₁ v₂ _ _ r₁ r₂ => by
 obtain ⟨t, rfl⟩ := r₁.inv
 obtain ⟨u, rfl⟩ := r₂.inv
 refine wp_end (P.add_str ?_)
 have e : S a ++ S b = S (a ++ b) := S_append a b
 by_cases h1 : ((S a).length == 0) = true
 · erw [if_pos h1]
   have : S b = S (a ++ b) := by rw [<- e, Str.append_left_empty h1]
   exact ⟨fun _ _ e => e, rfl, rfl, fun _ => this ▸ .str _ _⟩
 · erw [if_neg h1]
   by_cases h2 : ((S b).length == 0) = true
   · erw [if_pos h2]
     have : S a = S (a ++ b) := by rw [<- e, Str.append_right_empty h2]
     exact ⟨fun _ _ e => e, rfl, rfl, fun _ => this ▸ .str _ _⟩
   · erw [if_neg h2, e]
     exact ⟨by rw [S_length, List.length_append, sizeLine_eq]; exact hz, fun _ _ e => e, rfl, rfl, fun _ => .str _ _⟩
theorem CmpR.eqS {a b : List Nat} : CmpR c .Eq (sd a) (sd b) (decide (a = b)) := fun A V s v₁ v₂ _ _ r₁ r₂ => by
 obtain ⟨_, rfl⟩ := r₁.inv; obtain ⟨_, rfl⟩ := r₂.inv; exact P.eq_str ⟨.refl s, by by_cases h : a = b <;> simp [h]⟩
/- items -/
theorem ItemR.list {ds : List D} {i : Int} {d : D} (h0 : 0 <= i) (hd : ds[i.toNat]? = some d) (hi : i < 2 ^ 63 := by omega) : ItemR c (.list ds) (.int i) d := fun A V s v₁ v₂ _ _ r₁ r₂ => by
 obtain ⟨_, rfl⟩ := r₂.inv
 replace r₁ := r₁.inv
 obtain ⟨_, _, _, _, rfl, na, ho, hcl, hdc, hdt, r⟩ := r₁
 (refine x12 (r.get hd) ?_; intro v hv rv)
 exact wpAny_getItem_list ⟨_, ho, hcl, _, hdt⟩ h0 hi (by simpa using hv) ⟨.refl s, rv⟩
theorem ItemR.tuple {ds : List D} {i : Int} {j : Nat} {d : D} (hj : seqIndex? i ds.length = some j) (hd : ds[j]? = some d) (hlo : -(2 ^ 63) <= i := by omega) (hi : i < 2 ^ 63 := by omega) : ItemR c (.tuple ds) (.int i) d := fun A V s v₁ v₂ _ _ r₁ r₂ => by
 obtain ⟨_, rfl⟩ := r₂.inv
 replace r₁ := r₁.inv
 obtain ⟨_, _, _, _, rfl, na, ho, hcl, hdc, hdt, r⟩ := r₁
 (refine x12 (r.get hd) ?_; intro v hv rv)
 have hl := r.length
 exact getItem_tuple ⟨_, ho, hcl, _, hdt⟩ hlo hi (by rw [<- hj, hl]; simp) (by simpa using hv) ⟨.refl s, rv⟩
theorem Ev.subL {value slice : Expr} {pos : Pos} {ds : List D} {i : Int} {d : D} (h1 : Ev c n sc k ρ value (.list ds)) (h2 : Ev c n sc k ρ slice (.int i)) (h : ItemR c (.list ds) (.int i) d)
 (hs : ∀ o i, subscripted slice false o i = operate [o, i] (getItem o i) := by intro _ _; rfl) : Ev c n sc k ρ (.Subscript value slice pos) d := Ev.sub h1 h2 rfl slot_list_getitem.lookup h hs
theorem Ev.subT {value slice : Expr} {pos : Pos} {ds : List D} {i : Int} {d : D} (h1 : Ev c n sc k ρ value (.tuple ds)) (h2 : Ev c n sc k ρ slice (.int i)) (h : ItemR c (.tuple ds) (.int i) d)
 (hs : ∀ o i, subscripted slice false o i = operate [o, i] (getItem o i) := by intro _ _; rfl) : Ev c n sc k ρ (.Subscript value slice pos) d := Ev.sub h1 h2 rfl slot_tuple_getitem.lookup h hs
end
end
section
section
variable {c : Cx} {n : Nat} {sc : Scope} {k : Bool} {ρ : Sto}
theorem isStrOf_iff (c : Cx) {x : Str} {v : Value} : Value.isStrOf x v = true ↔ ∃ t, v = .str x t := by
 constructor
 · exact Value.isStrOf_shape
 · rintro ⟨t, rfl⟩; exact strKind_is c.prog c.w x t
theorem Fm.addV {env V0 h0 Cs X s s'} {a : Addr} (F : Fm c sc env V0 h0 Cs X ρ s) (hn : s.heap.get? a = none) (g : Gr s s') (hl : ∃ o, s'.heap.get? a = some o) : Fm c sc env (fun b => V0 b \/ b = a) h0 Cs X ρ s' := by
 have F' := F.gr g
 refine ⟨F'.good, F'.scope, F'.kind, F'.globals, F'.builtins, F'.base, F'.keep, F'.tok, fun b q => ?_, F'.ccells, F'.new, F'.cells, F'.cinj, ?_⟩
 · rcases q with q | rfl
   · exact F'.live0 b q
   · refine ⟨hl, fun q => ?_⟩
     obtain ⟨_, _, _, _, _, h4, _, _⟩ := F.sto
     obtain ⟨o, e⟩ := h4 _ q
     rw [hn] at e; cases e
 · obtain ⟨m, fps, h1, h2, h3, h4, h6, h5⟩ := F.sto
   obtain ⟨_, _, _, _, _, h4', h6', _⟩ := F'.sto
   exact ⟨m, fps, h1.keeps g.keep, h2, h3, h4', h6', ((h5.ext (W := fun b => b = a) fun b q => q ▸ hn).gr g).weak fun b q => by
    rcases q with (q | q) | q
    · exact .inl (.inl q)
    · exact .inr q
    · exact .inl (.inr q)⟩
theorem RepD.oc {V s k d kvs es} (r : RepD c V s ((k, d) :: kvs) es) : ∃ e es' t, es = e :: es' /\ e.key = .str (S k) t /\ e.hash = hashStr c.w (S k) /\ Rep c V s d e.val /\ RepD c V s kvs es' := by
 cases r with
 | cons hk hh r rs => exact ⟨_, _, _, rfl, hk, hh, r, rs⟩
theorem RepD.o0 {V s es} (r : RepD c V s [] es) : es = [] := by cases r; rfl
theorem RepD.find {V s} (x : List Nat) {kvs : List (List Nat × D)} : ∀ {es : List DictEntry}, RepD c V s kvs es ->
 match kvs.lookup x with
 | some d => ∃ v, (es.find? fun e => Value.isStrOf (S x) e.key).map (·.val) = some v /\ Rep c V s d v
 | none => (es.find? fun e => Value.isStrOf (S x) e.key).map (·.val) = none := by
 induction kvs with
 | nil => intro es r; cases r.o0; rfl
 | cons p kvs ih =>
  intro es r
  obtain ⟨y, d⟩ := p
  (refine x35 r.oc ?_; rintro e es' t rfl hk hh r1 rs)
  have ih := ih rs
  rw [List.lookup_cons]
  by_cases hy : x = y
  · subst hy
    rw [beq_self_eq_true]
    refine ⟨e.val, ?_, r1⟩
    have : Value.isStrOf (S x) e.key = true := (isStrOf_iff c).mpr ⟨t, hk⟩
    erw [List.find?_cons_of_pos (p := fun e : DictEntry => Value.isStrOf (S x) e.key) this]; rfl
  · erw [show (x == y) = false from beq_eq_false_iff_ne.mpr hy]
    have : ¬ Value.isStrOf (S x) e.key = true := fun q => by
     obtain ⟨t', e'⟩ := (isStrOf_iff c).mp q
     rw [hk] at e'; injection e' with e'
     exact hy (S_inj e').symm
    erw [List.find?_cons_of_neg (p := fun e : DictEntry => Value.isStrOf (S x) e.key) this]
    exact ih
theorem RepD.keys {V s} {kvs : List (List Nat × D)} : ∀ {es : List DictEntry}, RepD c V s kvs es -> ∀ e ∈ es, ∃ k, (strKind c.prog c.w).is k e.key = true /\ e.hash = (strKind c.prog c.w).hash k := by
 induction kvs with
 | nil => intro es r e he; rw [r.o0] at he; cases he
 | cons p kvs ih =>
  intro es r e he
  obtain ⟨y, d⟩ := p
  (refine x35 r.oc ?_; rintro e' es' t rfl hk hh r1 rs)
  rcases mC.mp he with rfl | he
  · exact ⟨S y, by rw [hk]; exact strKind_is c.prog c.w _ _, hh⟩
  · exact ih rs e he
theorem Rep.map {V s kvs a} (r : Rep c V s (.dict kvs) (.ref a)) : ∃ f, s.heap.MapOf (strKind c.prog c.w) a f /\ (a == sysModules) = false /\
 ∀ x : List Nat, match kvs.lookup x with | Option.some d => ∃ v, f (S x) = some v /\ Rep c V s d v | Option.none => f (S x) = Option.none := by
 replace r := r.inv
 obtain ⟨_, o, es, nn, e0, na, hsm, ho, hx, hdt, r⟩ := r
 cases e0
 refine ⟨_, ⟨o, es, nn, ho, hx, hdt, fun e he => r.keys e (Array.mem_toList_iff.mpr he), fun _ => rfl⟩, hsm, fun x => ?_⟩
 have h := r.find x
 have e : findBy (strKind c.prog c.w).is es (S x) = (es.toList.find? fun e => Value.isStrOf (S x) e.key).map (·.val) := by
  obtain ⟨l⟩ := es
  unfold findBy
  rw [List.find?_toArray]; rfl
 erw [e]; exact h
theorem CmpR.inD {kvs : List (List Nat × D)} {x : List Nat} : CmpR c .In (sd x) (.dict kvs) (kvs.lookup x).isSome := fun A V s v₁ v₂ _ _ r₁ r₂ => by
 obtain ⟨t, rfl⟩ := r₁.inv
 obtain ⟨a, _, _, _, rfl, _⟩ := r₂.inv
 (refine x13 r₂.map ?_; intro f hm hsm hf)
 have hx := hf x
 have hb : (f (S x)).isSome = (kvs.lookup x).isSome := by
  cases h : kvs.lookup x with
  | some d => rw [h] at hx; (refine x12 hx ?_; clear hx; intro v hv _); rw [hv]; rfl
  | none => rw [h] at hx; rw [hx]; rfl
 exact wp_end (wpAny_in_of (strKind_is c.prog c.w _ t) hsm hm ⟨fun _ _ e => e, rfl, rfl, fun _ => by rw [hb]⟩)
/- a display of a table with written keys -/
inductive EvP (c : Cx) (n : Nat) (sc : Scope) (k : Bool) (ρ : Sto) : List (Option Expr) -> List Expr -> List (List Nat × D) -> Prop
 | nil : EvP c n sc k ρ [] [] []
 | cons {ke ve x d ks vs kvs} : Ev c n sc k ρ ke (sd x) -> Ev c n sc k ρ ve d -> EvP c n sc k ρ ks vs kvs -> EvP c n sc k ρ (some ke :: ks) (ve :: vs) ((x, d) :: kvs)
end
section
variable {c : Cx} {n : Nat} {sc : Scope} {k : Bool} {ρ : Sto}
noncomputable def pairTrees (pos : Pos) (env : Env) : List (Option Expr) -> List Expr -> List (Sem Value × Sem Value)
 | some ke :: ks, ve :: vs => (eval ke env, do let x <- eval ve env; standAt pos; pure x) :: pairTrees pos env ks vs
 | _, _ => []
theorem EvP.shape {ks vs kvs} (h : EvP c n sc k ρ ks vs kvs) (pos : Pos) (env : Env) :
 (evalEachOpt ks env).zip ((evalEach vs env).map fun v => do let x <- v; standAt pos; pure x) = (pairTrees pos env ks vs).map (fun p => (some p.1, p.2)) /\ (pairTrees pos env ks vs).length = kvs.length := by
 induction h with
 | nil => exact ⟨rfl, rfl⟩
 | cons _ _ _ ih =>
  refine ⟨?_, by simp [pairTrees, ih.2]⟩
  simp only [pairTrees, List.map_cons]
  erw [<- ih.1]
  rfl
theorem EvP.wp {ks vs kvs} (h : EvP c n sc k ρ ks vs kvs) : ∀ {A env V0 h0 Cs X s} (pos : Pos), Room c n A -> Fm c sc env V0 h0 Cs X ρ s ->
 wpAny c.M A (evalPairs (pairTrees pos env ks vs)) (fun ps s' => Gr s s' /\ ∃ kvv : List (Str × Value), Carries (strKind c.prog c.w) ps kvv /\ kvv.map (·.1) = kvs.map (fun p => S p.1) /\ RepL c (VK k V0 X) s' (kvs.map (·.2)) (kvv.map (·.2))) NoE s := by
 induction h with
 | nil => intro A env V0 h0 Cs X s pos _ _; exact evalPairs_nil ⟨.refl s, [], trivial, rfl, .nil⟩
 | cons h1 h2 _ ih =>
  intro A env V0 h0 Cs X s pos hA F
  refine evalPairs_cons (wM (h1.run A env V0 h0 Cs X s hA F) (fun kv s₁ q₁ => ?_) fun _ _ q => q)
  refine wB (wM (h2.run A env V0 h0 Cs X s₁ hA (F.gr q₁.1)) (fun vv s2 q₂ => wB (wZ (wP ?_))) fun _ _ q => q)
  refine wM (ih pos hA ((F.gr q₁.1).gr q₂.1)) (fun ps s₃ q₃ => ?_) fun _ _ q => q
  (refine x02 q₃ ?_; clear q₃; intro g₃ r9; refine x13 r9 ?_; clear r9; intro kvv hc hk hr)
  obtain ⟨g₁, r₁⟩ := q₁
  obtain ⟨t, rfl⟩ := r₁.inv
  exact ⟨(g₁.trans q₂.1).trans g₃, (S _, vv) :: kvv, ⟨strKind_is c.prog c.w _ t, rfl, hc⟩, by simp [hk], .cons (q₂.2.gr g₃) hr⟩
theorem merged_nodup {kvs : List (Str × Value)} : ∀ (acc : List (Str × Value)), ((acc ++ kvs).map (·.1)).Nodup -> merged acc kvs = acc ++ kvs := by
 induction kvs with
 | nil => intro acc _; simp [merged]
 | cons p r ih =>
  intro acc h
  have hst : stored acc p.1 p.2 = acc ++ [p] := by
   unfold stored
   rw [if_neg]
   intro q
   (refine x12 (List.any_eq_true.mp q) ?_; intro x hx e)
   have e' : x.1 = p.1 := by simpa using e
   rw [List.map_append, List.nodup_append] at h
   exact h.2.2 x.1 (List.mem_map_of_mem hx) p.1 (by exact .head _) e'
  have := ih (acc ++ [p]) (by simpa using h)
  unfold merged at this ⊢
  erw [List.foldl_cons, hst, this]; simp
theorem repD_of {V s} {es : List DictEntry} {kvv : List (Str × Value)} (h : Pairs (strKind c.prog c.w) es kvv) : ∀ {kvs : List (List Nat × D)}, (∀ e ∈ es, ∃ k, (strKind c.prog c.w).is k e.key = true /\ e.hash = (strKind c.prog c.w).hash k) ->
 kvv.map (·.1) = kvs.map (fun p => S p.1) -> RepL c V s (kvs.map (·.2)) (kvv.map (·.2)) -> RepD c V s kvs es := by
 induction h with
 | nil =>
  intro kvs _ hn _
  cases kvs with
  | nil => exact .nil
  | cons p kvs => cases hn
 | cons hk hv hp ih =>
  intro kvs hh hn hr
  cases kvs with
  | nil => cases hn
  | cons p kvs =>
   have hn := List.cons.inj hn
   (refine x23 hr.oc ?_; intro _ _ e1 r rs)
   have e1 := List.cons.inj e1
   obtain ⟨t, et⟩ := (isStrOf_iff c).mp hk
   (refine x12 (hh _ (.head _)) ?_; intro k' hk' hhash)
   obtain ⟨t', et'⟩ := (isStrOf_iff c).mp hk'
   replace et : _ = Value.str (S p.1) t := et.trans (congrArg (fun z => Value.str z t) hn.1)
   rw [et] at et'
   injection et' with et'
   exact .cons et (by rw [hhash, <- et']; rfl) (by rw [hv.trans e1.1]; exact r) (ih (fun e he => hh e (.tail _ he)) hn.2 (e1.2 ▸ rs))
theorem Ev.dict {ks : List (Option Expr)} {vs : List Expr} {pos : Pos} {kvs : List (List Nat × D)} (h : EvP c n sc true ρ ks vs kvs) (hne : kvs ≠ []) (hlen : kvs.length <= 15) (hnd : (kvs.map (·.1)).Nodup) : Ev c n sc k ρ (.Dict ks vs pos) (.dict kvs) :=
 Ev.weak <| .mk fun A env V0 h0 Cs X s hA F => by
  have hsh := h.shape pos env
  refine wT (Nat.le_refl _) (wpAny_Dict_pairs (knd := strKind c.prog c.w) hsh.1 (fun q => hne (List.length_eq_zero_iff.mp (by rw [<- hsh.2, q]; rfl))) (by rw [hsh.2]; exact hlen) ?_)
  have g0 := Gr.push (s := s) { cls := .type "dict", data := .dict #[] }
  have hnone := get_size s.heap
  have hd0 : (s.heap.push { cls := .type "dict", data := .dict #[] }).get? s.heap.objs.size = some { cls := .type "dict", data := .dict #[] } := Heap.get?_push_size _ rfl
  refine wM (h.wp pos hA (F.addV hnone g0 ⟨_, hd0⟩)) (fun ps s₁ q => ?_) fun _ _ q => fun _ => q
  (refine x02 q ?_; clear q; intro g r9; refine x13 r9 ?_; clear r9; intro kvv hc hk hr)
  refine ⟨kvv, hc, ⟨_, #[], 0, g.keep _ _ hd0, ⟨rfl, rfl, rfl⟩, rfl, fun e he => by simp at he, .nil, .nil⟩, fun h' hdo hs' => fun ht => ?_⟩
  have hkeep : Keeps s.heap h' := fun b o e => (hs'.2 b fun q => by rw [q, hnone] at e; cases e).trans (g.keep _ _ (g0.keep _ _ e))
  have hndv : (kvv.map (·.1)).Nodup := by
   rw [hk]
   have : ∀ l : List (List Nat × D), (l.map (·.1)).Nodup -> (l.map fun p => S p.1).Nodup := by
    intro l hl
    induction l with
    | nil => exact .nil
    | cons x l ih =>
     rw [List.map_cons, List.nodup_cons] at hl ⊢
     refine ⟨fun q => ?_, ih hl.2⟩
     (refine x12 (List.mem_map.mp q) ?_; intro y hy e)
     exact hl.1 (List.mem_map.mpr ⟨y, hy, S_inj e⟩)
   exact this kvs hnd
  rw [merged_nodup [] (by simpa using hndv), List.nil_append] at hdo
  (refine x36 hdo ?_; clear hdo; intro o es ep ho hx hdt hkeys hpairs _)
  have hlive := ((F.st true).live)
  have hvn : ¬ VK true V0 X s.heap.objs.size := fun q => by obtain ⟨o', e⟩ := hlive _ q; rw [hnone] at e; cases e
  have hsys : (s.heap.objs.size == sysModules) = false := by
   (refine x32 ((F.good.g.keeps F.base).keeps F.keep) ?_; intro _ _ _ e _)
   have := Heap.lt_size e
   have h3 : (3 : Nat) < s.heap.objs.size := this
   have : s.heap.objs.size ≠ (1 : Nat) := by omega
   simpa [sysModules] using this
  refine ⟨⟨hkeep, ht, g.gens, g.os⟩, .dict hvn hsys ho hx hdt (repD_of hpairs (fun e he => hkeys e (Array.mem_toList_iff.mp he)) hk ?_)⟩
  refine hr.calm ⟨Nat.le_add_right _ _, fun b o nb e _ => (hs'.2 b fun q => nb ⟨rfl, .inl (.inr q)⟩).trans e⟩ fun a q => ⟨rfl, q.2.imp .inl id⟩
/- text.partition -/
end
end
section
theorem code_comp {c : Cx} {A : Around} {s : Shared} {R : Result -> Shared -> Prop} {elt target iter : Expr} {ifs : List Expr} {scope : Scope} {pos : Pos} {it acc : Value} {env : Env} (I : Nat -> Shared -> Prop)
 (turn : ∀ n s, I n s -> wpAny c.M A (pyNext it) (fun r s₁ => match r with
  | none => R (.ok .next) s₁
  | some v => wpAny c.M A (letOwnedTupleGo target it v) (fun _ s1' => wpAny c.M A (assign target env v) (fun _ s2 =>
   wpAny c.M A (forIn ifs true fun c r => if r = true then do let ok <- isTrue c env (eval c env); pure (ForInStep.yield ok) else pure (ForInStep.yield r)) (fun ok s₃ =>
    if ok = true then wpAny c.M A (eval elt env) (fun x s4 => wpAny c.M A (call (.builtin "list.append") [acc, x]) (fun _ s5 => ∃ m, m < n /\ I m s5) NoE s4) NoE s₃
    else ∃ m, m < n /\ I m s₃) NoE s2) NoE s1') NoE s₁) NoE s)
 (n : Nat) (h : I n s) : codeAny c.M A (.compLoop (.ListComp elt [⟨target, iter, ifs, 0⟩] scope pos) 0 it acc env) R s := by
 refine codeAny_loop rfl I (fun n s hI => ?_) n h
 show wpAny _ A ((compTurn (.ListComp elt [⟨target, iter, ifs, 0⟩] scope pos) 0 it acc env).onRaise (fun x => do noteFrame x env; theTreesLotGoes x)) _ _ s
 refine wpAny_noted ?_
 rw [compTurn_list]
 refine wB (wZ (wB (wM (turn n s hI) (fun r s₁ h₁ => ?_) fun _ _ h' => h'.elim)))
 cases r with
 | none => exact wP h₁
 | some v =>
  refine wB (wM h₁ (fun _ s1' h₁' => ?_) fun _ _ h' => h'.elim)
  refine wB (wM h₁' (fun _ s2 h₂ => wB (wM h₂ (fun ok s₃ h₃ => ?_) fun _ _ h' => h'.elim)) fun _ _ h' => h'.elim)
  cases ok with
  | true =>
   rw [if_pos rfl] at h₃ ⊢
   refine wB (wB (wM h₃ (fun x s4 h₄ => wB (wM h₄ (fun _ s5 h₅ => wP (wP ⟨rfl, h₅⟩)) fun _ _ h' => h'.elim)) fun _ _ h' => h'.elim))
  | false =>
   rw [if_neg Bool.false_ne_true] at h₃ ⊢
   exact wP ⟨rfl, h₃⟩
theorem ItAt.self {c : Cx} {V s it ds} {A : Around} {E : Value -> Shared -> Prop} {Q : Value -> Shared -> Prop} (h : ItAt c V s it ds) (hq : Q (.ref it) s) : wpAny c.M A (pyIter (.ref it)) Q E s := by
 cases h with
 | list h => exact wpAny_pyIter_listiter h hq
 | tuple h => exact wpAny_pyIter_tupleiter h hq
 | range h => exact wpAny_pyIter_rangeiter h hq
 | ascii h => exact wpAny_pyIter_striter_ascii h hq
 | wide h => exact wpAny_pyIter_striter_wide h hq
theorem Obj.dict_mapSeq (o : Obj) (f) : (o.mapSeq f).dict = o.dict /\ (o.mapSeq f).slots = o.slots := by
 obtain ⟨c, d, dt, sl⟩ := o; cases dt <;> exact ⟨rfl, rfl⟩
theorem append_wp {prog : Program} {w : World} {A : Around} {E : Value -> Shared -> Prop} {s : Shared} {l : Addr} {o : Obj} {items : Array Value} {nn : Nat} {x : Value} {Q : Value -> Shared -> Prop} (ho : s.heap.get? l = some o) (hc : o.cls = .type "list") (hdc : o.dict = none /\ o.slots = #[]) (hd : o.data = .seq items nn)
 (hQ : ∀ h' o' n', h'.get? l = some o' -> o'.cls = .type "list" -> (o'.dict = none /\ o'.slots = #[]) -> o'.data = .seq (items.push x) n' -> Heap.SameBut l s.heap h' -> Q .none { s with heap := h' }) (hsz : items.size <= 16777216) :
 wpAny (model prog w) A (call (.builtin "list.append") [.ref l, x]) Q E s := by
 have hT : s.TypeIs (.ref l) "list" := ⟨o, ho, hc⟩
 obtain ⟨n', hd'⟩ := Obj.data_mapSeq hd (·.push x)
 refine wpAny_call_entry slot_list_append hT entry_list_append ?_ (args_list_append _ _)
 show wpAny _ _ (updateSeq l (·.push x) >>= fun _ => ret .none) _ _ s
 refine wB ?_
 refine wpAny_updateSeq ho hd (wP ⟨.none, rfl, hQ _ _ n' (Heap.get?_update_self _ ho (Obj.isFreed_of_seq hd')) ((Obj.cls_mapSeq ..).trans hc) ⟨(Obj.dict_mapSeq ..).1.trans hdc.1, (Obj.dict_mapSeq ..).2.trans hdc.2⟩ hd' (Heap.SameBut.update ..)⟩) (by rw [sizeLine_eq]; exact hsz)
theorem closure_of {scope : Scope} {env : Env} (h : ∀ p ∈ scope.names, p.2 = .free -> ∃ a, env.cells.lookup p.1 = some a) :
 ∃ cl, closureFor scope env = pure cl /\ (∀ p ∈ scope.names, p.2 = .free -> cl.lookup p.1 = env.cells.lookup p.1) /\ (∀ x a, cl.lookup x = some a -> env.cells.lookup x = some a) := by
 unfold closureFor
 have key : ∀ (names : List (Str × NameKind)) (acc : List (Str × Addr)), (∀ p ∈ names, p.2 = .free -> ∃ a, env.cells.lookup p.1 = some a) -> (∀ x a, acc.lookup x = some a -> env.cells.lookup x = some a) ->
  ∃ cl, (forIn names acc fun (x : Str × NameKind) (cs : List (Str × Addr)) => match x with
   | (name, kind) => if (kind == NameKind.free) = true then do let a <- cellOf env name; pure (ForInStep.yield ((name, a) :: cs)) else pure (ForInStep.yield cs) : Sem (List (Str × Addr))) = pure cl /\
   (∀ p ∈ names, p.2 = .free -> cl.lookup p.1 = env.cells.lookup p.1) /\ (∀ x a, acc.lookup x = some a -> cl.lookup x = some a) /\ (∀ x a, cl.lookup x = some a -> env.cells.lookup x = some a) := by
  intro names
  induction names with
  | nil => intro acc _ ha; exact ⟨acc, rfl, (fun p hp => nomatch hp), fun _ _ q => q, ha⟩
  | cons p r ih =>
   intro acc hn ha
   obtain ⟨name, kind⟩ := p
   rw [List.forIn_cons]
   by_cases hk : kind = .free
   · subst hk
     obtain ⟨a, he⟩ := hn _ (.head _) rfl
     have hc : cellOf env name = pure a := by unfold cellOf; rw [he]
     have hacc : ∀ x b, ((name, a) :: acc).lookup x = some b -> env.cells.lookup x = some b := fun x b q => by
      rw [List.lookup_cons] at q
      by_cases hx : x = name
      · subst hx; simp only [beq_self_eq_true] at q; cases q; exact he
      · have : (x == name) = false := by simpa using hx
        rw [this] at q; exact ha x b q
     (refine x14 (ih ((name, a) :: acc) (fun p hp => hn p (.tail _ hp)) hacc) ?_; intro cl e h1 h2 h3)
     refine ⟨cl, ?_, fun p hp hf => ?_, fun x b q => ?_, h3⟩
     · simp only [beq_self_eq_true, if_true, hc]
       exact e
     · rcases mC.mp hp with rfl | hp
       · rw [he]; exact h2 name a (by simp [List.lookup_cons])
       · exact h1 p hp hf
     · by_cases hx : x = name
       · subst hx
         have hb := ha x b q
         rw [he] at hb; cases hb
         exact h2 x a (by simp [List.lookup_cons])
       · refine h2 x b ?_
         have : (x == name) = false := by simpa using hx
         rw [List.lookup_cons, this]; exact q
   · have hb : (kind == NameKind.free) = false := by simpa using hk
     (refine x14 (ih acc (fun p hp => hn p (.tail _ hp)) ha) ?_; intro cl e h1 h2 h3)
     refine ⟨cl, ?_, fun p hp hf => ?_, h2, h3⟩
     · simp only [hb, Bool.false_eq_true, if_false]
       exact e
     · rcases mC.mp hp with rfl | hp
       · exact absurd hf hk
       · exact h1 p hp hf
 (refine x14 (key scope.names [] h fun _ _ q => by cases q) ?_; intro cl e h1 _ h3)
 refine ⟨cl, ?_, h1, h3⟩
 have := e
 simp only [bind_pure]
 exact this
theorem Fm.change {c sc env V0 h0 Cs X ρ s} {a : Addr} {h' : Heap} (F : Fm c sc env V0 h0 Cs X ρ s) (ha : V0 a) (hn : h0.get? a = none) (hs : Heap.SameBut a s.heap h') (hl : ∃ o, h'.get? a = some o)
 (hc : ∀ o v, s.heap.get? a = some o -> o.data ≠ .cell v) : Fm c sc env V0 h0 Cs X ρ { s with heap := h' } := by
 have hx := (F.live0 a ha).2
 obtain ⟨m, fps, h1, h2, h3, h4, h6, h5⟩ := F.sto
 have hLX : env.locals ∈ X := h2 ▸ .head _
 have ne : ∀ b ∈ X, b ≠ a := fun b hb q => hx (q ▸ hb)
 refine ⟨F.good, F.scope, F.kind, F.globals, F.builtins, F.base, fun b o e => (hs.2 b fun q => by rw [q, hn] at e; cases e).trans (F.keep b o e), F.tok, fun b q => ⟨?_, (F.live0 b q).2⟩, F.ccells, F.new, F.cells, F.cinj,
  m, fps, h1.sameBut hs (ne _ hLX), h2, h3, fun b hb => let ⟨o, e⟩ := h4 b hb; ⟨o, (hs.2 b (ne b hb)).trans e⟩, fun p hp => ?_, ?_⟩
 · by_cases hb : b = a
   · subst hb; exact hl
   · obtain ⟨o, e⟩ := (F.live0 b q).1; exact ⟨o, (hs.2 b hb).trans e⟩
 · (refine x22 (h6 p hp) ?_; intro v o e hd)
   exact ⟨v, o, (hs.2 _ fun q => hc o v (q ▸ e) hd).trans e, hd⟩
 · refine h5.change (s := s) (s' := { s with heap := h' }) ⟨Nat.le_refl _, fun b o nb e _ => (hs.2 b fun q => nb (.inl (q ▸ ha))).trans e⟩ (fun b hb o e => (hs.2 b (ne b (h2 ▸ .tail _ (mR _ hb)))).trans e) (fun _ _ _ => rfl)
    fun p _ b o w _ e hw => (hs.2 b fun q => hc o w (q ▸ e) hw).trans e
noncomputable def relab (sc scope : Scope) : Scope := { scope with names := scope.names.map fun (n, k) => if (k == .free && sc.kind == .function && sc.names.lookup n == some .cell) then (n, .cell) else (n, k) }
theorem relab_go {f : Str × NameKind -> Str × NameKind} (h1 : ∀ p, (f p).1 = p.1 /\ (p.2 = .free -> (f p).2 = .cell \/ (f p).2 = .free)) {x : Str} {names : List (Str × NameKind)} : names.lookup x = some .free ->
 (names.map f).lookup x = some .cell \/ (names.map f).lookup x = some .free := by
 induction names with
 | nil => intro h; cases h
 | cons p r ih =>
  intro h
  obtain ⟨y, k⟩ := p
  erw [List.map_cons]
  have hp := h1 (y, k)
  revert hp
  generalize f (y, k) = q
  intro hp
  obtain ⟨y', k'⟩ := q
  cases (show y' = y from hp.1)
  rw [List.lookup_cons] at h ⊢
  cases hb : x == y with
  | true => rw [hb] at h; exact (hp.2 (Option.some.inj h)).imp (congrArg some) (congrArg some)
  | false => rw [hb] at h; exact ih h
theorem relab_free {sc scope : Scope} {x : Str} {names : List (Str × NameKind)} (h : names.lookup x = some .free) :
 (names.map fun (n, k) => if (k == NameKind.free && sc.kind == .function && sc.names.lookup n == some .cell) then (n, NameKind.cell) else (n, k)).lookup x = some .cell \/
 (names.map fun (n, k) => if (k == NameKind.free && sc.kind == .function && sc.names.lookup n == some .cell) then (n, NameKind.cell) else (n, k)).lookup x = some .free :=
 relab_go (fun p => by
  dsimp only
  split
  · exact ⟨rfl, fun _ => .inl rfl⟩
  · exact ⟨rfl, fun h => .inr h⟩) h
theorem relab_mem {sc scope : Scope} {x : Str} {k : NameKind} (hk : k = .cell \/ k = .free) (hnc : ∀ p ∈ scope.names, p.2 ≠ .cell) (h : (relab sc scope).names.lookup x = some k) : (x, NameKind.free) ∈ scope.names := by
 have hm := mem_lookup h
 (refine x12 (List.mem_map.mp hm) ?_; intro p hp e)
 obtain ⟨y, ky⟩ := p
 simp only at e
 split at e
 · rename_i hc
   simp only [Bool.and_eq_true, beq_iff_eq] at hc
   injection e with e1 e2
   subst e1
   rw [<- hc.1.1]; exact hp
 · injection e with e1 e2
   subst e1 e2
   rcases hk with rfl | rfl
   · exact absurd rfl (hnc _ hp)
   · exact hp
structure TstI (c : Cx) (n : Nat) (sc : Scope) (ρ : Sto) (ifs : List Expr) (b : Bool) : Prop where
 run : ∀ A env V0 h0 Cs X s, Room c n A -> Fm c sc env V0 h0 Cs X ρ s ->
  wpAny c.M A (forIn ifs true fun c r => if r = true then do let ok <- isTrue c env (eval c env); pure (ForInStep.yield ok) else pure (ForInStep.yield r)) (fun r s' => Gr s s' /\ r = b) NoE s
theorem TstI.one {c n sc ρ e b} (h : Tst c n sc ρ e b) : TstI c n sc ρ [e] b := .mk fun A env V0 h0 Cs X s hA F => wpAny_tests_one (h.run A env V0 h0 Cs X s hA F)
noncomputable def CItem (c : Cx) (n : Nat) (sc : Scope) (ρ : Sto) (tgt : Expr) (ifs : List Expr) (elt : Expr) (d : D) (r : Option D) : Prop :=
 ∃ ρ1, TgtG false c sc tgt d ρ ρ1 /\ SubS ρ ρ1 /\ match r with
  | some x => TstI c n sc ρ1 ifs true /\ Ev c n sc true ρ1 elt x
  | none => TstI c n sc ρ1 ifs false
structure Capt (sc scope : Scope) (ρ ρi : Sto) : Prop where
 kind : scope.kind = .function
 nocell : ∀ p ∈ scope.names, p.2 ≠ .cell
 names : ∀ x ∈ scope.names, x.2 = .local -> scope.names.lookup x.1 = some .local
 free : ∀ p ∈ scope.names, p.2 = .free -> sc.names.lookup p.1 = some .cell \/ sc.names.lookup p.1 = some .free
 sto : ∀ p ∈ ρi, ∃ d, p.2 = .val d /\ ρ.lookup p.1 = some (.val d) /\ scope.names.lookup (oS p.1) = some .free /\ p.1 ≠ "__classdict__"
section
variable {c : Cx} {n : Nat} {sc : Scope} {k : Bool} {ρ : Sto}
theorem StoR.vals {env : Env} {V : Addr -> Prop} {s : Shared} {m : Str -> Option Value} {ρ fps} (h : StoR c env V s m ρ fps) : (∀ p ∈ ρ, ∃ d, p.2 = .val d) -> fps = [] := by
 induction h with
 | nil => exact fun _ => rfl
 | cons _ r _ ih =>
  intro h
  obtain ⟨d, e⟩ := h _ (.head _)
  simp only at e
  subst e
  rw [r.inv.1, ih fun p hp => h p (.tail _ hp)]; rfl
inductive LstAt (c : Cx) (V : Addr -> Prop) (s : Shared) (a : Addr) (ds : List D) : Prop
 | mk (o : Obj) (vs : Array Value) (nn : Nat) (ho : s.heap.get? a = some o) (hc : o.cls = .type "list") (hd : o.dict = none /\ o.slots = #[]) (hdt : o.data = .seq vs nn) (r : RepL c V s ds vs.toList) : LstAt c V s a ds
theorem ItAt.carry {V V' : Addr -> Prop} {s s' : Shared} {it : Addr} {ds : List D} (h : ItAt c V s it ds) (hk : ∀ o, s.heap.get? it = some o -> s'.heap.get? it = some o)
 (hl : ∀ l o, ¬ V l -> s.heap.get? l = some o -> ¬ V' l /\ s'.heap.get? l = some o) (hr : ∀ {dd vv}, RepL c V s dd vv -> RepL c V' s' dd vv) : ItAt c V' s' it ds := by
 cases h with
 | list i1 nl ho hc hd r => (refine x12 i1 ?_; clear i1; intro oi e1 e2); exact .list ⟨oi, hk _ e1, e2⟩ (hl _ _ nl ho).1 (hl _ _ nl ho).2 hc hd (hr r)
 | tuple i1 nl ho hc hd r => (refine x12 i1 ?_; clear i1; intro oi e1 e2); exact .tuple ⟨oi, hk _ e1, e2⟩ (hl _ _ nl ho).1 (hl _ _ nl ho).2 hc hd (hr r)
 | range i1 => exact .range (hk _ i1)
 | ascii i1 => (refine x12 i1 ?_; clear i1; intro oi e1 e2); exact .ascii ⟨oi, hk _ e1, e2⟩
 | wide i1 => (refine x12 i1 ?_; clear i1; intro oi e1 e2); exact .wide ⟨oi, hk _ e1, e2⟩
structure CJ (c : Cx) (sc : Scope) (E : Env) (Vi : Addr -> Prop) (C Dd : Addr) (ρi : Sto) (s : Shared) (xs : List D) (s' : Shared) : Prop where
 gr : Gr s s'
 fm : Fm c sc E Vi s.heap [] [C] ρi s'
 lst : LstAt c (Vol Vi [C]) s' Dd xs
section
variable {sci : Scope} {E : Env} {Vi : Addr -> Prop} {C Dd it : Addr} {ρi ρ1 : Sto} {s s' s₃ s4 s5 : Shared} {xs rest : List D} {A : Around} {X4 : List Addr}
theorem CJ.step (J : CJ c sci E Vi C Dd ρi s xs s') (hi : ItAt c (Vol Vi [C]) s' it rest) (t : ItStep it s' s₃) (hits : s.heap.get? it = none) (hC : it ∉ [C]) (hD : it ≠ Dd) (hV : ¬ Vi it) : CJ c sci E Vi C Dd ρi s xs s₃ :=
 ⟨⟨fun b o e => t.keep b o (fun q => by rw [q, hits] at e; cases e) (J.gr.keep b o e), Nat.le_trans J.gr.tok t.tok, t.gens.trans J.gr.gens, t.os.trans J.gr.os⟩, J.fm.it hi hC hits hV t,
  let ⟨o, vs, nn, h1, h2, h3, h4, h5⟩ := J.lst; ⟨o, vs, nn, t.keep _ _ (Ne.symm hD) h1, h2, h3, h4, h5.calm (t.calm hi _) fun _ q => q⟩⟩
theorem CJ.back (J : CJ c sci E Vi C Dd ρi s xs s₃) (hρ : ∀ p ∈ ρi, ∃ d, p.2 = .val d) (hCs : s.heap.get? C = none) (hDC : Dd ≠ C) (g₄ : Stp [C] s₃ X4 s4) (F4 : Fm c sci E Vi s.heap [] X4 ρ1 s4) (hsub : SubS ρi ρ1) (g5 : Gr s4 s5) : CJ c sci E Vi C Dd ρi s xs s5 /\ Stp [C] s₃ [C] s5 := by
 (refine x12 (Ent.sub (c := c) (sc := sci) hsub E Vi s.heap [] X4 s5 (F4.gr g5)) ?_; intro X5 hX5 F5)
 have hfps : X5 = [E.locals] := by
  obtain ⟨_, fps, _, h2, _, _, _, h5⟩ := F5.sto
  rw [h2, h5.vals hρ]; rfl
 have hE : [C] = [E.locals] := by
  obtain ⟨_, fps, _, h2, _, _, _, h5⟩ := J.fm.sto
  rw [h2, h5.vals hρ]; rfl
 rw [hfps, <- hE] at F5 hX5
 have g45 : Stp [C] s₃ [C] s5 := (g₄.trans (Stp.of_gr g5)).sub' hX5
 refine ⟨⟨⟨fun b o e => g45.keep b o (fun q => by rw [mSz.mp q, hCs] at e; cases e) (J.gr.keep b o e), Nat.le_trans J.gr.tok g45.tok, g45.gens.trans J.gr.gens, g45.os.trans J.gr.os⟩, F5, ?_⟩, g45⟩
 obtain ⟨o, vs, nn, h1, h2, h3, h4, h5⟩ := J.lst
 exact ⟨o, vs, nn, g45.keep _ _ (fun q => hDC (mSz.mp q)) h1, h2, h3, h4, h5.stp g45⟩
theorem CJ.push {x : Value} {r : D} {P : Shared -> Prop} (J : CJ c sci E Vi C Dd ρi s xs s') (hi : ItAt c (Vol Vi [C]) s' it rest) (hD : it ≠ Dd) (hDV : Vi Dd) (hDs : s.heap.get? Dd = none) (hz : xs.length <= 16777216) (rx : Rep c (Vol Vi [C]) s' r x)
 (hP : ∀ s5, CJ c sci E Vi C Dd ρi s (xs ++ [r]) s5 -> ItAt c (Vol Vi [C]) s5 it rest -> P s5) : wpAny c.M A (call (.builtin "list.append") [.ref Dd, x]) (fun _ s5 => P s5) NoE s' := by
 refine hideG fun G K => ?_
 obtain ⟨o, vs, nn, h1, h2, h3, h4, h5⟩ := J.lst
 refine K (append_wp h1 h2 h3 h4 (fun h' o' n' a1 a2 a3 a4 a5 => ?_) ?_)
 · have hcm : Calm (Vol Vi [C]) s' { s' with heap := h' } := ⟨Nat.le_refl _, fun b ob nb e _ => (a5.2 b fun q => nb (.inl (q ▸ hDV))).trans e⟩
   refine hP _ ⟨⟨fun b ob e => (a5.2 b fun q => by rw [q, hDs] at e; cases e).trans (J.gr.keep b ob e), J.gr.tok, J.gr.gens, J.gr.os⟩, J.fm.change hDV hDs a5 ⟨_, a1⟩ (fun ob w e hw => by rw [h1] at e; cases e; rw [h4] at hw; cases hw), o', vs.push x, n', a1, a2, a3, a4, ?_⟩ ?_
   · have := (h5.append (.cons rx .nil)).calm hcm fun _ q => q
     simpa using this
   · exact hi.carry (fun o e => (a5.2 _ hD).trans e) (fun l o nl e => ⟨nl, (a5.2 l fun q => nl (.inl (q ▸ hDV))).trans e⟩) fun r => r.calm hcm fun _ q => q
 · have := h5.length; simp only [Array.length_toList] at this; rw [<- this]; exact hz
inductive CIn (c : Cx) (sc : Scope) (E : Env) (Vi : Addr -> Prop) (C Dd it : Addr) (ρi : Sto) (s : Shared) {α : Type} (g : α -> D) (f : α -> Option D) (ds : List α) (k : Nat) (s' : Shared) : Prop
 | mk (done rest : List α) (hds : ds = done ++ rest) (hk : k = rest.length) (J : CJ c sc E Vi C Dd ρi s (done.filterMap f) s') (hi : ItAt c (Vol Vi [C]) s' it (rest.map g)) : CIn c sc E Vi C Dd it ρi s g f ds k s'
theorem comp_turn {α : Type} {g : α -> D} {f : α -> Option D} {ds : List α} {tgt elt : Expr} {ifs : List Expr} {R : Result -> Shared -> Prop} (hA : Room c n A) (hn : c.hn) (hz : ds.length <= 16777216) (item : ∀ d ∈ ds, CItem c n sci ρi tgt ifs elt (g d) (f d)) (hρ : ∀ p ∈ ρi, ∃ d, p.2 = .val d)
 (hits : s.heap.get? it = none) (hDs : s.heap.get? Dd = none) (hCs : s.heap.get? C = none) (hDC : Dd ≠ C) (hC : it ∉ [C]) (hD : it ≠ Dd) (hV : ¬ Vi it) (hDV : Vi Dd)
 (fin : ∀ s', CJ c sci E Vi C Dd ρi s (ds.filterMap f) s' -> R (.ok .next) s') {k : Nat} (I : CIn c sci E Vi C Dd it ρi s g f ds k s') :
 wpAny c.M A (pyNext (.ref it)) (fun r s₁ => match r with
  | none => R (.ok .next) s₁
  | some v => wpAny c.M A (letOwnedTupleGo tgt (.ref it) v) (fun _ s1' => wpAny c.M A (assign tgt E v) (fun _ s2 =>
   wpAny c.M A (forIn ifs true fun c r => if r = true then do let ok <- isTrue c E (eval c E); pure (ForInStep.yield ok) else pure (ForInStep.yield r)) (fun ok s₃ =>
    if ok = true then wpAny c.M A (eval elt E) (fun x s4 => wpAny c.M A (call (.builtin "list.append") [.ref Dd, x]) (fun _ s5 => ∃ m, m < k /\ CIn c sci E Vi C Dd it ρi s g f ds m s5) NoE s4) NoE s₃
    else ∃ m, m < k /\ CIn c sci E Vi C Dd it ρi s g f ds m s₃) NoE s2) NoE s1') NoE s₁) NoE s' := by
 refine hideG fun G K => ?_
 obtain ⟨done, rest, hds, hk, J, hi⟩ := I
 cases rest with
 | nil => exact K (wM (ItAt.stop (hA.handled hn) hi) (fun r s₃ q => by
  erw [q.1]; exact fin s₃ (by rw [hds, List.append_nil]; exact J.step hi q.2 hits hC hD hV)) fun _ _ q => q)
 | cons d rest =>
  refine K (wM (ItAt.next hi) (fun r s₃ q => ?_) fun _ _ q => q)
  refine hideG fun G K => ?_
  (refine x14 q ?_; clear q; intro v hr rv hi3 t)
  have J3 := J.step hi t hits hC hD hV
  (refine x13 (item d (hds ▸ mR _ (.head _))) ?_; intro ρ1 htg hsub hm)
  subst hr
  refine K (lotg hi3 (wM (htg.run A E Vi s.heap [] [C] s₃ v hA.zero (fun q => nomatch q) J3.fm rv) (fun _ s4 q => ?_) fun _ _ q => q))
  refine hideG fun G K => ?_
  (refine x12 q ?_; clear q; intro X4 g₄ F4)
  have hds' : ds = (done ++ [d]) ++ rest := by rw [hds, aA]; rfl
  have hlt : rest.length < k := hk ▸ Nat.lt_succ_self _
  have end' : ∀ s5, CJ c sci E Vi C Dd ρi s ((done ++ [d]).filterMap f) s5 -> ItAt c (Vol Vi [C]) s5 it (rest.map g) -> ∃ m, m < k /\ CIn c sci E Vi C Dd it ρi s g f ds m s5 := fun s5 J5 hi5 => ⟨_, hlt, done ++ [d], rest, hds', rfl, J5, hi5⟩
  have hfm : (done ++ [d]).filterMap f = done.filterMap f ++ (f d).toList := by erw [List.filterMap_append]; cases e : f d <;> simp [e]
  rw [hfm] at end'
  cases hf : f d with
  | none =>
   rw [hf] at hm end'
   refine K (wM (TstI.run hm A _ _ _ _ _ s4 hA F4) (fun ok s5 q => ?_) fun _ _ q => q)
   erw [q.2, if_neg Bool.false_ne_true]
   have b := J3.back hρ hCs hDC g₄ F4 hsub q.1
   exact end' s5 (by rw [Option.toList_none, List.append_nil]; exact b.1) (hi3.stp hC b.2)
  | some r =>
   rw [hf] at hm end'
   refine K (wM (hm.1.run A _ _ _ _ _ s4 hA F4) (fun ok s5 q => ?_) fun _ _ q => q)
   erw [q.2, if_pos rfl]
   refine wM (hm.2.run A _ _ _ _ _ s5 hA (F4.gr q.1)) (fun x s6 q' => ?_) fun _ _ q => q
   have b := J3.back hρ hCs hDC g₄ F4 hsub (q.1.trans q'.1)
   refine b.1.push (hi3.stp hC b.2) hD hDV hDs (Nat.le_trans (List.length_filterMap_le f done) (Nat.le_trans (by rw [hds, List.length_append]; exact Nat.le_add_right _ _) hz)) (q'.2.weak fun a q => ⟨rfl, q.imp id fun q => ?_⟩) end'
   obtain ⟨_, _, _, h2, _⟩ := F4.sto
   obtain ⟨_, _, _, h2', _⟩ := J.fm.sto
   rw [mSz.mp q, h2, (List.cons.inj h2').1]; exact .head _
end
theorem capt_fm {scope : Scope} {ρi : Sto} {env : Env} {V0 : Addr -> Prop} {h0 : Heap} {Cs : List (Str × Addr)} {X : List Addr} {s s2 s₃ : Shared} {cl : List (Str × Addr)} {C Dd : Addr}
 (F : Fm c sc env V0 h0 Cs X ρ s) (g12 : Gr s s2) (hc : Capt sc scope ρ ρi) (hclf : ∀ p ∈ scope.names, p.2 = .free -> cl.lookup p.1 = env.cells.lookup p.1) (hcle : ∀ x a, cl.lookup x = some a -> env.cells.lookup x = some a)
 (g23 : Gr s2 s₃) (hDn : s2.heap.get? Dd = none) (hCn : s2.heap.get? C = none) (hDC : Dd ≠ C) (hDh : ∃ o, s₃.heap.get? Dd = some o) (hns : s₃.heap.Ns C fun x => ([] : List (Str × Value)).reverse.lookup x) :
 Fm c (relab sc scope) (compEnvC scope cl C env) (fun a => Vol V0 X a \/ a = Dd) s.heap [] [C] ρi s₃ := by
 have hF2 := F.gr g12
 have g13 := g12.trans g23
 have hCs : s.heap.get? C = none := (by
  cases e : s.heap.get? C with
  | none => rfl
  | some o => have := g12.keep _ _ e; rw [hCn] at this; cases this)
 have hlv := (F.st true).live
 refine ⟨F.good, ?_, hc.kind, F.globals, F.builtins, F.base.trans F.keep, g13.keep, (hF2.gr g23).tok, fun a q => ?_, fun x hx => ?_, fun a ha => (by rw [mSz.mp ha]; exact hCs), (fun _ _ q => nomatch q), fun x y a hx hy => F.cinj _ _ _ (hcle _ _ hx) (hcle _ _ hy), ⟨_, [], hns, rfl, by simp, fun a ha => ?_, (fun p hp => nomatch hp), ?_⟩⟩
 · show relabel scope env = relab sc scope
   unfold relabel relab
   erw [<- F.scope]; rfl
 · rcases q with q | q
   · obtain ⟨o, e⟩ := hlv a ⟨rfl, q⟩
     exact ⟨⟨o, g13.keep _ _ e⟩, fun q' => by rw [mSz.mp q', hCs] at e; cases e⟩
   · erw [q]; exact ⟨hDh, fun q' => hDC (mSz.mp q')⟩
 · have hm := hx.elim (fun h => relab_mem (.inl rfl) hc.nocell h) fun h => relab_mem (.inr rfl) hc.nocell h
   obtain ⟨a, ha⟩ := F.ccells _ (hc.free _ hm rfl)
   exact ⟨a, (hclf _ hm rfl).trans ha⟩
 · rw [mSz.mp ha]
   (refine x33 hns ?_; clear hns; intro o es ep e hd _)
   exact ⟨o, e⟩
 · -- the captured names
   obtain ⟨m, fps, hn, hXX, hnd, hlv, hcel, hst⟩ := F.sto
   have key : ∀ (r : Sto), (∀ p ∈ r, p ∈ ρi) -> StoR c (compEnvC scope cl C env) (Vol (fun a => Vol V0 X a \/ a = Dd) [C]) s₃ (fun x => ([] : List (Str × Value)).reverse.lookup x) r [] := by
    intro r
    induction r with
    | nil => intro _; exact .nil
    | cons p r ih =>
     intro hp
     obtain ⟨x, sl⟩ := p
     (refine x14 (hc.sto _ (hp _ (.head _))) ?_; intro d hd hl hfr hcd)
     simp only at hd hl hfr hcd
     subst hd
     (refine x23 (hst.get hl) ?_; intro v fp lo rp _)
     have hm := mem_lookup hfr
     refine .cons (fp := []) (v := v) ?_ (.val ?_) (ih fun p hp' => hp p (.tail _ hp'))
     · cases lo with
       | loc h1 _ =>
        have h1' : sc.names.lookup (oS x) = some .local := by rw [<- F.scope]; exact h1
        have hkk := hc.free _ hm rfl
        rw [h1'] at hkk
        exact hkk.elim (fun q => nomatch q) fun q => nomatch q
       | cell h1 h2 h3 h4 =>
        have hrl : (relabel scope env).names.lookup (oS x) = some .cell \/ (relabel scope env).names.lookup (oS x) = some .free := relab_free (sc := env.scope) (scope := scope) hfr
        exact .cell (hrl.imp id fun q => ⟨q, hcd⟩) ((hclf _ hm rfl).trans h2) (g13.keep _ _ h3) h4
     · refine rp.inv.2.mapA rfl fun a o na e _ => ⟨fun q => ?_, g13.keep _ _ e⟩
       have e2 := g12.keep _ _ e
       rcases q with (q | q) | q
       · exact na q
       · rw [q, hDn] at e2; cases e2
       · rw [mSz.mp q, hCn] at e2; cases e2
   exact key ρi fun _ h => h
theorem comp_loop {elt tgt iter : Expr} {ifs : List Expr} {scope : Scope} {pos : Pos} {α : Type} {g : α -> D} {ds : List α} {f : α -> Option D} {ρi : Sto} {R : Result -> Shared -> Prop} {E' : Value -> Shared -> Prop} {A : Around} {env : Env} {V0 : Addr -> Prop} {h0 : Heap} {Cs : List (Str × Addr)} {X : List Addr} {s s2 s₃ : Shared} {cl : List (Str × Addr)} {C Dd it : Addr}
 (hA : Room c n A) (hn : c.hn) (F : Fm c sc env V0 h0 Cs X ρ s) (g12 : Gr s s2) (hc : Capt sc scope ρ ρi) (hclf : ∀ p ∈ scope.names, p.2 = .free -> cl.lookup p.1 = env.cells.lookup p.1) (hcle : ∀ x a, cl.lookup x = some a -> env.cells.lookup x = some a)
 (hz : ds.length <= 16777216) (item : ∀ d ∈ ds, CItem c n (relab sc scope) ρi tgt ifs elt (g d) (f d))
 (g23 : Gr s2 s₃) (hDn : s2.heap.get? Dd = none) (hCn : s2.heap.get? C = none) (hDC : Dd ≠ C) (hDh : s₃.heap.get? Dd = some { cls := .type "list", dict := none, data := .seq ([] : List Value).toArray }) (hns : s₃.heap.Ns C fun x => ([] : List (Str × Value)).reverse.lookup x)
 (hits : s.heap.get? it = none) (hi : ItAt c (Vol V0 X) s2 it (ds.map g))
 (fin : ∀ s', s.heap.get? Dd = none -> s.heap.get? C = none -> CJ c (relab sc scope) (compEnvC scope cl C env) (fun a => Vol V0 X a \/ a = Dd) C Dd ρi s (ds.filterMap f) s' -> R (.ok .next) s') :
 wpAny c.M A (pyIter (.ref it)) (fun it' s' => codeAny c.M A (.compLoop (.ListComp elt [⟨tgt, iter, ifs, 0⟩] scope pos) 0 it' (.ref Dd) (compEnvC scope cl C env)) R s') E' s₃ /\
 codeAny c.M A (.compLoop (.ListComp elt [⟨tgt, iter, ifs, 0⟩] scope pos) 0 (.ref it) (.ref Dd) (compEnvC scope cl C env)) R s₃ := by
 have none_of : ∀ a, s2.heap.get? a = none -> s.heap.get? a = none := fun a h => by
  cases e : s.heap.get? a with
  | none => rfl
  | some o => have := g12.keep _ _ e; rw [h] at this; cases this
 have hlv := (F.st true).live
 have hDs := none_of _ hDn
 have hCs := none_of _ hCn
 have hitalive : ∃ o, s2.heap.get? it = some o := let ⟨o, _, _, e, _⟩ := hi.fields; ⟨o, e⟩
 have hitD : it ≠ Dd := fun q => by obtain ⟨o, e⟩ := hitalive; rw [q, hDn] at e; cases e
 have hitC : it ∉ [C] := fun q => by obtain ⟨o, e⟩ := hitalive; rw [mSz.mp q, hCn] at e; cases e
 have hitV : ¬ (Vol V0 X it \/ it = Dd) := fun q => q.elim (fun q => by obtain ⟨o, e⟩ := hlv it ⟨rfl, q⟩; rw [hits] at e; cases e) hitD
 have J : CJ c (relab sc scope) (compEnvC scope cl C env) (fun a => Vol V0 X a \/ a = Dd) C Dd ρi s (([] : List α).filterMap f) s₃ := ⟨g12.trans g23, capt_fm F g12 hc hclf hcle g23 hDn hCn hDC ⟨_, hDh⟩ hns, _, _, 0, hDh, rfl, ⟨rfl, rfl⟩, rfl, .nil⟩
 have hi3 : ItAt c (Vol (fun a => Vol V0 X a \/ a = Dd) [C]) s₃ it (ds.map g) := by
  have na : ∀ (a : Addr) (o : Obj), ¬ Vol V0 X a -> s2.heap.get? a = some o -> ¬ Vol (fun a => Vol V0 X a \/ a = Dd) [C] a /\ s₃.heap.get? a = some o := fun a o na e => ⟨fun q => (by
   rcases q with (q | q) | q
   · exact na q
   · rw [q, hDn] at e; cases e
   · rw [mSz.mp q, hCn] at e; cases e), g23.keep _ _ e⟩
  exact hi.carry (fun o e => g23.keep _ _ e) na fun r => r.mapA rfl fun a o n e _ => na a o n e
 have loop := code_comp (c := c) (A := A) (iter := iter) (scope := scope) (pos := pos) (R := R) (CIn c (relab sc scope) (compEnvC scope cl C env) (fun a => Vol V0 X a \/ a = Dd) C Dd it ρi s g f ds)
  (fun k s' I => comp_turn hA hn hz item (fun p hp => let ⟨d, e, _⟩ := hc.sto p hp; ⟨d, e⟩) hits hDs hCs hDC hitC hitD hitV (.inr rfl) (fun s' J => fin s' hDs hCs J) I) ds.length ⟨[], ds, rfl, rfl, J, hi3⟩
 exact ⟨hi3.self loop, loop⟩
theorem comp_core {elt tgt iter : Expr} {ifs : List Expr} {scope : Scope} {pos p : Pos} {d₀ : D} {α : Type} {g : α -> D} {ds : List α} {f : α -> Option D} {ρi : Sto} {use : Option (Value -> Sem Unit)} {A : Around} {env : Env} {V0 : Addr -> Prop} {h0 : Heap} {Cs : List (Str × Addr)} {X : List Addr} {s : Shared}
 {Q : Value -> Shared -> Prop}
 (hA : Room c n A) (F : Fm c sc env V0 h0 Cs X ρ s) (he : Ev c n sc true ρ iter d₀) (hit : IterR c d₀ (ds.map g)) (hc : Capt sc scope ρ ρi) (hz : ds.length <= 16777216)
 (item : ∀ d ∈ ds, CItem c n (relab sc scope) ρi tgt ifs elt (g d) (f d)) (hs : ∀ (env : Env) x, foldedSetIterable iter env x = pure x)
 (fin : ∀ Dd C E s', s.heap.get? Dd = none -> s.heap.get? C = none -> Dd ≠ C -> CJ c (relab sc scope) E (fun a => Vol V0 X a \/ a = Dd) C Dd ρi s (ds.filterMap f) s' -> compPost c.M A NoE use Q (.ref Dd) C (.ok .next) s') (hn : c.hn := by assumption) :
 wpAny c.M A (comprehension (.ListComp elt [⟨tgt, iter, ifs, 0⟩] scope pos) scope env p (newList []) false (eval iter env) use) Q NoE s := by
 refine hideG fun G K => ?_
 (refine x13 (closure_of (scope := scope) (env := env) fun p hp hf => F.ccells _ (hc.free p hp hf)) ?_; intro cl hcl hclf hcle)
 refine K (wpAny_comprehension_free (use := use) rfl (hs env) hcl hc.kind hc.names (wM (he.run A env V0 h0 Cs X s hA F) (fun xv s₁ q₁ => ?_) fun _ _ q => q))
 refine wM (hit A _ s₁ xv hA.zero ((F.st true).gr q₁.1) q₁.2) (fun itv s2 q₂ => ?_) fun _ _ q => q
 refine hideG fun G K => ?_
 (refine x02 q₂ ?_; clear q₂; intro g₂ r9; refine x13 r9 ?_; clear r9; rintro it rfl hitn hi)
 have hV : VK true V0 X = Vol V0 X := by funext a; simp [VK]
 rw [hV] at hi
 have hits : s.heap.get? it = none := by
  cases e : s.heap.get? it with
  | none => rfl
  | some o => have := q₁.1.keep _ _ e; rw [hitn] at this; cases this
 -- the list to be filled
 refine K (wpAny_newObj_type (wpAny_newFunctionEnv hc.nocell (fun _ h => nomatch h) (fun h₁ hns₁ hsb1 => ?_) hc.kind))
 have hk0 : Keeps s2.heap (s2.heap.push { cls := .type "list", dict := none, data := .seq ([] : List Value).toArray }) := fun b o e => Heap.get?_push_of_some _ e
 have hCn : s2.heap.get? (s2.heap.push { cls := .type "list", dict := none, data := .seq ([] : List Value).toArray }).objs.size = none := by
  cases e : s2.heap.get? (s2.heap.push { cls := .type "list", dict := none, data := .seq ([] : List Value).toArray }).objs.size with
  | none => rfl
  | some o => have := hk0 _ _ e; rw [get_size] at this; cases this
 have hDC : s2.heap.objs.size ≠ (s2.heap.push { cls := .type "list", dict := none, data := .seq ([] : List Value).toArray }).objs.size := by rw [Heap.size_push]; exact Nat.ne_of_lt (Nat.lt_succ_self _)
 have l := comp_loop (s₃ := { s2 with heap := h₁, toks := s2.toks + ([] : List (Str × Value)).length }) (elt := elt) (iter := iter) (pos := pos) (R := compPost c.M A NoE use Q (.ref s2.heap.objs.size) (s2.heap.push { cls := .type "list", dict := none, data := .seq ([] : List Value).toArray }).objs.size)
  (E' := notedBy c.M A (compEnvC scope cl (s2.heap.push { cls := .type "list", dict := none, data := .seq ([] : List Value).toArray }).objs.size env) fun x s' => compPost c.M A NoE use Q (.ref s2.heap.objs.size) (s2.heap.push { cls := .type "list", dict := none, data := .seq ([] : List Value).toArray }).objs.size (.error x) s')
  hA hn F (q₁.1.trans g₂) hc hclf hcle hz item
  ⟨fun b o e => (hsb1.2 b fun q => by rw [q, hCn] at e; cases e).trans (Heap.get?_push_of_some _ (hk0 b o e)), Nat.le_add_right _ _, .rfl, rfl⟩ (get_size _) hCn hDC ((hsb1.2 _ hDC).trans (Heap.get?_push_of_some _ (Heap.get?_push_size _ rfl))) hns₁ hits hi (fun s' h1 h2 J => fin _ _ _ s' h1 h2 hDC J)
 exact codeAny_compStart_list l.2 l.1
theorem Ev.comp {elt tgt iter : Expr} {ifs : List Expr} {scope : Scope} {pos : Pos} {d₀ : D} {α : Type} {g : α -> D} {ds : List α} (f : α -> Option D) (ρi : Sto) (he : Ev c n sc true ρ iter d₀) (hit : IterR c d₀ (ds.map g)) (hc : Capt sc scope ρ ρi) (hz : ds.length <= 16777216)
 (item : ∀ d ∈ ds, CItem c n (relab sc scope) ρi tgt ifs elt (g d) (f d)) (hs : ∀ (env : Env) x, foldedSetIterable iter env x = pure x := by intro _ _; rfl) (hn : c.hn := by assumption) : Ev c n sc k ρ (.ListComp elt [⟨tgt, iter, ifs, 0⟩] scope pos) (.list (ds.filterMap f)) :=
 Ev.weak <| .mk fun A env V0 h0 Cs X s hA F => by
  rw [eval_ListComp]
  refine comp_core hA F he hit hc hz item hs fun Dd C E s' hD hC hDC J => ?_
  obtain ⟨m, _, hm, _⟩ := J.fm.sto
  obtain ⟨o, vs, nn, l1, l2, l3, l4, l5⟩ := J.lst
  have hlv := (F.st true).live
  have hEC : E.locals = C := by
   obtain ⟨_, _, _, h2, _⟩ := J.fm.sto
   exact (List.cons.inj h2).1.symm
  rw [hEC] at hm
  refine ⟨m, hm, fun h' hs' => ⟨⟨fun b ob e => (hs'.2 b fun q => by rw [q, hC] at e; cases e).trans (J.gr.keep b ob e), J.gr.tok, J.gr.gens, J.gr.os⟩, .list (fun q => ?_) ((hs'.2 _ hDC).trans l1) l2 l3 l4 ?_⟩⟩
  · obtain ⟨o', e⟩ := hlv _ q; rw [hD] at e; cases e
  · exact l5.calm (s := s') (s' := { s' with heap := h' }) ⟨Nat.le_refl _, fun b ob nb e _ => (hs'.2 b fun q => nb (.inr (mSz.mpr q))).trans e⟩ fun a q => .inl (.inl q.2)
end
end
section
section
variable {c : Cx} {n : Nat} {sc : Scope} {k : Bool} {ρ : Sto}
theorem St.new {V s} (h : St c V s) : ¬ V s.heap.objs.size := fun q => by obtain ⟨o', e⟩ := h.live _ q; rw [get_size] at e; cases e
theorem FnR.range1 {b : Int} : FnR c n (.type "range") [.int b] (.range 0 b 1) := .mk fun A V s vs hA hS r => by
 replace r := r.o1
 (refine x12 r ?_; clear r; rintro _ rfl r)
 obtain ⟨_, rfl⟩ := r.inv
 exact wp_end (call_range_1 ⟨fun _ _ e => Heap.get?_push_of_some _ e, rfl, rfl, fun _ => .range hS.new (Heap.get?_push_size _ rfl)⟩)
theorem FnR.lenL {ds : List D} (h : ds.length <= 16777216) : FnR c n (.builtin "len") [.list ds] (.int ds.length) := .mk fun A V s vs _ _ r => by
 replace r := r.o1
 (refine x12 r ?_; clear r; rintro _ rfl r)
 replace r := r.inv
 obtain ⟨a, o, vs, nn, rfl, na, ho, hcl, hd, hdt, r⟩ := r
 have hl := r.length
 simp only [Array.length_toList] at hl
 refine wp_end (PySem.Calls.call_len_list ⟨o, ho, hcl, nn, hdt⟩ (by omega) ⟨fun _ _ e => e, rfl, rfl, fun _ => ?_⟩)
 erw [hl]; exact .int _ _
theorem Sx.assignT {ts : List Expr} {kk : Nat} {tp pos : Pos} {e : Expr} {d : D} {ρ2 : Sto} (h : Ev c n sc true ρ e d) (ht : TgtR c sc (.Tuple ts kk tp) d ρ ρ2)
 (hs : ∀ env : Env, swapsWithSole [.Tuple ts kk tp] e pos.line env = pure false := by intro _; rfl)
 (hw : ∀ env : Env, swappedStores [.Tuple ts kk tp] e env = pure none := by intro _; rfl) : Sn c n sc ρ (.Assign [.Tuple ts kk tp] e pos) ρ2 := .mk fun A env V0 h0 Cs X s hA hO F =>
 Assign_Tuple (wM (h.run A env V0 h0 Cs X s hA F) (fun v s₁ q => wM (ht.run A env V0 h0 Cs X s₁ v hA.zero (fun _ => hO.own) (F.gr q.1) (q.2.weak fun _ q => ⟨rfl, q⟩)) (fun _ s2 q₂ => by
  (refine x12 q₂ ?_; clear q₂; intro X' g F')
  exact ⟨X', ρ2, .next, (Stp.of_gr q.1).trans g, F', .next, rfl, rfl⟩) fun _ _ q => q) fun _ _ q => q) (hs env) (hw env)
end
end
noncomputable def fnAt (p : Program) (i : Nat) : Scope × List Stmt := match p.main.body[i]? with
 | some (.FunctionDef _ _ body _ _ _ sc _ _ _) => (sc, body)
 | _ => (⟨.function, [], false, false, []⟩, [])
noncomputable def scAt (p : Program) (i : Nat) : Scope := (fnAt p i).1
noncomputable def bodyAt (p : Program) (i : Nat) : List Stmt := (fnAt p i).2
theorem intsAre_rep {c : Cx} {V : Addr -> Prop} {s : Shared} {vs ns} (h : IntsAre vs ns) : RepL c V s (ns.map D.int) vs := by
 induction h with
 | nil => exact .nil
 | cons n t r ih => exact .cons (.int n t) ih
section
section
variable {c : Cx} {n : Nat} {sc : Scope} {k : Bool} {ρ ρ' : Sto} {P P' : AF -> Sto -> Prop}
theorem TgtG.ent {w : Bool} {tgt : Expr} {d : D} {ρ1 : Sto} (h : Ent c sc ρ ρ') (t : TgtG w c sc tgt d ρ' ρ1) : TgtG w c sc tgt d ρ ρ1 := .mk fun A env V0 h0 Cs X s v hA hO F r =>
 let ⟨X', h1, F'⟩ := h env V0 h0 Cs X s F
 wM (t.run A env V0 h0 Cs X' s v hA hO F' (r.weak fun a q => q.imp id (h1 a))) (fun _ s' q => let ⟨X2, g, F₂⟩ := q; ⟨X2, g.sub h1, F₂⟩) fun _ _ q => q
theorem Sx.post {st : Stmt} (h : Sx c n sc ρ st P) (hp : ∀ af ρ1, P af ρ1 -> ∃ ρ2, Ent c sc ρ1 ρ2 /\ P' af ρ2) : Sx c n sc ρ st P' := .mk fun A env V0 h0 Cs X s hA hO F =>
 wM (h.run A env V0 h0 Cs X s hA hO F) (fun f s' q => by
  obtain ⟨X2, ρ1, af, a, b, d, p⟩ := q
  (refine x12 (hp _ _ p) ?_; intro ρ2 e p')
  (refine x12 (e _ _ _ _ _ _ b) ?_; intro X3 h3 F₃)
  refine ⟨X3, ρ2, af, a.sub' h3, F₃, ?_, p'⟩
  cases d with
  | next => exact .next
  | brk => exact .brk
  | cont => exact .cont
  | ret r => exact .ret (r.weak fun a q => q.imp id (h3 a))) fun _ _ q => q
theorem Sx.forR {α β : Type} {g : α -> D} {xs : List α} {tgt e : Expr} {body : List Stmt} {pos : Pos} {d₀ : D} (σ : β -> Sto) (I : List α -> β -> Prop) (b₀ : β) (he : Ev c n sc true ρ e d₀) (hit : IterR c d₀ (xs.map g)) (h0 : I [] b₀) (hI : SubS (σ b₀) ρ)
 (turn : ∀ done x rest b, xs = done ++ x :: rest -> I done b -> ∃ ρ1, TgtR c sc tgt (g x) (σ b) ρ1 /\ Tr c n sc ρ1 body (Turn (fun ρ' => ∃ b', I (done ++ [x]) b' /\ SubS (σ b') ρ') P)) (fin : ∀ b, I xs b -> P .next (σ b))
 (hs : ∀ (env : Env) x, foldedSetIterable e env x = pure x := by intro _ _; rfl) (hq : c.hn := by assumption) : Sx c n sc ρ (.For tgt e body [] pos) P := by
 refine Sx.post (P := fun af ρ' => (af = .next /\ ∃ b, I xs b /\ SubS (σ b) ρ') \/ P af ρ') (Sx.for (fun done ρ' => ∃ dx rest, xs = dx ++ rest /\ done = dx.map g /\ ∃ b, I dx b /\ SubS (σ b) ρ') he hit ⟨[], xs, rfl, rfl, b₀, h0, hI⟩ ?_ ?_ hs) fun af ρ1 q => ?_
 · intro done d rest ρ' e ⟨dx, rx, e1, e2, b, hb0, hsub⟩
   subst e2
   rw [e1, List.map_append] at e
   have := List.append_cancel_left e
   cases rx with
   | nil => cases this
   | cons x rx =>
    rw [List.map_cons] at this
    cases this
    (refine x12 (turn dx x rx b e1 hb0) ?_; intro ρ1 ht hb)
    refine ⟨ρ1, ht.ent (Ent.sub hsub), hb.mono fun af ρ2 q => ?_⟩
    cases af with
    | next => exact ⟨dx ++ [x], rx, by rw [e1]; simp, by simp, q⟩
    | cont => exact ⟨dx ++ [x], rx, by rw [e1]; simp, by simp, q⟩
    | brk => exact .inr q
    | ret d => exact .inr q
 · intro ρ' ⟨dx, rx, e1, e2, b, hb, hsub⟩
   have : rx = [] := by
    have := congrArg List.length e2
    rw [e1] at this
    simp at this
    exact this
   subst this
   rw [List.append_nil] at e1
   subst e1
   exact .inl ⟨rfl, b, hb, hsub⟩
 · rcases q with ⟨rfl, b, hb, q⟩ | q
   · exact ⟨_, Ent.sub q, fin b hb⟩
   · exact ⟨_, .refl _, q⟩
theorem Sx.forS {α : Type} {g : α -> D} {xs : List α} {tgt e : Expr} {body : List Stmt} {pos : Pos} {d₀ : D} (σ : List α -> Sto) (he : Ev c n sc true ρ e d₀) (hit : IterR c d₀ (xs.map g)) (hI : SubS (σ []) ρ)
 (turn : ∀ done x rest, xs = done ++ x :: rest -> ∃ ρ1, TgtR c sc tgt (g x) (σ done) ρ1 /\ Tr c n sc ρ1 body (Turn (SubS (σ (done ++ [x]))) P)) (fin : P .next (σ xs))
 (hs : ∀ (env : Env) x, foldedSetIterable e env x = pure x := by intro _ _; rfl) (hq : c.hn := by assumption) : Sx c n sc ρ (.For tgt e body [] pos) P :=
 Sx.forR σ (fun l b => b = l) [] he hit rfl hI (fun done x rest b e hb => by
  (refine x12 (turn done x rest e) ?_; intro ρ1 h1 h2)
  refine ⟨ρ1, by rw [hb]; exact h1, h2.mono fun af ρ' q => ?_⟩
  cases af with
  | next => exact ⟨_, rfl, q⟩
  | cont => exact ⟨_, rfl, q⟩
  | brk => exact q
  | ret d => exact q) (fun b hb => by rw [hb]; exact fin) hs hq
noncomputable def capOk (sc scope : Scope) : Bool := scope.kind == .function && scope.names.all (fun p => p.2 != .cell) && scope.names.all (fun p => p.2 != .local || scope.names.lookup p.1 == some .local) &&
 scope.names.all (fun p => p.2 != .free || sc.names.lookup p.1 == some .cell || sc.names.lookup p.1 == some .free)
inductive CapS (scope : Scope) (ρ : Sto) : Sto -> Prop
 | nil : CapS scope ρ []
 | cons {x : String} {d : D} {ρi : Sto} : ρ.lookup x = some (.val d) -> scope.names.lookup (oS x) = some .free -> x ≠ "__classdict__" -> CapS scope ρ ρi -> CapS scope ρ ((x, .val d) :: ρi)
theorem CapS.all {scope : Scope} {ρi : Sto} (h : CapS scope ρ ρi) : ∀ p ∈ ρi, ∃ d, p.2 = .val d /\ ρ.lookup p.1 = some (.val d) /\ scope.names.lookup (oS p.1) = some .free /\ p.1 ≠ "__classdict__" := by
 induction h with
 | nil => intro p hp; cases hp
 | cons a b e r ih =>
  intro p hp
  cases hp with
  | head => exact ⟨_, rfl, a, b, e⟩
  | tail _ hp => exact ih p hp
theorem Capt.of {scope : Scope} {ρi : Sto} (hs : CapS scope ρ ρi) (hb : capOk sc scope = true) : Capt sc scope ρ ρi := by
 unfold capOk at hb
 simp only [Bool.and_eq_true, List.all_eq_true, bne_iff_ne, Bool.or_eq_true, beq_iff_eq] at hb
 obtain ⟨⟨⟨h1, h2⟩, h3⟩, h4⟩ := hb
 refine ⟨h1, fun p hp => by simpa using h2 p hp, fun p hp q => ?_, fun p hp q => ?_, hs.all⟩
 · rcases h3 p hp with h | h
   · exact absurd q (by simpa using h)
   · exact h
 · rcases h4 p hp with (h | h) | h
   · exact absurd q (by simpa using h)
   · exact .inl h
   · exact .inr h
section
variable {elt tgt iter t : Expr} {scope : Scope} {pos spos p : Pos} {y : String} {d₀ : D} {α : Type} {g : α -> D} {ds : List α}
theorem filterMap_if (q : α -> Bool) (r : α -> D) : ∀ l : List α, l.filterMap (fun x => if q x = true then some (r x) else Option.none) = (l.filter q).map r
 | [] => rfl
 | x :: l => by
  erw [List.filterMap_cons, List.filter_cons, filterMap_if q r l]
  cases q x <;> rfl
theorem Ev.compF (q : α -> Bool) (r : α -> D) (ρi : Sto) (he : Ev c n sc true ρ iter d₀) (hit : IterR c d₀ (ds.map g)) (hc : Capt sc scope ρ ρi) (hz : ds.length <= 16777216)
 (item : ∀ x ∈ ds, ∃ ρ1, TgtG false c (relab sc scope) tgt (g x) ρi ρ1 /\ SubS ρi ρ1 /\ Tst c n (relab sc scope) ρ1 t (q x) /\ (q x = true -> Ev c n (relab sc scope) true ρ1 elt (r x))) (hs : ∀ (env : Env) x, foldedSetIterable iter env x = pure x := by intro _ _; rfl) (hq : c.hn := by assumption) :
 Ev c n sc k ρ (.ListComp elt [⟨tgt, iter, [t], 0⟩] scope pos) (.list ((ds.filter q).map r)) := by
 rw [<- filterMap_if]
 refine Ev.comp (fun x => if q x = true then some (r x) else Option.none) ρi he hit hc hz (fun x hx => ?_) hs
 (refine x14 (item x hx) ?_; intro ρ1 h1 h2 h3 h4)
 refine ⟨ρ1, h1, h2, ?_⟩
 cases e : q x with
 | true => rw [e] at h3; exact ⟨.one h3, h4 e⟩
 | false => rw [e] at h3; exact .one h3
end
theorem Ev.to {e : Expr} {d d' : D} (h : Ev c n sc k ρ e d) (q : d = d') : Ev c n sc k ρ e d' := q ▸ h
theorem Tst.to {e : Expr} {b b' : Bool} (h : Tst c n sc ρ e b) (q : b = b') : Tst c n sc ρ e b' := q ▸ h
theorem IsDef.callee {a : Addr} {ps : List String} {body : List Stmt} (h : IsDef c a sc ps body) : Callee c (.ref a) := by
 obtain ⟨o, fd, h1, h2, _⟩ := h.ex
 exact .func h1 h2
end
end
section
section
variable {c : Cx} {n : Nat} {sc : Scope} {k : Bool} {ρ ρ' : Sto} {P P' : AF -> Sto -> Prop} {env : Env} {V0 : Addr -> Prop} {h0 : Heap} {Cs : List (Str × Addr)} {X : List Addr} {s s₁ : Shared} {A : Around}
structure Opn (c : Cx) (env : Env) (V0 : Addr -> Prop) (Cs : List (Str × Addr)) (X : List Addr) (ρ : Sto) (x : String) (sl : List Slot) (a : Addr) (fpi fps' : List Addr) (s : Shared) : Prop where
 ns : ∃ m, s.heap.Ns env.locals m /\ Loc env s m x (.ref a) /\ StoR c env (Vol V0 X) s m (delS x ρ) fps'
 lst : ∃ vs nn, s.heap.get? a = some { cls := .type "list", data := .seq vs nn } /\ RepSL c (Vol V0 X) s sl vs.toList fpi
 nd : (env.locals :: (Cs.map (·.2) ++ ((a :: fpi) ++ fps'))).Nodup
 sub : ∀ b ∈ env.locals :: (Cs.map (·.2) ++ ((a :: fpi) ++ fps')), b ∈ X
theorem RepSL.gr {V : Addr -> Prop} {s' : Shared} {sl v fp} (r : RepSL c V s sl v fp) (g : Gr s s') : RepSL c V s' sl v fp := r.calm (g.calm V) (fun _ q => q) fun _ _ _ e => g.keep _ _ e
theorem Opn.aX {x : String} {sl : List Slot} {a : Addr} {fpi fps' : List Addr} (O : Opn c env V0 Cs X ρ x sl a fpi fps' s) : a ∈ X := O.sub a (.tail _ (mR _ (.head _)))
theorem Opn.load {x : String} {sl : List Slot} {a : Addr} {fpi fps' : List Addr} {E : Value -> Shared -> Prop} {Q : Value -> Shared -> Prop} {p : Pos} (F : Fm c sc env V0 h0 Cs X ρ s) (O : Opn c env V0 Cs X ρ x sl a fpi fps' s) (hx : x ≠ "__debug__") (h : Q (.ref a) s) :
 wpAny c.M A (eval (.Name (oS x) p) env) Q E s := by
 (refine x13 O.ns ?_; intro m h1 h2 h3)
 exact wpAny_Name (h2.load (by rw [F.scope]; exact F.kind) h1 h) (ofString_ne hx)
end
end
section
section
variable {c : Cx} {n : Nat} {sc : Scope} {k : Bool} {ρ ρ' : Sto}
theorem Room.below {A : Around} (h : Room c n A) : A.units < cLine := by have := h.units; omega
theorem S_beq (a b : List Nat) : (S a == S b) = decide (a = b) := by
 by_cases h : a = b
 · simp [h]
 · simp [h]
theorem eqNil_aux {ds : List D} {A : Around} {V : Addr -> Prop} {s : Shared} {v₁ v₂ : Value} (hA : Room c 0 A) (r₁ : Rep c V s (.list ds) v₁) (r₂ : Rep c V s (.list []) v₂) :
 SeqAt.RcAt A s v₁ v₂ ds.isEmpty /\ SeqAt.RcNeAt A s v₁ v₂ (!ds.isEmpty) := by
 replace r₁ := r₁.inv
 obtain ⟨x, o, vs, nn, rfl, na, ho, hcl, hd, hdt, r₁⟩ := r₁
 replace r₂ := r₂.inv
 obtain ⟨y, o2, ws, nn2, rfl, na2, ho2, hcl2, hd2, hdt2, r₂⟩ := r₂
 have l1 := r₁.length
 have l2 := r₂.length
 simp only [Array.length_toList, List.length_nil] at l1 l2
 have i1 : s.heap.IsList x vs := ⟨o, ho, hcl, nn, hdt⟩
 have i2 : s.heap.IsList y ws := ⟨o2, ho2, hcl2, nn2, hdt2⟩
 cases ds with
 | nil =>
  have hsz : vs.size = ws.size := by simp at l1; omega
  have he : ∀ j (h1 : j < vs.size) (h2 : j < ws.size), SeqAt.EqAt A.in1 s vs[j] ws[j] true := fun j h1 h2 => by omega
  have h1 := SeqAt.RcAt.lists (e := fun _ => true) i1 i2 hsz hA.below he
  have h2 := SeqAt.RcNeAt.lists (e := fun _ => true) i1 i2 hsz hA.below he
  have : (List.range vs.size).all (fun _ => true) = true := by simp
  rw [this] at h1 h2; exact ⟨h1, h2⟩
 | cons d r =>
  have hne : (vs.size != ws.size) = true := by simp at l1 ⊢; omega
  exact ⟨SeqAt.RcAt.lists_lengths i1 i2 hne hA.below, SeqAt.RcNeAt.lists_lengths i1 i2 hne hA.below⟩
theorem CmpR.eqNil {ds : List D} : CmpR c .Eq (.list ds) (.list []) ds.isEmpty := fun A V s v₁ v₂ hA _ r₁ r₂ => (eqNil_aux hA r₁ r₂).1 c.prog c.w _ _ ⟨.refl s, rfl⟩
theorem CmpR.isN {d : D} {b : Bool} (h : (d = .none /\ b = true) \/ ((∃ x, d = .str x) /\ b = false) \/ ((∃ x, d = .list x) /\ b = false)) : CmpR c .Is d .none b := fun A V s v₁ v₂ hA _ r₁ r₂ => by
 cases r₂.inv
 rcases h with ⟨rfl, rfl⟩ | ⟨⟨x, rfl⟩, rfl⟩ | ⟨⟨x, rfl⟩, rfl⟩
 · cases r₁.inv; exact wpAny_is_plain rfl ⟨.refl s, rfl⟩
 · obtain ⟨_, rfl⟩ := r₁.inv; exact wpAny_is_plain rfl ⟨.refl s, rfl⟩
 · obtain ⟨_, _, _, _, rfl, _⟩ := r₁.inv; exact wpAny_is_plain rfl ⟨.refl s, rfl⟩
end
end
section
section
variable {c : Cx} {n : Nat} {sc : Scope}
theorem blt_of {K : Frag} {h : Heap} {p : Program} {lw : List Str} {mean : ExcName -> Option Value} {mg mb : Str -> Option Value} (X : K.In h) (T : Top p lw mean mg mb h) {x : String} {v : Value} (e : nsIn K mainGlobals (oS x) = some none) (b : bootBuiltins (oS x) = some v) (hx : x ≠ "__name__") :
 mg (oS x) = none /\ mb (oS x) = some v :=
 ⟨mg_none_of X T.g e, (T.builtins _ fun q => hx (ofString_inj q)).trans b⟩
end
end
section
section
variable {c : Cx} {n : Nat} {sc : Scope} {k : Bool} {ρ ρ' : Sto} {env : Env} {V0 : Addr -> Prop} {h0 : Heap} {Cs : List (Str × Addr)} {X : List Addr} {s s₁ : Shared} {A : Around}
theorem Ev.neg {e : Expr} {pos : Pos} {i : Int} (h : Ev c n sc k ρ e (.int i)) : Ev c n sc k ρ (.UnaryOp .USub e pos) (.int (-i)) := .mk fun A env V0 h0 Cs X s hA F =>
 wpAny_UnaryOp (wM (h.run A env V0 h0 Cs X s hA F) (fun v s' q => by
  obtain ⟨g, r⟩ := q
  obtain ⟨_, rfl⟩ := r.inv
  exact wp_gr g (wp_end (P.neg_int ⟨fun _ _ e => e, rfl, rfl, fun _ => .int _ _⟩))) fun _ _ q => q)
end
end
section
section
variable {c : Cx} {n : Nat} {sc : Scope} {k : Bool} {ρ : Sto}
noncomputable def setAll (ρ : Sto) : List (String × D) -> Sto
 | [] => ρ
 | (x, d) :: r => setAll (setS ρ x (.val d)) r
theorem storeAll {ps : List (String × D)} {A : Around} {env : Env} {V0 : Addr -> Prop} {h0 : Heap} {Cs : List (Str × Addr)} : ∀ {ρ : Sto}, (∀ p ∈ ps, sc.names.lookup (oS p.1) = some .local) -> ∀ {X s vs}, Fm c sc env V0 h0 Cs X ρ s -> RepL c (Vol V0 X) s (ps.map (·.2)) vs ->
 wpAny c.M A (assignInOrder ((ps.map fun p => oS p.1).map fun n => bindName env n) vs) (fun _ s' => ∃ X', Stp X s X' s' /\ Fm c sc env V0 h0 Cs X' (setAll ρ ps) s') (fun _ _ => False) s := by
 induction ps with
 | nil => intro ρ _ X s vs F r; cases r.o0; exact wP ⟨X, .refl X s, F⟩
 | cons p ps ih =>
  intro ρ hk X s vs F r
  (refine x23 r.oc ?_; rintro _ _ rfl r1 rs)
  have hx := hk _ (.head _)
  refine wB (wH (wpAny_bindName (wM (F.store (.refl s) (fun q => by rw [hx] at q; cases q) (.inl hx) (RepS.ofRep (r1.weak fun _ q => q.2)) .nil fun _ ha => nomatch ha) (fun _ s' q => ?_) fun _ _ q => q)))
  (refine x12 q ?_; clear q; intro X' g F')
  exact wM (ih (fun p hp => hk p (.tail _ hp)) F' (rs.stp g)) (fun _ s'' q => let ⟨X'', g', F''⟩ := q; ⟨X'', g.trans g', F''⟩) fun _ _ q => q
theorem Sx.assignW {ts : List Expr} {kk : Nat} {tp pos : Pos} {e : Expr} {ps : List (String × D)} (h : Ev c n sc true ρ e (.tuple (ps.map (·.2)))) (hk : (ps.all fun p => sc.names.lookup (oS p.1) == some .local) = true)
 (hw : ∀ env : Env, env.scope = sc -> swappedStores [.Tuple ts kk tp] e env = pure (some (ps.map fun p => oS p.1)))
 (hs : ∀ env : Env, swapsWithSole [.Tuple ts kk tp] e pos.line env = pure false := by intro _; rfl) (hn : c.hn := by assumption) : Sn c n sc ρ (.Assign [.Tuple ts kk tp] e pos) (setAll ρ ps.reverse) := .mk fun A env V0 h0 Cs X s hA hO F => by
 refine Assign_Tuple_swapped (wM (h.run A env V0 h0 Cs X s hA F) (fun v s₁ q => ?_) fun _ _ q => q) (hs env) (hw env F.scope)
 obtain ⟨g, r⟩ := q
 have r' : Rep c (Vol V0 X) s₁ (.tuple (ps.map (·.2))) v := r.weak fun _ q => ⟨rfl, q⟩
 replace r' := r'.inv
 obtain ⟨a, o, vs, nn, rfl, na, ho, hcl, hd, hdt, rl⟩ := r'
 have hl : vs.size = ps.length := by have := rl.length; simpa using this.symm
 have : (ps.map fun p => oS p.1).length = vs.size := by simp [hl]
 erw [this]
 refine unpackItems_tuple (hA.handled hn) ⟨o, ho, hcl, _, hdt⟩ fun h' he => ?_
 have g' := Gr.ext he
 have F' := (F.gr g).gr g'
 have hr : RepL c (Vol V0 X) { s₁ with heap := h' } (ps.reverse.map (·.2)) vs.toList.reverse := by
  have hrev : ∀ {ds : List D} {us : List Value} {st : Shared}, RepL c (Vol V0 X) st ds us -> RepL c (Vol V0 X) st ds.reverse us.reverse := by
   intro ds us st hh
   induction ds generalizing us with
   | nil => cases hh; exact .nil
   | cons d ds ih => cases hh with
    | cons a b => rw [List.reverse_cons, List.reverse_cons]; exact (ih b).append (.cons a .nil)
  have := hrev (rl.gr g')
  rw [<- List.map_reverse] at this; exact this
 have hst := storeAll (c := c) (sc := sc) (A := A) (ps := ps.reverse) (ρ := ρ) (fun p hp => by simpa using List.all_eq_true.mp hk p (List.mem_reverse.mp hp)) F' hr
 rw [List.map_reverse] at hst
 refine wM hst (fun _ s2 q => ?_) fun _ _ q => q
 (refine x12 q ?_; clear q; intro X' g2 F2)
 exact ⟨X', _, .next, (Stp.of_gr (g.trans g')).trans g2, F2, .next, rfl, rfl⟩
end
end
noncomputable def wordsOf (r nm : List Nat) : List Nat := cs "cannot serialize " ++ r ++ cs " (type " ++ nm ++ cs ")"
section
section
variable {prog : Program} {w : World} {A : Around} {E : Value -> Shared -> Prop} {s : Shared}
theorem tyname_wp {T q : String} {expr : Bool} {Q : Value -> Shared -> Prop} (ht : kitMeta T = true) (hs : Manifest.isStub T = false)
 (e : findCls [] (.type T) (.type "type") "__name__" = some (.get (.builtin "getset_descriptor.__get__") (.builtin "type.__name__") (.type T) (.type "type"))) (hq : ktynFast T = q) (hz : (oS q).length <= sizeLine)
 (h : ∀ tk u, Q (.str (oS q) tk) { s with toks := u }) : wpAny (model prog w) A (getAttr (.type T) "__name__" expr) Q E s := by
 have X : Frag.In [] s.heap := fun _ _ e => nomatch e
 have hstub : opaqueClassAbove (.type T) = pure none := by unfold opaqueClassAbove; dsimp only; erw [hs]; rfl
 have L0 : Looks (model prog w) s.heap (typeOf (.type T)) (.type "type") := Looks.of_pure (kitMeta_of ht)
 have LO : Looks (model prog w) s.heap (opaqueClassAbove (.type T)) none := Looks.of_pure hstub
 have hg : findIn [] (.type "type") "__getattribute__" = some (some (.builtin "type.__getattribute__")) := type_tga
 refine cls_open X LO L0 hg (looks_hook X (r := none) (by rfl)) (by show subIn [] _ _ = _; rfl) e ?_
 show wpAny _ _ (do ret (<- holding [Value.builtin "type.__name__"] (call (.builtin "getset_descriptor.__get__") [.builtin "type.__name__", .type T, .type "type"]))) _ _ _
 refine wB (wH (wpAny_call (ktyn_get (s := { s with toks := s.toks + 1 }) (kitMeta_of ht) hq hz ?_)))
 exact wP (handed_on rfl (h _ _))
end
theorem slot_bytes_repr : PySem.Slot "bytes" "__repr__" "bytes.__repr__" :=
 .of (owner := "bytes") (n := "__repr__") (by rw [typeLookup_type, builtinLookup_eq_fast]; kernel_rfl) (by decide +kernel) (by decide +kernel) (by decide +kernel)
  (by first | exact .inl (by decide +kernel) | exact .inr (by decide +kernel)) (by rw [isSubtype_type]; kernel_rfl)
theorem entry_bytes_repr : entryFor table "bytes.__repr__" = some Builtin.«bytes.__repr__» := entryFor_of_tree (by kernel_rfl)
theorem args_bytes_repr (a : Value) : argsOk "bytes.__repr__" ⟨[a], []⟩ := by unfold argsOk; kernel_rfl
end
noncomputable abbrev Cx.h (c : Cx) : Cx := { c with hn := False }
theorem Rep.cx {c c' : Cx} (hw : c.w = c'.w) {V : Addr -> Prop} {s : Shared} {d v} (r : Rep c V s d v) : Rep c' V s d v := r.mapA hw fun _ _ na e _ => ⟨na, e⟩
theorem StoR.cx {c c' : Cx} (hw : c.w = c'.w) {env : Env} {V : Addr -> Prop} {s : Shared} {m : Str -> Option Value} {ρ fps} (h : StoR c env V s m ρ fps) : StoR c' env V s m ρ fps :=
 h.map (fun _ _ _ l => l) fun _ _ _ _ r => r.map (fun _ _ => Rep.cx hw) fun _ _ _ e => e
theorem Fm.cx {c c' : Cx} {sc env V0 h0 Cs X ρ s} (F : Fm c sc env V0 h0 Cs X ρ s) (hw : c.w = c'.w) (hg : c'.Good) (hb : Keeps c'.base h0) : Fm c' sc env V0 h0 Cs X ρ s :=
 ⟨hg, F.scope, F.kind, F.globals, F.builtins, hb, F.keep, F.tok, F.live0, F.ccells, F.new, F.cells, F.cinj,
  let ⟨m, fps, h1, h2, h3, h4, h6, h5⟩ := F.sto; ⟨m, fps, h1, h2, h3, h4, h6, h5.cx hw⟩⟩
theorem Fm.h {c : Cx} {sc env V0 h0 Cs X ρ s} (F : Fm c sc env V0 h0 Cs X ρ s) : Fm c.h sc env V0 h0 Cs X ρ s := F.cx rfl ⟨F.good.g, F.good.b, F.good.lim⟩ F.base
theorem Room.h {c : Cx} {n : Nat} {A : Around} (h : Room c n A) (v : Option Value) : Room c.h n (A.mark v) := ⟨fun q => q.elim, h.depth, h.units, h.guards⟩
structure Fly (B : Heap) (l : List Env) (T : String) (m : List Nat) (s : Shared) (ev : Value) (s' : Shared) : Prop where
 ex : ∃ e t tk, ev = .ref e /\ Heap.FlyingW B l e (.type T) (.ref t) s'.heap /\ s'.heap.TupAt t [.str (S m) tk] /\ B.get? t = none
 up : s.heap.UpToSlots s'.heap
 tok : s.toks <= s'.toks
 gens : GUp s'.gens s.gens
 os : s'.os = s.os
structure Stk (c : Cx) (A : Around) (B : Heap) (l : List Env) (h : Heap) : Prop where
 stack : A.frames = some l
 base : Keeps c.base B
 stays : B.StaysIn h
 frames : h.FunFrames B l
theorem Stk.gr {c : Cx} {A B l s s'} (K : Stk c A B l s.heap) (g : Gr s s') : Stk c A B l s'.heap :=
 ⟨K.stack, K.base, fun b o e => g.keep _ _ (K.stays b o e), K.frames.of_keeps fun b o e _ => ⟨o, g.keep _ _ e, rfl⟩⟩
theorem Stk.mark {c : Cx} {A B l h} (K : Stk c A B l h) (v : Option Value) : Stk c (A.mark v) B l h := ⟨K.stack, K.base, K.stays, K.frames⟩
noncomputable def Hnd (A : Around) (h : Heap) : Prop := A.handled = none \/ ∃ e0 o vs, A.handled = some (.ref e0) /\ h.get? e0 = some o /\ o.data = .fields vs /\ vs[2]? = some .none
theorem Hnd.keeps {A : Around} {h h' : Heap} (x : Hnd A h) (k : Keeps h h') : Hnd A h' := by
 rcases x with x | ⟨e0, o, vs, h1, h2, h3⟩
 · exact .inl x
 · exact .inr ⟨e0, o, vs, h1, k _ _ h2, h3⟩
structure FnX (c : Cx) (n : Nat) (f : Value) (ds : List D) (T : String) (m : List Nat) : Prop where
 run : ∀ A V s vs B l, Room c n A -> Hnd A s.heap -> Stk c A B l s.heap -> (∀ a ∈ l.filterMap (·.frame), V a) -> St c V s -> RepL c V s ds vs -> wpAny c.M A (call f vs) (fun _ _ => False) (Fly B l T m s) s
section
theorem entry_unchain : entryFor table "proto.unchain" = some Builtin.«proto.unchain» := entryFor_of_tree (by kernel_rfl)
noncomputable abbrev excObj (T : String) (t : Addr) (tb cx : Value) : Obj := { cls := .type T, data := .fields #[.ref t, tb, cx, .none, .bool false, .none] }
section
variable {prog : Program} {w : World} {A : Around} {E : Value -> Shared -> Prop} {s : Shared}
theorem unchain_wp {e e0 : Addr} {o : Obj} {vs : Array Value} {Q : Value -> Shared -> Prop} (ho : s.heap.get? e0 = some o) (hd : o.data = .fields vs) (h2 : vs[2]? = some .none) (h : Q .none s) :
 wpAny (model prog w) A (runValue (.builtin "proto.unchain" ⟨[.ref e, .ref e0, .ref e0, .bool false], []⟩)) Q E s := by
 refine wpAny_runValue (codeAny_builtin entry_unchain ?_)
 unfold Builtin.«proto.unchain»
 dsimp only
 refine wB (wpAny_field ho hd h2 ?_)
 rw [if_pos (by rfl)]
 first | exact wP h | exact h
theorem raiseNew_made {α : Type} {T : String} {e t : Addr} {Q : α -> Shared -> Prop} (hH : Hnd A s.heap) (he : s.heap.get? e = some (excObj T t .none .none)) (hne : ∀ e0, A.handled = some (.ref e0) -> e0 ≠ e)
 (h : ∀ h' cx, h'.get? e = some (excObj T t .none cx) -> Heap.SameBut e s.heap h' -> E (.ref e) { s with heap := h' }) : wpAny (model prog w) A (raiseNew (.ref e) : Sem α) Q E s := by
 unfold raiseNew
 refine wB (wpAny_handled ?_)
 rcases hH with hh | ⟨e0, o, vs, hh, ho, hd, h2⟩
 · erw [hh]
   have := h s.heap .none he (.refl _ _)
   first
    | exact wpAny_throw this
    | exact wB (wP (wpAny_throw this))
 · erw [hh]
   have hb : (Value.ref e0 != Value.ref e) = true := by simpa using hne e0 hh
   dsimp only
   erw [if_pos hb]
   refine wB (wH (unchain_wp ho hd h2 ?_))
   show wpAny (model prog w) A (setField (.ref e) 2 (.ref e0) >>= fun _ => throw (.ref e)) Q E s
   refine wB (wpAny_setField (i := 2) (x := .ref e0) he rfl (by simp) (wpAny_throw (h _ (.ref e0) ?_ (.update _ _ _))))
   exact Heap.get?_update_self _ he rfl
theorem raiseStmt_madeH {T : String} (F : ExcRaiseFacts T) {env : Env} {x : Sem Value} {Q : Flow -> Shared -> Prop}
 (h : wpAny (model prog w) A x (fun v s₁ => ∃ e t, v = .ref e /\ s₁.heap.get? e = some (excObj T t .none .none) /\ Hnd A s₁.heap /\ (∀ e0, A.handled = some (.ref e0) -> e0 ≠ e) /\
  ∀ h' cx, h'.get? e = some (excObj T t .none cx) -> Heap.SameBut e s₁.heap h' -> E (.ref e) { s₁ with heap := h' }) E s) :
 wpAny (model prog w) A (raiseStmt env (some x) none) Q E s := by
 unfold raiseStmt
 refine wB (wM h (fun v s₁ h₁ => ?_) fun _ _ x => x)
 (refine x25 h₁ ?_; clear h₁; rintro e t rfl he hH hne hE)
 obtain ⟨hp, g, d, tk, os⟩ := s₁
 have hsub := F.isExc
 have hmeta := F.plainMeta
 repeat (first | refine wpAny_loadPart he ?_ | wp_step)
 exact raiseNew_made hH he hne hE
theorem Raise_callH {cls newId initId : String} (F : ExcCallFacts cls newId initId) (G : ExcRaiseFacts cls) {env : Env} {x : Str} {np cpos pos : Pos} {args : List Expr} {Q : Flow -> Shared -> Prop} (hplain : (backTo cpos (starEach args env)).any (·.1) = false)
 (h : wpAny (model prog w) A (eval (.Name x np) env) (fun f s₁ => f = .type cls /\ wpAny (model prog w) A (evalArgs (.type cls) true (backTo cpos (starEach args env)) [])
  (fun a s2 => a.kw = [] /\ a.pos.length <= sizeLine /\ Hnd A s2.heap /\ (∀ e0, A.handled = some (.ref e0) -> ∃ o, s2.heap.get? e0 = some o) /\
   ∀ h' e t cx, (∀ b o, s2.heap.get? b = some o -> h'.get? b = some o) -> s2.heap.get? e = none -> s2.heap.get? t = none -> h'.get? e = some (excObj cls t .none cx) -> h'.get? t = some { cls := .type "tuple", data := .seq a.pos.toArray } -> E (.ref e) { s2 with heap := h' }) E s₁) E s) :
 wpAny (model prog w) A (exec (.Raise (some (.Call (.Name x np) args [] cpos)) none pos) env) Q E s := by
 rw [arm_exec_Raise]
 show wpAny _ A (do standAt pos; raiseStmt env (some (do let v <- eval (.Call (.Name x np) args [] cpos) env; standAt pos; pure v)) none) Q E s
 refine wB (wZ (raiseStmt_madeH G (wB (wpAny_Call_ofName (wM h (fun f s₁ h₁ => ?_) fun _ _ x => x)))))
 refine hideG fun G KG => ?_
 obtain ⟨rfl, h₁⟩ := h₁
 refine KG ?_
 refine callWith_excType hplain (wM h₁ (fun a s2 h₂ => ?_) fun _ _ x => x)
 refine hideG fun G KG => ?_
 obtain ⟨apos, akw⟩ := a
 (refine x05 h₂ ?_; clear h₂; intro hkw hlen hH hlv h₂)
 obtain rfl : akw = [] := hkw
 obtain ⟨hp, g, d, tk, os⟩ := s2
 refine KG ?_
 refine wpAny_call_exc F (hrest := hlen) fun h' e hm => wB (wZ (wP ?_))
 (refine x13 hm.there ?_; intro t ht htn htt)
 refine ⟨e, t, rfl, ht, hH.keeps hm.keeps, fun e0 q r => ?_, fun h'' cx he hs => h₂ h'' e t cx (fun b o q => ?_) hm.new htn he ((hs.2 t fun q => ?_).trans htt)⟩
 · obtain ⟨o, ho⟩ := hlv e0 q
   rw [r] at ho
   have := hm.new
   rw [show ({ heap := hp, gens := g, drawn := d, toks := tk, os := os } : Shared).heap = hp from rfl] at ho
   rw [ho] at this; cases this
 · refine (hs.2 b fun r => ?_).trans (hm.keeps b o q)
   have q' : hp.get? b = some o := q
   have := hm.new
   rw [<- r, q'] at this; cases this
 · rw [q, ht] at htt
   cases htt
end
end
section
section
variable {c : Cx} {n : Nat} {sc : Scope} {k : Bool} {ρ : Sto}
theorem TruR.none : TruR c .none false := fun A V s v _ _ r => by cases r.inv; exact fun _ _ _ => ⟨.refl s, rfl⟩
structure EvJ (c : Cx) (n : Nat) (sc : Scope) (ρ : Sto) (es : List Expr) (l : List Nat) : Prop where
 run : ∀ A env V0 h0 Cs X s out, Room c n A -> Fm c sc env V0 h0 Cs X ρ s -> out.length + l.length <= 16777216 ->
  wpAny c.M A (joinParts (S out) (evalEach es env)) (fun v s' => Gr s s' /\ ∃ t, v = .str (S (out ++ l)) t) (fun _ _ => False) s
theorem EvJ.nil : EvJ c n sc ρ [] [] := .mk fun A env V0 h0 Cs X s out hA F hz =>
 wp_end (joinParts_nil ⟨fun _ _ e => e, rfl, rfl, fun _ => ⟨_, by rw [List.append_nil]⟩⟩ (by rw [S_length, sizeLine_eq]; omega))
theorem EvJ.cons {e : Expr} {es : List Expr} {l m : List Nat} (h : Ev c n sc true ρ e (sd l)) (hs : EvJ c n sc ρ es m) : EvJ c n sc ρ (e :: es) (l ++ m) := .mk fun A env V0 h0 Cs X s out hA F hz => by
 refine joinParts_cons (wM (h.run A env V0 h0 Cs X s hA F) (fun v s₁ q => ?_) fun _ _ q => q)
 obtain ⟨g, r⟩ := q
 simp at hz
 obtain ⟨t, rfl⟩ := r.inv
 refine ⟨by rw [S_append, S_length, sizeLine_eq]; simp; omega, ?_⟩
 rw [S_append]
 refine wM (hs.run A env V0 h0 Cs X s₁ (out ++ l) hA (F.gr g) (by simp; omega)) (fun v s2 q => ⟨g.trans q.1, ?_⟩) fun _ _ q => q
 obtain ⟨t', e⟩ := q.2
 exact ⟨t', by rw [e, aA]⟩
theorem Ev.joined {e₁ e₂ : Expr} {es : List Expr} {pos : Pos} {l : List Nat} (h : EvJ c n sc ρ (e₁ :: e₂ :: es) l) (hz : l.length <= 16777216) : Ev c n sc k ρ (.JoinedStr (e₁ :: e₂ :: es) pos) (sd l) := .mk fun A env V0 h0 Cs X s hA F =>
 JoinedStr_many (wM (h.run A env V0 h0 Cs X s [] hA F (by simpa using hz)) (fun v s' q => ⟨q.1, by obtain ⟨t, rfl⟩ := q.2; exact .str _ _⟩) fun _ _ q => q)
end
end
section
structure NameOk (T : String) : Prop where
 nb : (Value.type T == Value.type "builtin_function_or_method") = false
 km : kitMeta T = true
 st : Manifest.isStub T = false
 fc : findCls [] (.type T) (.type "type") "__name__" = some (.get (.builtin "getset_descriptor.__get__") (.builtin "type.__name__") (.type T) (.type "type"))
 q : ktynFast T = T
 z : (cs T).length <= 1000
theorem nameOk_int : NameOk "int" := ⟨by decide, by decide +kernel, by decide +kernel, by rfl, by decide +kernel, by decide +kernel⟩
theorem nameOk_none : NameOk "NoneType" := ⟨by decide, by decide +kernel, by decide +kernel, by rfl, by decide +kernel, by decide +kernel⟩
theorem nameOk_bytes : NameOk "bytes" := ⟨by decide, by decide +kernel, by decide +kernel, by rfl, by decide +kernel, by decide +kernel⟩
section
variable {c : Cx} {n : Nat} {sc : Scope} {k : Bool} {ρ : Sto}
theorem Ev.fmtS {e : Expr} {pos : Pos} {l : List Nat} (he : Ev c n sc k ρ e (sd l)) (hz : l.length <= 16777216) : Ev c n sc k ρ (.FormattedValue e 115 Option.none pos) (sd l) := .mk fun A env V0 h0 Cs X s hA F => by
 refine wpAny_FormattedValue_s (wM (he.run A env V0 h0 Cs X s hA F) (fun v s₁ q => ?_) fun _ _ q => q)
 obtain ⟨g, rv⟩ := q
 obtain ⟨t, rfl⟩ := rv.inv
 have hz' : (S l).length <= sizeLine := by rw [S_length, sizeLine_eq]; exact hz
 refine wT (n := s₁.toks) (Nat.le_refl _) (SB.convS_str (fun t' k' => ?_) hz')
 intro ht
 exact wp_gr (g.trans (Gr.toks ht)) (wp_end (formatField_str (fun t'' tk => ⟨fun _ _ e => e, rfl, rfl, fun _ => .str _ _⟩) hz'))
theorem FunFrames_push {B h : Heap} {env : Env} {l : List Env} {L : Addr} {o : Obj} (hk : env.scope.kind ≠ .module) (hf : env.frame = some L) (hn : B.get? L = none) (ho : h.get? L = some o) (hd : ∀ vs, o.data ≠ .fields vs) (hl : h.FunFrames B l) : h.FunFrames B (env :: l) :=
 ⟨hk, ⟨L, o, hf, hn, ho, hd⟩, hl⟩
theorem Fm.stk {env V0 h0 Cs X s} {A : Around} {B : Heap} {l : List Env} {s₀ : Shared} (F : Fm c sc env V0 h0 Cs X ρ s) (hf : env.frame = some env.locals) (hn : s₀.heap.get? env.locals = Option.none) (K : Stk c A B l s₀.heap) (g : Gr s₀ s) :
 Stk c (A.deeper env) B (env :: l) s.heap := by
 obtain ⟨m, fps, ⟨o, es, ep, ho, hd, _⟩, _⟩ := F.sto
 have K' := K.gr g
 refine ⟨Around.frames_deeper K.stack, K.base, K'.stays, FunFrames_push (by rw [F.scope, F.kind]; decide) hf ?_ ho (fun vs q => by rw [hd] at q; cases q) K'.frames⟩
 cases q : B.get? env.locals with
 | none => rfl
 | some o' => have := K.stays _ _ q; rw [hn] at this; cases this
end
end
section
structure Thrown (T : String) (s : Shared) (ev : Value) (s' : Shared) : Prop where
 ex : ∃ e t, ev = .ref e /\ s.heap.get? e = none /\ s'.heap.get? e = some (excObj T t .none .none)
 keep : Keeps s.heap s'.heap
 tok : s.toks <= s'.toks
 gens : GUp s'.gens s.gens
 os : s'.os = s.os
theorem Thrown.gr {T : String} {s s₁ s' : Shared} {ev : Value} (h : Thrown T s₁ ev s') (g : Gr s s₁) : Thrown T s ev s' := by
 obtain ⟨⟨e, t, rfl, h1, h2⟩, k, a, b, d⟩ := h
 refine ⟨⟨e, t, rfl, ?_, h2⟩, g.keep.trans k, Nat.le_trans g.tok a, b.trans g.gens, d.trans g.os⟩
 cases q : s.heap.get? e with
 | none => rfl
 | some o => have := g.keep _ _ q; rw [h1] at this; cases this
section
variable {prog : Program} {w : World} {A : Around} {E : Value -> Shared -> Prop} {s : Shared}
theorem throw_made {α : Type} {T msg : String} {Q : α -> Shared -> Prop} (hp : PlainExc T) (hh : A.handled = none) (hz : (oS msg).length <= sizeLine) (h : ∀ ev s', Thrown T s ev s' -> E ev s') :
 wpAny (model prog w) A (raiseErrorMade T msg : Sem α) Q E s := by
 unfold raiseErrorMade
 refine wT (Nat.le_refl _) ?_
 refine wB (wpAny_mkStr (wB (wpAny_newExc_plain hp fun h' e hm => wpAny_raiseNew_none hh fun ht => ?_)) hz)
 (refine x13 hm.there ?_; intro t h1 _ _)
 exact h _ _ ⟨⟨e, t, rfl, hm.new, h1⟩, hm.keeps, ht, .rfl, rfl⟩
structure NoIn (T : String) : Prop where
 c : typeLookup (.type T) "__contains__" = pure none
 i : typeLookup (.type T) "__iter__" = pure none
 g : typeLookup (.type T) "__getitem__" = pure none
 z1 : (oS (toString "'" ++ toString T ++ toString "' object is not iterable")).length <= sizeLine
 z2 : (oS (toString "argument of type '" ++ toString T ++ toString "' is not iterable")).length <= sizeLine
theorem in_none {T : String} {v u : Value} {Q : Value -> Shared -> Prop} (N : NoIn T) (hT : s.TypeIs v T) (hnm : PySem.typeNameOf v = pure T) (hsay : stdlibNamesSay? v u = none) (hTy : ∀ s' : Shared, Keeps s.heap s'.heap -> s'.TypeIs v T) (hh : A.handled = none)
 (h : ∀ ev s', Thrown "TypeError" s ev s' -> E ev s') : wpAny (model prog w) A (compareOp .In u v) Q E s := by
 unfold compareOp
 dsimp only
 refine wB ?_
 unfold contains
 refine wH ?_
 erw [hsay]
 dsimp only
 refine wB (wpAny_specialOf hT N.c ?_)
 rw [if_neg (by decide)]
 refine wB (wpAny_callSpecialUnlessNone?_none hT N.c ?_)
 dsimp only
 refine wB (wpAny_rule ?_)
 refine wB (wpAny_tryCatch ?_)
 unfold pyIter
 refine wB (wpAny_specialOf hT N.i ?_)
 dsimp only
 refine wB (wpAny_specialOf hT N.g ?_)
 dsimp only
 refine wB (wpAny_rule ?_)
 erw [hnm]
 refine wB (wP ?_)
 refine throw_made plainExc_TypeError hh N.z1 fun ev s₁ x => ?_
 obtain ⟨⟨e, t, rfl, h1, h2⟩, k, a, b, d⟩ := x
 refine wB (wpAny_isInstance (T := "TypeError") (b := true) ⟨_, h2, rfl⟩ (by rw [isSubtype_type]; kernel_rfl) ?_)
 erw [if_pos rfl]
 refine wB (wP ?_)
 exact throw_made plainExc_TypeError hh N.z2 fun ev s2 x => h ev s2 (x.gr ⟨k, a, b, d⟩)
end
theorem noIn_int : NoIn "int" := ⟨by rw [typeLookup_type, builtinLookup_eq_fast]; kernel_rfl, by rw [typeLookup_type, builtinLookup_eq_fast]; kernel_rfl, by rw [typeLookup_type, builtinLookup_eq_fast]; kernel_rfl, by decide +kernel, by decide +kernel⟩
theorem noIn_none : NoIn "NoneType" := ⟨by rw [typeLookup_type, builtinLookup_eq_fast]; kernel_rfl, by rw [typeLookup_type, builtinLookup_eq_fast]; kernel_rfl, by rw [typeLookup_type, builtinLookup_eq_fast]; kernel_rfl, by decide +kernel, by decide +kernel⟩
theorem slot_bytes_contains : PySem.Slot "bytes" "__contains__" "bytes.__contains__" :=
 .of (owner := "bytes") (n := "__contains__") (by rw [typeLookup_type, builtinLookup_eq_fast]; kernel_rfl) (by decide +kernel) (by decide +kernel) (by decide +kernel)
  (by first | exact .inl (by decide +kernel) | exact .inr (by decide +kernel)) (by rw [isSubtype_type]; kernel_rfl)
theorem entry_bytes_contains : entryFor table "bytes.__contains__" = some Builtin.«bytes.__contains__» := entryFor_of_tree (by kernel_rfl)
theorem args_bytes_contains (a b : Value) : argsOk "bytes.__contains__" ⟨[a, b], []⟩ := by unfold argsOk; kernel_rfl
section
variable {prog : Program} {w : World} {A : Around} {E : Value -> Shared -> Prop} {s : Shared}
theorem in_bytes {bs : Array UInt8} {tk t : Tok} {x : PySem.Str} {Q : Value -> Shared -> Prop} (hh : A.handled = none)
 (h : ∀ ev s', Thrown "TypeError" s ev s' -> E ev s') : wpAny (model prog w) A (compareOp .In (.str x tk) (.bytes bs t)) Q E s := by
 unfold compareOp
 dsimp only
 refine wB ?_
 unfold contains
 refine wH ?_
 erw [show stdlibNamesSay? (.bytes bs t) (.str x tk) = none from rfl]
 dsimp only
 have hT : s.TypeIs (.bytes bs t) "bytes" := rfl
 refine wB (wpAny_specialOf hT slot_bytes_contains.lookup ?_)
 rw [if_neg (by decide)]
 refine wB (wpAny_callSpecialUnlessNone?_slot (name := oS "__contains__") hT slot_bytes_contains ?_)
 refine wpAny_call (codeAny_call_builtin slot_bytes_contains.plain entry_bytes_contains (slot_bytes_contains.check _ _ _ _ _ _ _ _ hT (args_bytes_contains _ _) ?_))
 unfold Builtin.«bytes.__contains__»
 refine wB (wpAny_of_eq (a := (.bytes bs t, [.str x tk])) (by kernel_rfl) ?_)
 dsimp only
 refine wB ?_
 unfold Builtin.Bytes.containsIn
 have hS : s.TypeIs (.str x tk) "str" := typeIs_str _ _ _
 refine wB (wpAny_attempt ?_)
 unfold asIndex
 refine wB (wpAny_of_eq (a := none) rfl ?_)
 dsimp only
 refine wB (wpAny_callSpecial?_none hS (by rw [typeLookup_type, builtinLookup_eq_fast]; kernel_rfl) ?_)
 dsimp only
 refine wB (wpAny_of_eq (a := "str") (by kernel_rfl) ?_)
 refine throw_made plainExc_TypeError hh (by decide +kernel) fun ev s₁ x₁ => ?_
 refine hideG fun G KG => ?_
 obtain ⟨⟨e, t1, rfl, h1, h2⟩, k, a, b, d⟩ := x₁
 have hT1 : s₁.TypeIs (.bytes bs t) "bytes" := rfl
 have hS1 : s₁.TypeIs (.str x tk) "str" := typeIs_str _ _ _
 have lb : typeLookup (.type "bytes") (oS "__buffer__") = pure (some (.builtin "bytes.__buffer__")) := by rw [typeLookup_type, builtinLookup_eq_fast]; kernel_rfl
 have lr : typeLookup (.type "bytes") (oS "__release_buffer__") = pure none := by rw [typeLookup_type, builtinLookup_eq_fast]; kernel_rfl
 have ls : typeLookup (.type "str") (oS "__buffer__") = pure none := by rw [typeLookup_type, builtinLookup_eq_fast]; kernel_rfl
 refine KG ?_
 refine wB ?_
 unfold Builtin.Bytes.buffer?
 refine wB (wpAny_specialOf hT1 lb ?_)
 dsimp only
 refine wB ?_
 unfold Builtin.Bytes.slotIsOwn
 refine wB (wpAny_specialOf (name := oS "__buffer__") hT1 lb ?_)
 dsimp only
 rw [if_neg (by decide +kernel)]
 refine wpAny_isInstance (T := "bytes") (b := true) hT1 (by rw [isSubtype_type]; kernel_rfl) ?_
 rw [if_neg (by decide)]
 refine wB (wpAny_specialOf (name := oS "__buffer__") hT1 lb ?_)
 unfold Builtin.Bytes.ownRelease Builtin.Bytes.slotIsOwn
 refine wB (wB (wB (wpAny_specialOf (name := oS "__release_buffer__") hT1 lr ?_)))
 dsimp only
 refine wP (wP ?_)
 rw [if_neg (by decide)]
 refine wB (wpAny_of_eq (a := bs) rfl (wP ?_))
 dsimp only
 refine wB (wB (wpAny_specialOf (name := oS "__buffer__") hS1 ls ?_))
 dsimp only
 refine wB (wpAny_specialOf (name := oS "__buffer__") hS1 ls ?_)
 dsimp only
 refine wP ?_
 dsimp only
 refine wB (wpAny_rule ?_)
 refine wB (wpAny_of_eq (a := "str") (by kernel_rfl) ?_)
 exact throw_made plainExc_TypeError hh (by decide +kernel) fun ev s2 y => h ev s2 (y.gr ⟨k, a, b, d⟩)
end
end
section
structure Slt (fr : List Addr) (s s' : Shared) : Prop where
 keep : ∀ b o, b ∉ fr -> s.heap.get? b = some o -> s'.heap.get? b = some o
 up : ∀ b o, b ∈ fr -> s.heap.get? b = some o -> ∃ sl, s'.heap.get? b = some { o with slots := sl }
 tok : s.toks <= s'.toks
 gens : GUp s'.gens s.gens
 os : s'.os = s.os
theorem Slt.of_gr {fr : List Addr} {s s' : Shared} (g : Gr s s') : Slt fr s s' := ⟨fun b o _ e => g.keep b o e, fun b o _ e => ⟨o.slots, g.keep b o e⟩, g.tok, g.gens, g.os⟩
theorem Slt.trans {fr : List Addr} {s s' s'' : Shared} (a : Slt fr s s') (b : Slt fr s' s'') : Slt fr s s'' :=
 ⟨fun x o h e => b.keep x o h (a.keep x o h e), fun x o h e => let ⟨_, e₁⟩ := a.up x o h e; let ⟨sl, e₂⟩ := b.up x _ h e₁; ⟨sl, e₂⟩, Nat.le_trans a.tok b.tok, b.gens.trans a.gens, b.os.trans a.os⟩
theorem Slt.ns {fr : List Addr} {s s' : Shared} (a : Slt fr s s') {L : Addr} {m : Str -> Option Value} (h : s.heap.Ns L m) : s'.heap.Ns L m := by
 (refine x33 h ?_; clear h; intro o es ep ho hd r)
 by_cases q : L ∈ fr
 · obtain ⟨sl, e⟩ := a.up L o q ho; exact ⟨_, es, ep, e, hd, r⟩
 · exact ⟨o, es, ep, a.keep L o q ho, hd, r⟩
theorem Slt.of_hide {fr : List Addr} {s s' : Shared} (hb : (hideAll s.heap fr).StaysIn s'.heap) (hu : s.heap.UpToSlots s'.heap) (hd : ∀ b o, b ∈ fr -> s.heap.get? b = some o -> ∀ vs, o.data ≠ .fields vs) (t : s.toks <= s'.toks) (g : GUp s'.gens s.gens) (o : s'.os = s.os) : Slt fr s s' :=
 ⟨fun b ob h e => hb b ob (hideAll_get fr e h), fun b ob h e => hu b ob e (hd b ob h e), t, g, o⟩
section
variable {c : Cx} {sc : Scope} {ρ : Sto}
theorem Fm.noted {env V0 h0 h0' Cs X s s'} {fr : List Addr} (F : Fm c sc env V0 h0 Cs X ρ s) (t : Slt fr s s') (hfr : ∀ a ∈ fr, V0 a \/ a = env.locals) (hb : Keeps c.base h0') (hk : Keeps h0' s'.heap) (hn : ∀ a ∈ X, h0'.get? a = none) (hcs : Cs = env.cells) :
 Fm c sc env V0 h0' Cs X ρ s' := by
 obtain ⟨m, fps, h1, h2, h3, h4, h6, h5⟩ := F.sto
 have hLX : env.locals ∈ X := h2 ▸ .head _
 have hoff : ∀ a, ¬ Vol V0 X a -> a ∉ fr := fun a na q => (hfr a q).elim (fun q => na (.inl q)) fun q => na (.inr (q ▸ hLX))
 have hX : ∀ a ∈ X, a ≠ env.locals -> a ∉ fr := fun a ha hne q => (hfr a q).elim (fun q => (F.live0 a q).2 ha) hne
 have hlive : ∀ a o, s.heap.get? a = some o -> ∃ o', s'.heap.get? a = some o' := fun a o e => by
  by_cases q : a ∈ fr
  · obtain ⟨sl, e'⟩ := t.up a o q e; exact ⟨_, e'⟩
  · exact ⟨o, t.keep a o q e⟩
 have hndL : env.locals ∉ Cs.map (·.2) ++ fps := (List.nodup_cons.mp (h2 ▸ h3)).1
 have hcm : Calm (Vol V0 X) s s' := ⟨t.tok, fun b o nb e _ => t.keep b o (hoff b nb) e⟩
 refine ⟨F.good, F.scope, F.kind, F.globals, F.builtins, hb, hk, fun e => F.tok (Nat.le_zero.mp (e ▸ t.tok)), fun a q => ⟨let ⟨o, e⟩ := (F.live0 a q).1; hlive a o e, (F.live0 a q).2⟩, F.ccells, hn, F.cells, F.cinj,
  m, fps, t.ns h1, h2, h3, fun a ha => let ⟨o, e⟩ := h4 a ha; hlive a o e, fun p hp => ?_, h5.change hcm (fun a ha o e => t.keep a o ?_ e) (fun _ _ _ => rfl) fun p hp a o w hc e hw => ?_⟩
 · (refine x22 (h6 p hp) ?_; intro v o e d)
   have hp2 : p.2 ∈ Cs.map (·.2) := List.mem_map_of_mem hp
   exact ⟨v, o, t.keep _ o (hX _ (h2 ▸ .tail _ (mL _ hp2)) fun q => hndL (q ▸ mL _ hp2)) e, d⟩
 · exact hX a (h2 ▸ .tail _ (mR _ ha)) fun q => hndL (q ▸ mR _ ha)
 · have hp2 : a ∈ Cs.map (·.2) := by rw [hcs]; exact List.mem_map.mpr ⟨_, mem_lookup hc, rfl⟩
   exact t.keep a o (hX a (h2 ▸ .tail _ (mL _ hp2)) fun q => hndL (q ▸ mL _ hp2)) e
end
section
variable {M : Model} {A : Around} {E : Value -> Shared -> Prop} {s : Shared}
theorem held_back {B : Heap} {env : Env} {l : List Env} {L e : Addr} {cls a0 : Value} (hf : env.frame = some L) (hh : Heap.HeldW B (env :: l) e cls a0 L s.heap)
 (h : ∀ h', Heap.HeldW B (env :: l) e cls a0 L h' -> s.heap.UpToSlots h' -> E (.ref e) { s with heap := h' }) : cameBackBy M A env E (.ref e) s := by
 (refine x04 hh ?_; clear hh; intro f1 f2 f3 r9; refine x59 r9 ?_; clear r9; intro oe vs T oT ts a1 a2 a3 a4 a5 a6 a7 a8 a9)
 have hsz3 : 3 < ts.size := (Array.getElem?_eq_some_iff.mp a9).1
 unfold cameBackBy
 refine wB (wpAny_field a1 a3 a4 ?_)
 rw [if_neg (by simp)]
 unfold setFlight
 refine wB (wpAny_field a1 a3 a4 ?_)
 erw [if_pos (show (Value.ref T != Value.none) = true from by simp), hf]
 have other : ∀ b, b ≠ T -> (s.heap.update T (Obj.mapFields (·.setIfInBounds 3 (rawInt L)))).get? b = s.heap.get? b := fun b hb => Heap.get?_update_other _ _ (Ne.symm hb)
 have noRecord : ∀ b o, s.heap.get? b = some o -> (∀ vs, o.data ≠ .fields vs) -> b ≠ T := fun b o hb hnf q => by
  rw [q, a7] at hb; injection hb with hb; subst hb; exact hnf ts a8
 refine wpAny_setField a7 a8 hsz3 (h _ ⟨fun b o hbo => (other b fun q => by rw [q, a5] at hbo; cases hbo).trans (f1 b o hbo), f2, f3.of_keeps fun b o hb hnf => ⟨o, (other b (noRecord b o hb hnf)).trans hb, rfl⟩, oe, vs, T, _, _, (other e (Ne.symm a6)).trans a1, a2, a3, a4, a5, a6,
  Heap.get?_update_self _ a7 (Obj.isFreed_of_fields (Obj.data_mapFields a8 _)), Obj.data_mapFields a8 _, by simp [hsz3]⟩ fun b o hb hnf => ⟨o.slots, (other b (noRecord b o hb hnf)).trans hb⟩)
theorem leave_held {B : Heap} {env : Env} {l : List Env} {L e : Addr} {cls a0 : Value} {Q : Unit -> Shared -> Prop} (hf : env.frame = some L) (hh : Heap.HeldW B (env :: l) e cls a0 L s.heap)
 (h : ∀ h', Heap.FlyingW B l e cls a0 h' -> s.heap.UpToSlots h' -> Q () { s with heap := h' }) : wpAny M A (leaving env (.ref e)) Q E s := by
 unfold leaving
 refine wB (wpAny_noteFrame_againW hf hh.2.2.2 ?_)
 refine wpAny_landsW hh fun h' hfl hu => ?_
 (refine x04 hfl ?_; clear hfl; rintro k1 k2 ⟨_, _, k3⟩ k4)
 exact h h' ⟨k1, k2, k3, k4⟩ hu
end
end
section
section
variable {c : Cx} {n : Nat} {sc : Scope} {ρ : Sto}
noncomputable def InX (c : Cx) (d : D) : Prop := ∀ A V s v x tk, A.handled = none -> Rep c V s d v -> wpAny c.M A (compareOp .In (.str x tk) v) (fun _ _ => False) (Thrown "TypeError" s) s
theorem InX.int {i : Int} : InX c (.int i) := fun A V s v x tk hh r => by
 obtain ⟨_, rfl⟩ := r.inv
 exact in_none noIn_int (typeIs_int _ _ _) rfl rfl (fun s' _ => typeIs_int _ _ _) hh fun _ _ q => q
theorem InX.none : InX c .none := fun A V s v x tk hh r => by
 cases r.inv
 exact in_none noIn_none rfl rfl rfl (fun s' _ => rfl) hh fun _ _ q => q
theorem InX.bytes {b : List Nat} : InX c (.bytes b) := fun A V s v x tk hh r => by
 obtain ⟨_, rfl⟩ := r.inv
 exact in_bytes hh fun _ _ q => q
theorem Slt.upto {fr : List Addr} {s s' : Shared} (t : Slt fr s s') : s.heap.UpToSlots s'.heap := fun b o e _ => by
 by_cases q : b ∈ fr
 · exact t.up b o q e
 · exact ⟨o.slots, t.keep b o q e⟩
theorem Stk.slt {A B l s s'} {fr : List Addr} (K : Stk c A B l s.heap) (t : Slt fr s s') (hfr : ∀ b ∈ fr, B.get? b = Option.none) : Stk c A B l s'.heap :=
 ⟨K.stack, K.base, fun b o e => t.keep b o (fun q => by rw [hfr b q] at e; cases e) (K.stays b o e), K.frames.of_keeps fun b o e hd => let ⟨sl, e'⟩ := t.upto b o e hd; ⟨_, e', rfl⟩⟩
theorem Callee.h {fv : Value} (h : Callee c fv) : Callee c.h fv := by
 cases h with
 | builtin id => exact .builtin id
 | type T => exact .type T
 | func ho hd => exact .func ho hd
theorem call_raises {f : Expr} {es : List Expr} {pos : Pos} {fv : Value} {ds : List D} {T : String} {m : List Nat} {A : Around} {env : Env} {V0 h0 Cs X s B l} (hA : Room c n A) (hH : Hnd A s.heap) (F : Fm c sc env V0 h0 Cs X ρ s) (K : Stk c A B l s.heap) (hV : ∀ a ∈ l.filterMap (·.frame), Vol V0 X a)
 (hf : Ev c n sc true ρ f (.val fv)) (hc : Callee c fv) (ha : EvL c n sc true ρ es ds) (h : FnX c n fv ds T m) (hp : es.all plainE = true := by rfl)
 (he : ∀ env : Env, eval (.Call f es [] pos) env = (do callWith pos (<- eval f env) [] (backTo pos (starEach es env)) (backToKw pos (keywordEach [] env))) := by intro _; rfl) :
 wpAny c.M A (eval (.Call f es [] pos) env) (fun _ _ => False) (Fly B l T m s) s := by
 rw [he]
 refine wB (wM (hf.run A env V0 h0 Cs X s hA F) (fun v s₁ q₁ => ?_) fun _ _ q => q.elim)
 obtain ⟨g₁, r₁⟩ := q₁
 cases r₁.inv
 refine hc.wp hp (wM (ha.run A env V0 h0 Cs X s₁ pos hA (F.gr g₁)) (fun vs s2 q₂ => ⟨((F.gr g₁).gr q₂.1).base.trans ((F.gr g₁).gr q₂.1).keep, ?_⟩) fun _ _ q => q.elim)
 have g := g₁.trans q₂.1
 have hvk : VK true V0 X = Vol V0 X := by funext a; simp [VK]
 refine wM (h.run A _ s2 vs B l hA (hH.keeps g.keep) (K.gr g) (fun a ha => ⟨rfl, hV a ha⟩) ((F.st true).gr g) q₂.2) (fun _ _ q => q) fun ev s' q => ?_
 exact ⟨q.ex, (Heap.UpToSlots.of_keeps g.keep).trans q.up, Nat.le_trans g.tok q.tok, q.gens.trans g.gens, q.os.trans g.os⟩
theorem frames_hidden {h B : Heap} {l : List Env} (hl : h.FunFrames B l) : h.FunFrames (hideAll h (l.filterMap (·.frame))) l :=
 funFrames_hide hl fun env he a ha => List.mem_filterMap.mpr ⟨env, he, ha⟩
theorem hidden_stays {h B : Heap} {l : List Env} (hk : B.StaysIn h) (hl : h.FunFrames B l) : B.StaysIn (hideAll h (l.filterMap (·.frame))) := fun b o e =>
 hideAll_get _ (hk b o e) fun q => by rw [(hl.mem q).1] at e; cases e
theorem isExc_AttributeError : isSubtype (.type "AttributeError") (.type "BaseException") = pure true := by rw [isSubtype_type]; kernel_rfl
theorem notTuple_AttributeError : isSubtype (.type ((Manifest.find? "AttributeError").elim "type" fun x => x.metatype)) (.type "tuple") = pure false := by
 rw [show ((Manifest.find? "AttributeError").elim "type" fun x => x.metatype) = "type" by rw [find?_eq_fast]; kernel_rfl, isSubtype_type]; kernel_rfl
end
end
section
noncomputable abbrev upd (m : Str -> Option Value) (x : Str) (v : Value) : Str -> Option Value := fun y => if y = x then some v else m y
theorem NsK.look {h : Heap} {a : Addr} {m : Str -> Option Value} {k : Nat} (x : NsK h a m k) : ∃ o, h.get? a = some o /\ ∀ name, lookIn name o = some (m name) := by
 (refine x24 x ?_; clear x; intro es ep h1 h2 h3 _)
 refine ⟨_, h1, fun name => ?_⟩
 have hany : es.toList.any (·.refKey) = false := by
  rw [List.any_eq_false]; intro e he; (refine x21 (h2 e (Array.mem_toList_iff.mp he)) ?_; intro n t h); simp [DictEntry.refKey, h]
 unfold lookIn
 dsimp only
 erw [<- h3 name]
 unfold nsFind findBy
 erw [<- Array.find?_toList]
 cases hf : es.toList.find? (·.key.isStr name) with
 | some e => rfl
 | none => erw [hany]; rfl
theorem NsK.keeps {h h' : Heap} {a : Addr} {m : Str -> Option Value} {k : Nat} (x : NsK h a m k) (hk : ∀ o, h.get? a = some o -> h'.get? a = some o) : NsK h' a m k :=
 let ⟨es, ep, h1, r⟩ := x; ⟨es, ep, hk _ h1, r⟩
section
variable {M : Model} {A : Around} {E : Value -> Shared -> Prop} {s : Shared}
theorem nsSet_K {a : Addr} {m : Str -> Option Value} {k : Nat} {name : Str} {v : Value} {Q : Unit -> Shared -> Prop} (hn : NsK s.heap a m k)
 (hQ : ∀ h', NsK h' a (upd m name v) (k + 1) -> Heap.SameBut a s.heap h' -> Q () { s with heap := h', toks := s.toks + 1 }) : wpAny M A (nsSet a name v) Q E s := by
 (refine x24 hn ?_; clear hn; intro es ep ho hk hm hz)
 have hany : es.any (·.refKey) = false := by
  rw [Array.any_eq_false']; intro e he; (refine x21 (hk e he) ?_; intro n t h); simp [DictEntry.refKey, h]
 unfold nsSet
 refine wB (wB (wpAny_askSetting (wP (wB (wpAny_mkText (wB (wpAny_loadPart (s := { s with toks := s.toks + 1 }) ho ?_)))))))
 dsimp only
 rw [aRefKeyMayBeTheName_at, hany, Bool.and_false]
 rw [if_neg (by decide)]
 refine wpAny_updatePart ho ?_
 refine hQ _ ?_ (.update _ _ _)
 cases hi : es.findIdx? (·.key.isStr name) with
 | some i =>
  refine ⟨es.modify i fun e => { e with val := v }, ep, ?_, hk.modify _ _, fun x => ?_, by simpa using Nat.le_succ_of_le hz⟩
  · rw [Heap.get?_update_self _ ho (by simp only [Obj.putName_eq, Obj.putNameByArray, hi] <;> rfl)]
    simp only [Obj.putName_eq, Obj.putNameByArray, hi] <;> rfl
  · show _ = if x = name then some v else m x
    rw [<- hm]; exact findBy_modify (fun n v => v.isStr n) Value.isStr_inj es name x v i hi
 | none =>
  refine ⟨es.push ⟨if name.cps.isEmpty = true then 0 else reduceHash (M.w.params.strHash name.cps), .str name s.toks, v⟩, ep + 1, ?_, hk.push _ _ _ _, fun x => ?_, by simpa using Nat.succ_le_succ hz⟩
  · rw [Heap.get?_update_self _ ho (by simp only [Obj.putName_eq, Obj.putNameByArray, hi] <;> rfl)]
    simp only [Obj.putName_eq, Obj.putNameByArray, hi] <;> rfl
  · show _ = if x = name then some v else m x
    rw [<- hm]
    exact findBy_push (fun n v => v.isStr n) es name x _ _ v (fun y => by
     show (name == y) = decide (y = name)
     by_cases h : y = name
     · subst h; simp
     · have : ¬ name = y := fun e => h e.symm
       simp [h, this]) hi
end
structure Inst (h : Heap) (x C dx : Addr) (m : Str -> Option Value) (k : Nat) : Prop where
 at' : h.get? x = some (instObj C dx)
 dict : NsK h dx m k
theorem Inst.inst {h : Heap} {x C dx : Addr} {m : Str -> Option Value} {k : Nat} (I : Inst h x C dx m k) : ∃ o, InstAt h x (instObj C dx) C (some o) /\ ∀ name, lookIn name o = some (m name) := by
 (refine x12 I.dict.look ?_; intro o h1 h2)
 exact ⟨o, ⟨I.at', rfl, rfl, h1⟩, h2⟩
structure ClsOk (K : Frag) (C : Addr) : Prop where
 ga : findIn K (.ref C) "__getattribute__" = some (some (.builtin "object.__getattribute__"))
 gk : findIn K (.ref C) "__getattr__" = some none
 sa : findIn K (.ref C) "__setattr__" = some (some (.builtin "object.__setattr__"))
 over : plainOver K C = true
 hasDict : (clsIn K C).any (·.hasDict) = true
section
variable {prog : Program} {w : World} {A : Around} {E : Value -> Shared -> Prop} {s : Shared} {K : Frag} {x C dx : Addr} {m : Str -> Option Value} {k : Nat} {name : Str}
theorem get_field {v : Value} {expr : Bool} {Q : Value -> Shared -> Prop} (X : K.In s.heap) (O : ClsOk K C) (I : Inst s.heap x C dx m k) (hf : findIn K (.ref C) name = some none) (hv : m name = some v) (hh : handedIn v = true)
 (h : Q v { s with toks := s.toks + 1 }) : wpAny (model prog w) A (getAttr (.ref x) name expr) Q E s := by
 (refine x12 I.inst ?_; intro o I' hl)
 refine get_value X I' O.ga ?_ hh h
 (refine x12 (any_some O.hasDict) ?_; intro cd hc hd)
 unfold findObj
 rw [hc, Option.bind_some, hf, Option.bind_some]
 show (W.ownOf cd (some o) name).bind _ = _
 unfold W.ownOf
 erw [hd, if_pos rfl]
 dsimp only
 erw [hl name, hv]
 rfl
theorem set_field {v : Value} {Q : Unit -> Shared -> Prop} (X : K.In s.heap) (O : ClsOk K C) (I : Inst s.heap x C dx m k) (ht : takerIn K C name = some none) (hk : k <= 100000)
 (h : ∀ h' tk, NsK h' dx (upd m name v) (k + 1) -> Heap.SameBut dx s.heap h' -> Q () { s with heap := h', toks := tk }) : wpAny (model prog w) A (setAttr (.ref x) name v) Q E s := by
 (refine x12 I.inst ?_; intro o I' hl)
 refine set_plain X I' O.sa (osa_open (s := { s with toks := s.toks + 1 }) X I' O.over ht fun b => ?_)
 (refine x12 (any_some O.hasDict) ?_; intro cd hc hd)
 refine wB (wP (wB (wB (wpAny_loadPart I.at' (wB (Looks.here (s := { s with toks := s.toks + 1 }) (looks_clsIn X hc) ?_))))))
 erw [hd]
 refine wP (a := some dx) (wB (wP (wB ?_)))
 refine nsSet_K (s := { s with toks := s.toks + 1 }) I.dict fun h' hn hs => ?_
 have hn' := hn
 (refine x24 hn' ?_; clear hn'; intro es ep ho _ _ hz)
 refine wB (wpAny_lookBehind ho (pastItsLine_dict (by rw [sizeLine_eq]; omega)) (wP ?_))
 exact h h' _ hn hs
end
end
section
open PySem PySem.W PyProof.Rows PySem.SeqAt AutoSeq1 MeetsSeq MeetsSeq2 MeetsSeq3
noncomputable abbrev p09 := PySem.Challenge.pw_dn0276_09
noncomputable def mthAt (p : Program) (i j : Nat) : Scope × List Stmt := match p.main.body[i]? with
 | some (.ClassDef _ _ _ cb _ _ _ _ _ _ _) => (match cb[j]? with
  | some (.FunctionDef _ _ body _ _ _ sc _ _ _) => (sc, body)
  | _ => (⟨.function, [], false, false, []⟩, []))
 | _ => (⟨.function, [], false, false, []⟩, [])
noncomputable abbrev msc (j : Nat) : Scope := (mthAt p09 10 j).1
noncomputable abbrev mbd (j : Nat) : List Stmt := (mthAt p09 10 j).2
noncomputable abbrev sc09 (i : Nat) : Scope := scAt p09 i
noncomputable abbrev bd09 (i : Nat) : List Stmt := bodyAt p09 i
theorem noIn_bool : NoIn "bool" := ⟨by rw [typeLookup_type, builtinLookup_eq_fast]; kernel_rfl, by rw [typeLookup_type, builtinLookup_eq_fast]; kernel_rfl, by rw [typeLookup_type, builtinLookup_eq_fast]; kernel_rfl, by decide +kernel, by decide +kernel⟩
section
variable {c : Cx}
theorem InX.bool {b : Bool} : InX c (.bool b) := fun A V s v x tk hh r => by
 cases r.inv
 exact in_none noIn_bool rfl rfl rfl (fun s' _ => rfl) hh fun _ _ q => q
end
theorem Room.cl {c : Cx} {n : Nat} {A : Around} (h : Room c n A) : A.units < cLine := by have := h.units; omega
section
variable {prog : Program} {w : World} {A : Around}
theorem list_containsH {l : Addr} {items : Array Value} {n : Nat} {dd : Option Addr} {sl : Array (Option Value)} {y : Str} {t u : Tok} {R : Result -> Shared -> Prop} {s : Shared} (h0 : items[0]? = some (.str y t))
 (hl : s.heap.get? l = some { cls := .type "list", dict := dd, data := .seq items n, slots := sl }) (h : R (.ok (.ret (.bool true))) s) :
 wpAny (model prog w) A.in1 (Builtin.«list.__contains__» ⟨[.ref l, .str y u], []⟩) (fun fin s' => match fin with | .done f => R (.ok f) s' | .again c' => c'.quiet = true /\ codeAny (model prog w) A c' R s') (fun e s' => R (.error e) s') s := by
 have e : EqAt A.in1 s (.str y t) (.str y u) true := by have := SeqAt.EqAt.str_str (A := A.in1) (s := s) y t y u; rwa [beq_self_eq_true] at this
 have hi : items[((0 : Nat) : Int).toNat]? = some (.str y t) := h0
 obtain ⟨hp, gg, d, tk, os⟩ := s
 wp_walk using wpAny_loadPart' hl
 refine ⟨plainId_quiet plain_contains_loop _, codeAny_builtin entry_contains_loop ?_⟩
 erw [Around.under_plainId plain_contains_loop _]
 wp_walk using wpAny_loadPart' hl
 erw [show items[Int.toNat 0]? = some (Value.str y t) from h0]
 refine wB (e _ _ _ _ ?_)
 wp_walk
 exact h
theorem tuple_containsH {l : Addr} {items : Array Value} {n : Nat} {dd : Option Addr} {sl : Array (Option Value)} {y : Str} {t u : Tok} {R : Result -> Shared -> Prop} {s : Shared} (h0 : items[0]? = some (.str y t))
 (hl : s.heap.get? l = some { cls := .type "tuple", dict := dd, data := .seq items n, slots := sl }) (h : R (.ok (.ret (.bool true))) s) :
 wpAny (model prog w) A.in1 (Builtin.«tuple.__contains__» ⟨[.ref l, .str y u], []⟩) (fun fin s' => match fin with | .done f => R (.ok f) s' | .again c' => c'.quiet = true /\ codeAny (model prog w) A c' R s') (fun e s' => R (.error e) s') s := by
 have e : EqAt A.in1 s (.str y t) (.str y u) true := by have := SeqAt.EqAt.str_str (A := A.in1) (s := s) y t y u; rwa [beq_self_eq_true] at this
 refine wM (Q := fun fin s' => ∃ v, fin = .done (.ret v) /\ R (.ok (.ret v)) s') ?_ (fun fin s' h' => by (refine x12 h' ?_; clear h'; rintro v rfl hv); exact hv) fun _ _ x => x
 obtain ⟨rest, hr⟩ : ∃ rest, items.toList = .str y t :: rest := by
  obtain ⟨l⟩ := items
  cases l with
  | nil => simp at h0
  | cons v r => simp at h0; subst h0; exact ⟨r, rfl⟩
 obtain ⟨hp, g, d, tk, os⟩ := s
 wp_walk using wpAny_loadPart' hl, MeetsSeq2.wpAny_forIn_array _ (fun rest' b s' => s' = ⟨hp, g, d, tk, os⟩ /\ b.1 = none /\ rest' = items.toList) _
 case turn =>
  rintro z rest' b s' ⟨rfl, hb, hz⟩
  rw [hr] at hz
  injection hz with hy hrest
  subst hy
  refine wB (e _ _ _ _ ?_)
  wp_walk
  exact ⟨_, rfl, h⟩
 case fin =>
  rintro ⟨b1, b2⟩ s' ⟨_, hb, hz⟩
  rw [hr] at hz; cases hz
 case h => exact ⟨rfl, rfl, rfl⟩
end
structure InH (c : Cx) (d : D) (y : List Nat) : Prop where
 run : ∀ A V s v t, Room c 1 A -> St c V s -> Rep c V s d v -> wpAny c.M A (compareOp .In (.str (S y) t) v) (fun r s' => Gr s s' /\ r = .bool true) (fun _ _ => False) s
section
variable {c : Cx} {n : Nat} {y : List Nat}
theorem InH.list {ds : List D} : InH c (.list (sd y :: ds)) y := .mk fun A V s v t hA hS r => by
 replace r := r.inv
 obtain ⟨a, o, vs, k, rfl, na, ho, hc, hd, hdt, r⟩ := r
 obtain ⟨cls, dd, data, sl⟩ := o
 simp only at hc hdt
 subst hc hdt
 obtain ⟨vs⟩ := vs
 cases r with
 | cons r _ =>
 obtain ⟨_, rfl⟩ := r.inv
 have hT : s.TypeIs (.ref a) "list" := ⟨_, ho, rfl⟩
 show wpAny _ A (do return Value.bool (<- contains (.ref a) (.str (S y) t))) _ _ s
 refine wB (wpAny_contains_slot hT F.slot_list_contains (wM (Q := fun v s' => s' = s /\ v = Value.bool true) (E := fun _ _ => False) ?_ (fun v s' q => ?_) fun _ _ q => q))
 · refine wpAny_call (codeAny_call_builtin F.slot_list_contains.plain F.entry_list_contains (F.slot_list_contains.check _ _ _ _ _ _ _ _ hT (F.args_list_contains_2 _ _) ?_))
   exact list_containsH (R := wants (fun v s' => s' = s /\ v = Value.bool true) (fun _ _ => False)) rfl ho ⟨rfl, rfl⟩
 · obtain ⟨rfl, rfl⟩ := q
   exact wpAny_truthy_bool (wP ⟨.refl _, rfl⟩)
theorem InH.tuple {ds : List D} : InH c (.tuple (sd y :: ds)) y := .mk fun A V s v t hA hS r => by
 replace r := r.inv
 obtain ⟨a, o, vs, k, rfl, na, ho, hc, hd, hdt, r⟩ := r
 obtain ⟨cls, dd, data, sl⟩ := o
 simp only at hc hdt
 subst hc hdt
 obtain ⟨vs⟩ := vs
 cases r with
 | cons r _ =>
 obtain ⟨_, rfl⟩ := r.inv
 have hT : s.TypeIs (.ref a) "tuple" := ⟨_, ho, rfl⟩
 show wpAny _ A (do return Value.bool (<- contains (.ref a) (.str (S y) t))) _ _ s
 refine wB (wpAny_contains_slot hT F.slot_tuple_contains (wM (Q := fun v s' => s' = s /\ v = Value.bool true) (E := fun _ _ => False) ?_ (fun v s' q => ?_) fun _ _ q => q))
 · refine wpAny_call (codeAny_call_builtin F.slot_tuple_contains.plain F.entry_tuple_contains (F.slot_tuple_contains.check _ _ _ _ _ _ _ _ hT (F.args_tuple_contains_2 _ _) ?_))
   exact tuple_containsH (R := wants (fun v s' => s' = s /\ v = Value.bool true) (fun _ _ => False)) rfl ho ⟨rfl, rfl⟩
 · obtain ⟨rfl, rfl⟩ := q
   exact wpAny_truthy_bool (wP ⟨.refl _, rfl⟩)
theorem InH.dict {kvs : List (List Nat × D)} (h : (kvs.lookup y).isSome = true) : InH c (.dict kvs) y := .mk fun A V s v t hA hS r => by erw [<- h]; exact CmpR.inD A V s _ _ hA.zero hS (.str _ t) r
theorem Tst.inH {sc : Scope} {ρ : Sto} {x z : String} {p p2 pos : Pos} {kk : Nat} {d : D} (h : InH c d (cs z)) (hx : ρ.lookup x = some (.val d)) (hxd : x ≠ "__debug__" := by decide) :
 Tst c (n + 1) sc ρ (.Compare (.Constant (.str (oS z)) kk p) [.In] [.Name (oS x) p2] pos) true := .mk fun A env V0 h0 Cs X s hA F =>
 wpAny_isTrue_Compare1 (wM ((Ev.lit (k := false)).run A env V0 h0 Cs X s hA F) (fun v₁ s₁ q₁ => wM ((Ev.name (k := false) hx hxd).run A env V0 h0 Cs X s₁ hA (F.gr q₁.1)) (fun v₂ s2 q₂ => by
  obtain ⟨g₁, r₁⟩ := q₁
  obtain ⟨_, rfl⟩ := r₁.inv
  refine wM (h.run A _ s2 v₂ _ (hA.mono (by omega)) ((F.st false).gr (g₁.trans q₂.1)) q₂.2) (fun v s' q => ?_) fun _ _ q => q
  rw [q.2]; exact wpAny_truthy_bool ⟨(g₁.trans q₂.1).trans q.1, rfl⟩) fun _ _ q => q) fun _ _ q => q) (by with_unfolding_all rfl)
end
end
section
section
variable {prog : Program} {w : World} {A : Around} {E : Value -> Shared -> Prop} {s : Shared}
theorem replace_miss_list {a : Addr} {o : Obj} {xs : Array Value} {k : Nat} {Q : Value -> Shared -> Prop}
 (hx : s.heap.get? a = some o) (hc : o.cls = .type "list") (hdat : o.data = .seq xs k) (hd : o.dict = none) (hA : A.handled = none)
 (h : ∀ h' tk e, Heap.NewAttrErr s.heap h' e (.ref a) (oS "replace") -> E (.ref e) { s with heap := h', toks := tk }) :
 wpAny (model prog w) A (getAttr (.ref a) (oS "replace")) Q E s := by
 obtain ⟨c, dct, dat, sl⟩ := o
 simp only at hc hdat hd
 subst hc hdat hd
 obtain ⟨hp, g, d, tk, os⟩ := s
 have hT : ∀ tk', (⟨hp, g, d, tk', os⟩ : Shared).TypeIs (.ref a) "list" := fun _ => ⟨_, hx, rfl⟩
 have f1 := sub_AttributeError
 have f3 := F.slot_list_getattribute.lookup
 have f4 := F.slot_list_getattribute.bind (.ref a)
 have f5 := am_list_getattr_none
 unfold getAttr getAttrBy
 repeat (any_goals (first | assumption | exact hT _ | ((with_reducible show wpAny _ _ (call (Value.builtin "list.__getattribute__") _ _) _ _ _); refine call_meets F.slot_list_getattribute (hT _) am_entry_list_getattribute (F.args_list_getattribute_2 _ _) (meets_getattribute_miss_list a xs k sl (oS "replace") _ (by rw [typeLookup_type, builtinLookup_eq_fast]; kernel_rfl) (by decide +kernel) (by size_fits)) ⟨hx, hA, fun h' tk' e hx' => ?_⟩) | wp_step))
 (refine x21 hx'.there ?_; intro t' u' he)
 show wpAny _ _ (getattributeRaised _ _ _ _ _ _ _) _ _ _
 unfold getattributeRaised
 repeat (any_goals (first | assumption | wp_step))
 exact h _ _ _ hx'
theorem replace_miss_tuple {a : Addr} {o : Obj} {xs : Array Value} {k : Nat} {Q : Value -> Shared -> Prop}
 (hx : s.heap.get? a = some o) (hc : o.cls = .type "tuple") (hdat : o.data = .seq xs k) (hd : o.dict = none) (hA : A.handled = none)
 (h : ∀ h' tk e, Heap.NewAttrErr s.heap h' e (.ref a) (oS "replace") -> E (.ref e) { s with heap := h', toks := tk }) :
 wpAny (model prog w) A (getAttr (.ref a) (oS "replace")) Q E s := by
 obtain ⟨c, dct, dat, sl⟩ := o
 simp only at hc hdat hd
 subst hc hdat hd
 obtain ⟨hp, g, d, tk, os⟩ := s
 have hT : ∀ tk', (⟨hp, g, d, tk', os⟩ : Shared).TypeIs (.ref a) "tuple" := fun _ => ⟨_, hx, rfl⟩
 have f1 := sub_AttributeError
 have f3 := F.slot_tuple_getattribute.lookup
 have f4 := F.slot_tuple_getattribute.bind (.ref a)
 have f5 := am_tuple_getattr_none
 unfold getAttr getAttrBy
 repeat (any_goals (first | assumption | exact hT _ | ((with_reducible show wpAny _ _ (call (Value.builtin "tuple.__getattribute__") _ _) _ _ _); refine call_meets F.slot_tuple_getattribute (hT _) am_entry_tuple_getattribute (F.args_tuple_getattribute_2 _ _) (meets_getattribute_miss_tuple a xs k sl (oS "replace") _ (by rw [typeLookup_type, builtinLookup_eq_fast]; kernel_rfl) (by decide +kernel) (by size_fits)) ⟨hx, hA, fun h' tk' e hx' => ?_⟩) | wp_step))
 (refine x21 hx'.there ?_; intro t' u' he)
 show wpAny _ _ (getattributeRaised _ _ _ _ _ _ _) _ _ _
 unfold getattributeRaised
 repeat (any_goals (first | assumption | wp_step))
 exact h _ _ _ hx'
theorem replace_miss_dict {a : Addr} {o : Obj} {es : Array DictEntry} {k : Nat} {Q : Value -> Shared -> Prop}
 (hx : s.heap.get? a = some o) (hc : o.cls = .type "dict") (hdat : o.data = .dict es k) (hd : o.dict = none) (hA : A.handled = none)
 (h : ∀ h' tk e, Heap.NewAttrErr s.heap h' e (.ref a) (oS "replace") -> E (.ref e) { s with heap := h', toks := tk }) :
 wpAny (model prog w) A (getAttr (.ref a) (oS "replace")) Q E s := by
 obtain ⟨c, dct, dat, sl⟩ := o
 simp only at hc hdat hd
 subst hc hdat hd
 obtain ⟨hp, g, d, tk, os⟩ := s
 have hT : ∀ tk', (⟨hp, g, d, tk', os⟩ : Shared).TypeIs (.ref a) "dict" := fun _ => ⟨_, hx, rfl⟩
 have f1 := sub_AttributeError
 have f3 := F.slot_dict_getattribute.lookup
 have f4 := F.slot_dict_getattribute.bind (.ref a)
 have f5 := am_dict_getattr_none
 unfold getAttr getAttrBy
 repeat (any_goals (first | assumption | exact hT _ | ((with_reducible show wpAny _ _ (call (Value.builtin "dict.__getattribute__") _ _) _ _ _); refine call_meets F.slot_dict_getattribute (hT _) am_entry_dict_getattribute (F.args_dict_getattribute_2 _ _) (meets_getattribute_miss_dict a es k sl (oS "replace") _ (by rw [typeLookup_type, builtinLookup_eq_fast]; kernel_rfl) (by decide +kernel) (by size_fits)) ⟨hx, hA, fun h' tk' e hx' => ?_⟩) | wp_step))
 (refine x21 hx'.there ?_; intro t' u' he)
 show wpAny _ _ (getattributeRaised _ _ _ _ _ _ _) _ _ _
 unfold getattributeRaised
 repeat (any_goals (first | assumption | wp_step))
 exact h _ _ _ hx'
end
end
section
structure ThrG (T : String) (s : Shared) (ev : Value) (s' : Shared) : Prop where
 ex : ∃ e o vs, ev = .ref e /\ s.heap.get? e = none /\ s'.heap.get? e = some o /\ o.cls = .type T /\ o.data = .fields vs /\ vs[1]? = some .none /\ vs[2]? = some .none
 keep : Keeps s.heap s'.heap
 tok : s.toks <= s'.toks
 gens : GUp s'.gens s.gens
 os : s'.os = s.os
theorem Thrown.g {T : String} {s s' : Shared} {ev : Value} (h : Thrown T s ev s') : ThrG T s ev s' := by
 obtain ⟨⟨e, t, rfl, h1, h2⟩, k, a, b, d⟩ := h
 exact ⟨⟨e, _, _, rfl, h1, h2, rfl, rfl, by simp, by simp⟩, k, a, b, d⟩
theorem ThrG.gr {T : String} {s s₁ s' : Shared} {ev : Value} (h : ThrG T s₁ ev s') (g : Gr s s₁) : ThrG T s ev s' := by
 obtain ⟨⟨e, o, vs, rfl, h1, h2⟩, k, a, b, d⟩ := h
 refine ⟨⟨e, o, vs, rfl, ?_, h2⟩, g.keep.trans k, Nat.le_trans g.tok a, b.trans g.gens, d.trans g.os⟩
 cases q : s.heap.get? e with
 | none => rfl
 | some o => have := g.keep _ _ q; rw [h1] at this; cases this
section
variable {prog : Program} {w : World} {A : Around} {E : Value -> Shared -> Prop} {s : Shared}
theorem method_miss {T : String} {name : Str} {v : Value} {pl : Sem Bool} {Q : Value × List Value -> Shared -> Prop} (hT : s.TypeIs v T) (pa : PlainAttrs T) (hm : typeLookup (.type T) name = pure none)
 (h : wpAny (model prog w) A (getAttr v name) (fun r s' => Q (r, []) s') E s) : wpAny (model prog w) A (getMethod v name pl) Q E s := by
 (refine x12 pa.ga ?_; intro g hg hcan)
 unfold getMethod
 refine wB (wpAny_specialOf hT hg ?_)
 show wpAny _ A (if (Manifest.canonical g != "object.__getattribute__") = true then _ else _) Q E s
 erw [hcan, if_neg Bool.false_ne_true]
 refine wB (wpAny_specialOf hT pa.noGetattr ?_)
 refine wB (wpAny_specialOf hT hm ?_)
 exact wB (wM h (fun r s' q => wP q) fun _ _ q => q)
end
section
variable {c : Cx}
structure NoRep (c : Cx) (d : D) : Prop where
 run : ∀ A V s v pl, A.handled = none -> Rep c V s d v -> wpAny c.M A (getMethod v (oS "replace") pl) (fun _ _ => False) (ThrG "AttributeError" s) s
theorem attrErr_thr {s : Shared} {h' : Heap} {tk : Nat} {e : Addr} {a : Value} (x : Heap.NewAttrErr s.heap h' e a (oS "replace")) (ht : s.toks <= tk) : ThrG "AttributeError" s (.ref e) { s with heap := h', toks := tk } := by
 obtain ⟨k, hn, t, u, he⟩ := x
 exact ⟨⟨e, _, _, rfl, hn, he, rfl, rfl, by simp, by simp⟩, k, ht, .rfl, rfl⟩
theorem NoRep.list {ds : List D} : NoRep c (.list ds) := .mk fun A V s v pl hh r => by
 replace r := r.inv
 obtain ⟨_, _, _, _, rfl, na, ho, hc, hd, hdt, r⟩ := r
 refine method_miss (T := "list") ⟨_, ho, hc⟩ PySem.F.plainAttrs_list (by rw [typeLookup_type, builtinLookup_eq_fast]; kernel_rfl) ?_
 exact wT (Nat.le_refl _) (replace_miss_list ho hc hdt hd.1 hh fun h' tk e x ht => attrErr_thr x ht)
theorem NoRep.tuple {ds : List D} : NoRep c (.tuple ds) := .mk fun A V s v pl hh r => by
 replace r := r.inv
 obtain ⟨_, _, _, _, rfl, na, ho, hc, hd, hdt, r⟩ := r
 refine method_miss (T := "tuple") ⟨_, ho, hc⟩ PySem.F.plainAttrs_tuple (by rw [typeLookup_type, builtinLookup_eq_fast]; kernel_rfl) ?_
 exact wT (Nat.le_refl _) (replace_miss_tuple ho hc hdt hd.1 hh fun h' tk e x ht => attrErr_thr x ht)
theorem NoRep.dict {kvs : List (List Nat × D)} : NoRep c (.dict kvs) := .mk fun A V s v pl hh r => by
 replace r := r.inv
 obtain ⟨_, _, _, _, rfl, na, hs, ho, hx, hdt, r⟩ := r
 refine method_miss (T := "dict") ⟨_, ho, hx.1⟩ PySem.F.plainAttrs_dict (by rw [typeLookup_type, builtinLookup_eq_fast]; kernel_rfl) ?_
 exact wT (Nat.le_refl _) (replace_miss_dict ho hx.1 hdt hx.2.1 hh fun h' tk e x ht => attrErr_thr x ht)
structure TrX (c : Cx) (n : Nat) (sc : Scope) (ρ : Sto) (ss : List Stmt) : Prop where
 run : ∀ A env V0 h0 Cs X s, Room c n A -> A.handled = none -> Fm c sc env V0 h0 Cs X ρ s -> wpAny c.M A (execs ss env) (fun _ _ => False) (fun ev s' => ∃ T, (T = "TypeError" \/ T = "AttributeError") /\ ThrG T s ev s') s
section
variable {n : Nat} {sc : Scope} {ρ : Sto} {x z : String} {p p2 p3 p4 p5 p6 p7 p8 pos ap : Pos} {kk k1 k2 : Nat} {d : D} {body orelse rest : List Stmt}
theorem TrX.inX (h : InX c d) (hx : ρ.lookup x = some (.val d)) (hxd : x ≠ "__debug__" := by decide) :
 TrX c n sc ρ (.If (.Compare (.Constant (.str (oS z)) kk p) [.In] [.Name (oS x) p2] p3) body orelse p4 :: rest) := .mk fun A env V0 h0 Cs X s hA hh F => by
 refine wE (wpAny_If (wpAny_isTrue_Compare1 ?_ (by with_unfolding_all rfl)))
 refine wM ((Ev.lit (n := n) (k := false) (sc := sc) (ρ := ρ)).run A env V0 h0 Cs X s hA F) (fun u s2 q₂ => ?_) fun _ _ q => q.elim
 refine wM ((Ev.name (n := n) (k := false) (sc := sc) hx hxd).run A env V0 h0 Cs X s2 hA (F.gr q₂.1)) (fun v s₃ q₃ => ?_) fun _ _ q => q.elim
 have g₃ := q₂.1.trans q₃.1
 obtain ⟨_, ru⟩ := q₂
 obtain ⟨tk, rfl⟩ := ru.inv
 exact wM (h A _ s₃ v _ tk hh q₃.2) (fun _ _ q => q.elim) fun ev s4 th => ⟨_, .inl rfl, th.g.gr g₃⟩
theorem TrX.noRep (h : InH c d (cs z)) (hx : ρ.lookup "text" = some (.val d)) (hn : NoRep c d) {a1 a2 : Expr}
 (hfew : ∀ env : Env, methodCallForm 2 (backTo p7 (starEach [a1, a2] env)) (backToKw p7 (keywordEach [] env)) = true := by intro _; rfl)
 (hs : ∀ env : Env, env.scope = sc -> swapsWith (.Call (.Attribute (.Name (oS "text") p5) (oS "replace") ap) [a1, a2] [] p7) (some (.Name (oS "text") p6)) p8.line env = pure false := by intro _ _; rfl) :
 TrX c (n + 1) sc ρ (.If (.Compare (.Constant (.str (oS z)) kk p) [.In] [.Name (oS "text") p2] p3)
  [.Assign [.Name (oS "text") p6] (.Call (.Attribute (.Name (oS "text") p5) (oS "replace") ap) [a1, a2] [] p7) p8] [] p4 :: rest) := .mk fun A env V0 h0 Cs X s hA hh F => by
 refine wE (wpAny_If (wM ((Tst.inH (sc := sc) h hx).run A env V0 h0 Cs X s hA F) (fun r s' q => ?_) fun _ _ q => q.elim))
 obtain ⟨g, rfl⟩ := q
 refine wE (wpAny_Assign_Name ?_ (hs env F.scope))
 rw [arm_eval_Call]
 erw [show attributeBase (.Name (oS "text") p5) (oS "replace") env (eval (.Name (oS "text") p5) env) = eval (.Name (oS "text") p5) env from rfl]
 refine wB (wM ((Ev.name (n := n + 1) (k := false) (sc := sc) hx).run A env V0 h0 Cs X s' hA (F.gr g)) (fun v s₃ q₃ => ?_) fun _ _ q => q.elim)
 refine wB (wZ ?_)
 unfold methodCall calleeOf
 erw [show methodCallForm ([a1, a2].length + ([] : List Keyword).length) (backTo p7 (starEach [a1, a2] env)) (backToKw p7 (keywordEach [] env)) = true from hfew env]
 refine wB (wH (wM (hn.run A _ s₃ v _ hh q₃.2) (fun _ _ q => q.elim) fun ev s4 th => ?_))
 exact ⟨_, .inr rfl, th.gr (g.trans q₃.1)⟩
end
end
end
section
section
variable {M : Model} {A : Around} {E : Value -> Shared -> Prop} {s : Shared}
theorem note_madeG {B : Heap} {env : Env} {l : List Env} {L e : Addr} {oe : Obj} {vs : Array Value} {Q : Unit -> Shared -> Prop} (hfr : A.frames = some (env :: l)) (hl : s.heap.FunFrames B (env :: l)) (hf : env.frame = some L)
 (he : s.heap.get? e = some oe) (hdt : oe.data = .fields vs) (hv1 : vs[1]? = some .none) (hkb : B.StaysIn s.heap) (hen : B.get? e = none)
 (h : ∀ h' tb oT ts, B.StaysIn h' -> h'.FunFrames B (env :: l) -> h'.get? e = some (Obj.mapFields (·.setIfInBounds 1 (Value.ref tb)) oe) -> B.get? tb = none -> tb ≠ e -> h'.get? tb = some oT -> oT.data = .fields ts -> 3 < ts.size -> s.heap.UpToSlots h' -> Q () { s with heap := h' }) :
 wpAny M A (noteFrame (.ref e) env) (fun _ s2 => wpAny M A (setFlight (.ref e) none) Q E s2) E s := by
 unfold noteFrame
 simp only [hf]
 refine wB (wpAny_field he hdt hv1 ?_)
 rw [if_neg (by decide)]
 have hene : e ∉ (env :: l).filterMap (·.frame) := fun hm => by
  obtain ⟨_, o, ho, hnf⟩ := hl.mem hm
  rw [he] at ho; injection ho with ho; subst ho; exact hnf _ hdt
 refine wB (wpAny_frameOf_fun hfr hl hf fun h₁ hs₁ => ?_)
 refine wB (wpAny_entryPlaceOf fun pl hpl => ?_)
 unfold EntryCells.newEntry newFields
 refine wB (wpAny_newObj_type ?_ (hpl.sizeOk5 _ _ _ _ _))
 have he1 : h₁.get? e = some oe := (hs₁.2.1 e hene).trans he
 have kb1 : B.StaysIn h₁ := fun b o hbo => (hs₁.2.1 b fun hm => by rw [(hl.mem hm).1] at hbo; cases hbo).trans (hkb b o hbo)
 generalize hoT : ({ cls := .type "traceback", dict := none, data := .fields ([Value.none, .ref L, .none, rawInt L, .none] ++ (if pl.isEmpty then List.replicate 6 Value.none else pl)).toArray } : Obj) = oT
 obtain ⟨ts, hts, hsz3⟩ : ∃ ts, oT.data = .fields ts /\ 3 < ts.size := ⟨_, by rw [<- hoT], by simp only [List.size_toArray, List.length_append, List.length_cons, List.length_nil]; omega⟩
 have hfT : oT.isFreed = false := by rw [<- hoT]; rfl
 have he2 : (h₁.push oT).get? e = some oe := Heap.get?_push_of_some _ he1
 have hTe : h₁.objs.size ≠ e := Nat.ne_of_gt (Heap.lt_size he1)
 refine wpAny_setField (i := 1) he2 hdt (Array.getElem?_eq_some_iff.mp hv1).1 ?_
 have he3 := Heap.get?_update_self (Obj.mapFields (·.setIfInBounds 1 (Value.ref h₁.objs.size))) he2 (Obj.isFreed_of_fields (Obj.data_mapFields hdt _))
 have hT3 := (Heap.get?_update_other (h₁.push oT) (Obj.mapFields (·.setIfInBounds 1 (Value.ref h₁.objs.size))) (Ne.symm hTe)).trans (Heap.get?_push_size h₁ hfT)
 unfold setFlight
 refine wB (wpAny_field he3 (Obj.data_mapFields hdt _) (x := .ref h₁.objs.size) (by simp [(Array.getElem?_eq_some_iff.mp hv1).1]) ?_)
 erw [if_pos (show (Value.ref h₁.objs.size != Value.none) = true from by simp)]
 refine wpAny_setField hT3 hts hsz3 (h _ h₁.objs.size _ _ ?_ ?_ ?_ kb1.fresh hTe (Heap.get?_update_self _ hT3 (Obj.isFreed_of_fields (Obj.data_mapFields hts _))) (Obj.data_mapFields hts _) (by simpa using hsz3) ?_)
 all_goals
  have keep : ∀ b o, b ≠ e -> h₁.get? b = some o ->
   (((h₁.push oT).update e (Obj.mapFields (·.setIfInBounds 1 (Value.ref h₁.objs.size)))).update h₁.objs.size (Obj.mapFields (·.setIfInBounds 3 ((none : Option Addr).elim Value.none fun f => rawInt f)))).get? b = some o := fun b o hbe hb => by
   have hbT : h₁.objs.size ≠ b := Nat.ne_of_gt (Heap.lt_size hb)
   erw [Heap.get?_update_other _ _ hbT, Heap.get?_update_other _ _ (Ne.symm hbe)]
   exact Heap.get?_push_of_some _ hb
  have noRecord : ∀ b o, s.heap.get? b = some o -> (∀ vs, o.data ≠ .fields vs) -> b ≠ e := fun b o hb hnf q => by
   rw [q, he] at hb; injection hb with hb; subst hb; exact hnf _ hdt
 · exact fun b o hbo => keep b o (fun q => by rw [q, hen] at hbo; cases hbo) (kb1 b o hbo)
 · exact hl.of_keeps fun b o hb hnf => let ⟨sl, hs⟩ := hs₁.2.2 b o hb; ⟨_, keep b _ (noRecord b o hb hnf) hs, rfl⟩
 · erw [Heap.get?_update_other _ _ hTe]; exact he3
 · exact fun b o hb hnf => let ⟨sl, hs⟩ := hs₁.2.2 b o hb; ⟨sl, keep b _ (noRecord b o hb hnf) hs⟩
end
section
variable {c : Cx} {n : Nat} {sc : Scope} {ρ : Sto}
theorem esc_raisesG {a ra : Addr} {p4 p5 p6 p7 p8 p9 p10 p11 p12 : Pos} {kt : Nat} {ss : List Stmt} {d : D} {m : List Nat} (hn : c.hn)
 (hd : IsDefL c a sc ["text"] [.Try ss
  [.ExceptHandler (some (.Tuple [.Name (oS "TypeError") p4, .Name (oS "AttributeError") p5] kt p6)) none [.Expr (.Call (.Name (oS "_raise_serialization_error") p7) [.Name (oS "text") p8] [] p9) p10] p11] [] [] p12])
 (hin : TrX c n sc [("text", .val d)] ss) (hra : c.mg (oS "_raise_serialization_error") = some (.ref ra)) (hcal : Callee c (.ref ra))
 (hT : c.mg (oS "TypeError") = Option.none /\ c.mb (oS "TypeError") = some (.type "TypeError")) (hAt : c.mg (oS "AttributeError") = Option.none /\ c.mb (oS "AttributeError") = some (.type "AttributeError"))
 (hG : sc.names.lookup (oS "TypeError") = some .globalImplicit) (hG2 : sc.names.lookup (oS "AttributeError") = some .globalImplicit) (hG3 : sc.names.lookup (oS "_raise_serialization_error") = some .globalImplicit)
 (h : FnX c.h n (.ref ra) [d] "TypeError" m) : FnX c (n + 1) (.ref a) [d] "TypeError" m := .mk fun A V s vs B l hA hH K hV hS rv => by
 refine fn_enter hd rfl hA hS rv fun env X s₁ hf hnl g F hO hX => ?_
 refine hideE fun E' hE => ?_
 have K₁ := F.stk hf hnl K g
 have hA1 := hA.deeper env
 refine wE (wpAny_Try_except ?_)
 have g₃ : Gr s₁ s₁ := .refl s₁
 have F₃ := F
 have K3 := K₁
 refine wM (hin.run (A.deeper env) env V s.heap _ X s₁ hA1 (hA1.handled hn) F) (fun _ _ q => q.elim) fun ev s4 th => ?_
 refine hideG fun G KG => ?_
 (refine x12 th ?_; clear th; rintro T hTT ⟨⟨e, oe, vse, rfl, hen, heo, hecl, hedt, hv1, hv2⟩, hk, ht4, hg4, ho4⟩)
 have hsz1 : 1 < vse.size := (Array.getElem?_eq_some_iff.mp hv1).1
 obtain ⟨b1, b2, hs1, hs2, hbb⟩ : ∃ b1 b2, isSubtype (.type T) (.type "TypeError") = pure b1 /\ isSubtype (.type T) (.type "AttributeError") = pure b2 /\ (b1 || b2) = true := by
  rcases hTT with rfl | rfl
  · exact ⟨true, false, by rw [isSubtype_type]; kernel_rfl, by rw [isSubtype_type]; kernel_rfl, rfl⟩
  · exact ⟨false, true, by rw [isSubtype_type]; kernel_rfl, by rw [isSubtype_type]; kernel_rfl, rfl⟩
 have K4 : Stk c (A.deeper env) B (env :: l) s4.heap := K3.gr ⟨hk, ht4, hg4, ho4⟩
 have hfl3 := frames_hidden K3.frames
 have hfl4 : s4.heap.FunFrames (hideAll s₁.heap ((env :: l).filterMap (·.frame))) (env :: l) := hfl3.of_keeps fun b o e _ => ⟨o, hk b o e, rfl⟩
 have hst4 : (hideAll s₁.heap ((env :: l).filterMap (·.frame))).StaysIn s4.heap := fun b o e => hk b o (of_hideAll _ e)
 refine KG ?_
 refine note_madeG (B := hideAll s₁.heap ((env :: l).filterMap (·.frame))) K₁.stack hfl4 hf heo hedt hv1 hst4 (by
  cases q : (hideAll s₁.heap ((env :: l).filterMap (·.frame))).get? e with
  | none => rfl
  | some o => have := of_hideAll _ q; rw [hen] at this; cases this) fun h₅ tb oT ts k1 k2 k3 k4 k5 k6 k7 k8 k9 => ?_
 -- the frame behind the raise
 have hfrV : ∀ b ∈ (env :: l).filterMap (·.frame), V b \/ b = env.locals := fun b hb => by
  rw [List.filterMap_cons, hf] at hb
  rcases mC.mp hb with q | q
  · exact .inr q
  · exact .inl (hV b q)
 have hdf : ∀ b o, b ∈ (env :: l).filterMap (·.frame) -> s₁.heap.get? b = some o -> ∀ vs, o.data ≠ .fields vs := fun b o hb e => by
  obtain ⟨_, o', ho', hd'⟩ := K3.frames.mem hb
  rw [e] at ho'; cases ho'; exact hd'
 have htb3 : s₁.heap.get? tb = Option.none := by
  cases q : s₁.heap.get? tb with
  | none => rfl
  | some o =>
   by_cases hb : tb ∈ (env :: l).filterMap (·.frame)
   · obtain ⟨_, o', ho', hd'⟩ := k2.mem hb
     rw [k6] at ho'; cases ho'; exact absurd k7 (hd' ts)
   · rw [hideAll_get _ q hb] at k4; cases k4
 have hBX : ∀ b ∈ X, B.get? b = Option.none := fun b hb => by
  cases q : B.get? b with
  | none => rfl
  | some o => have := K.stays _ _ q; rw [hX b hb] at this; cases this
 have hBH := hidden_stays K3.stays K3.frames
 have sl5 : Slt ((env :: l).filterMap (·.frame)) s₁ { s4 with heap := h₅ } := Slt.of_hide k1 ((Heap.UpToSlots.of_keeps hk).trans k9) hdf ht4 hg4 ho4
 have F5 := F₃.noted sl5 hfrV K.base (fun b o e => k1 b o (hBH b o e)) hBX rfl
 refine wpAny_handleBy_tup2 (T1 := "TypeError") (T2 := "AttributeError") (X := T) (b1 := b1) (b2 := b2) PySem.F.isExc_TypeError PySem.F.notTuple_TypeError isExc_AttributeError notTuple_AttributeError hs1 hs2 ?_
 have hA5 : Room c.h n ((A.deeper env).mark (some (.ref e))) := hA1.h _
 have htup : Ev c.h n sc true [("text", .val d)] (.Tuple [.Name (oS "TypeError") p4, .Name (oS "AttributeError") p5] kt p6) (.tuple [.val (.type "TypeError"), .val (.type "AttributeError")]) :=
  .tuple (.cons (.blt hT.1 hT.2 hG) (.cons (.blt hAt.1 hAt.2 hG2) .nil)) (by rw [sizeLine_eq]; show 2 <= _; decide)
 refine wM (htup.run _ env V B _ X _ hA5 F5.h) (fun cv s6 q₆ => ?_) fun _ _ q => q.elim
 refine hideG fun G KG => ?_
 obtain ⟨g6, r6⟩ := q₆
 replace r6 := r6.inv
 obtain ⟨tup, o, tvs, nn, rfl, na, ho, hcl, hdd, hdt, rr⟩ := r6
 obtain ⟨tvs⟩ := tvs
 replace rr := rr.o2
 (refine x23 rr ?_; clear rr; rintro _ _ rfl ra1 ra2)
 cases ra1.inv; cases ra2.inv
 have he6 := g6.keep _ _ k3
 have htb6 := g6.keep _ _ k6
 refine KG ?_
 refine ⟨tup, rfl, ⟨o, ho, hcl, nn, hdt⟩, ⟨_, he6, by rw [show (Obj.mapFields (fun x => x.setIfInBounds 1 (Value.ref tb)) oe).cls = oe.cls by unfold Obj.mapFields; split <;> rfl]; exact hecl⟩, ?_⟩
 erw [if_pos hbb]
 refine wpAny_setFlight_none he6 (Obj.data_mapFields hedt _) (by simp [hsz1]) htb6 k7 k8 ?_
 have sl7 : Slt ((env :: l).filterMap (·.frame)) s₁ { s6 with heap := s6.heap.update tb (Obj.mapFields (·.setIfInBounds 3 .none)) } := by
  have s56 := sl5.trans (Slt.of_gr (s' := s6) g6)
  have off : ∀ b o, s₁.heap.get? b = some o -> ∀ o', s6.heap.get? b = some o' -> (s6.heap.update tb (Obj.mapFields (·.setIfInBounds 3 .none))).get? b = some o' := fun b o e o' e' =>
   (Heap.get?_update_other _ _ (fun q => by rw [<- q, htb3] at e; cases e)).trans e'
  exact ⟨fun b o hb e => off b o e o (s56.keep b o hb e), fun b o hb e => let ⟨sl, e'⟩ := s56.up b o hb e; ⟨sl, off b o e _ e'⟩, s56.tok, s56.gens, s56.os⟩
 have hfrB : ∀ b ∈ (env :: l).filterMap (·.frame), B.get? b = Option.none := fun b hb => (K3.frames.mem hb).1
 have K7 : Stk c.h ((A.deeper env).mark (some (.ref e))) B (env :: l) _ := (Stk.slt (c := c.h) ⟨K3.stack, K3.base, K3.stays, K3.frames⟩ sl7 hfrB).mark _
 have F7 := (F₃.noted sl7 hfrV K.base K7.stays hBX rfl).h
 have hH7 : Hnd ((A.deeper env).mark (some (.ref e))) (s6.heap.update tb (Obj.mapFields (·.setIfInBounds 3 .none))) :=
  .inr ⟨e, _, _, rfl, (Heap.get?_update_other _ _ k5).trans he6, Obj.data_mapFields hedt _, by simp [hv2]⟩
 have hint : interactive env = false := by
  unfold interactive
  erw [F.scope, F.kind]; rfl
 have hVX : ∀ b ∈ (env :: l).filterMap (·.frame), Vol V X b := fun b hb => (hfrV b hb).imp id fun q => by
  obtain ⟨_, _, _, h2, _⟩ := F.sto
  rw [h2, q]; exact .head _
 refine wE (wpAny_Expr_any (wM (call_raises (c := c.h) (n := n) (ρ := [("text", .val d)]) hA5 hH7 F7 K7 hVX (.glob hra hG3) hcal.h (.cons (.name rfl) .nil) h) (fun _ _ q => q.elim) fun ev s8 fly => ?_) hint rfl)
 refine hideG fun G KG => ?_
 obtain ⟨⟨e2, t2, tk2, rfl, hfl, htup2, ht2⟩, hu8, htk8, hg8, ho8⟩ := fly
 refine KG ?_
 refine wpAny_looks_onW K7.stack hf hfl fun h₉ hh9 hu9 => held_back hf hh9 fun h₁₀ hh10 hu10 => hE _ _ (leave_held hf hh10 fun h11 hfl11 hu11 htk => ?_)
 refine ⟨⟨e2, t2, tk2, rfl, hfl11, ((htup2.of_slots hu9).of_slots hu10).of_slots hu11, ht2⟩, ?_, htk, (hg8.trans sl7.gens).trans (g.trans g₃).gens, (ho8.trans sl7.os).trans (g.trans g₃).os⟩
 exact (((((Heap.UpToSlots.of_keeps (g.trans g₃).keep).trans sl7.upto).trans hu8).trans hu9).trans hu10).trans hu11
end
end
section
structure ReprN (c : Cx) (n : Nat) (d : D) (r : List Nat) : Prop where
 len : r.length <= 1000000
 run : ∀ A V s v, Room c n A -> St c V s -> Rep c V s d v -> wpAny c.M A (pyReprObj v) (fun o s' => (∃ t', o = .str (S r) t') /\ Gr s s') (fun _ _ => False) s
section
variable {c : Cx} {n : Nat} {sc : Scope} {k : Bool} {ρ : Sto}
theorem Ev.fmtRN {e : Expr} {pos : Pos} {d : D} {r : List Nat} (he : Ev c n sc k ρ e d) (h : ReprN c n d r) : Ev c n sc k ρ (.FormattedValue e 114 Option.none pos) (sd r) := .mk fun A env V0 h0 Cs X s hA F => by
 refine wpAny_FormattedValue_repr (wM (he.run A env V0 h0 Cs X s hA F) (fun v s₁ q => ?_) fun _ _ q => q)
 obtain ⟨g, rv⟩ := q
 refine wM (h.run A _ s₁ v hA ((F.st k).gr g) rv) (fun o s2 q => ?_) fun _ _ q => q
 obtain ⟨⟨t', rfl⟩, g₂⟩ := q
 exact wp_gr (g.trans g₂) (wp_end (formatField_str (fun t' tk => ⟨fun _ _ e => e, rfl, rfl, fun _ => .str _ _⟩) (by rw [S_length, sizeLine_eq]; exact Nat.le_trans h.len (by decide))))
theorem raise_fnG {a : Addr} {p1 p2 p3 p4 p5 p6 p7 p8 p9 p10 p11 p12 p13 p14 : Pos} {k1 k2 k3 : Nat} {d : D} {r tn : List Nat}
 (hd : IsDefL c a sc ["text"] [.Raise (some (.Call (.Name (oS "TypeError") p1) [.JoinedStr [.Constant (.str (oS "cannot serialize ")) k1 p2, .FormattedValue (.Name (oS "text") p3) 114 none p12, .Constant (.str (oS " (type ")) k2 p13, .FormattedValue (.Attribute (.Call (.Name (oS "type") p4) [.Name (oS "text") p5] [] p6) (oS "__name__") p7) 115 none p8, .Constant (.str (oS ")")) k3 p14] p9] [] p10)) none p11])
 (hT : c.mg (oS "TypeError") = Option.none /\ c.mb (oS "TypeError") = some (.type "TypeError"))
 (hG : sc.names.lookup (oS "TypeError") = some .globalImplicit)
 (h : ReprN c n d r) (hty : Ev c n sc true [("text", .val d)] (.Attribute (.Call (.Name (oS "type") p4) [.Name (oS "text") p5] [] p6) (oS "__name__") p7) (sd tn)) (h2 : tn.length <= 1000) : FnX c (n + 1) (.ref a) [d] "TypeError" (wordsOf r tn) := .mk fun A V s vs B l hA hH K hV hS rv => by
 refine fn_enter hd rfl hA hS rv fun env X s₁ hf hn g F hO hX => ?_
 refine hideE fun E' hE => ?_
 have K₁ := F.stk hf hn K g
 have hH1 : Hnd (A.deeper env) s₁.heap := hH.keeps g.keep
 refine wE ?_
 have hw : Ev c n sc true [("text", .val d)] (.JoinedStr [.Constant (.str (oS "cannot serialize ")) k1 p2, .FormattedValue (.Name (oS "text") p3) 114 none p12, .Constant (.str (oS " (type ")) k2 p13, .FormattedValue (.Attribute (.Call (.Name (oS "type") p4) [.Name (oS "text") p5] [] p6) (oS "__name__") p7) 115 none p8, .Constant (.str (oS ")")) k3 p14] p9) (sd (wordsOf r tn)) := by
  have e1 : (cs "cannot serialize ").length = 17 := by decide
  have e2 : (cs " (type ").length = 7 := by decide
  have e3 : (cs ")").length = 1 := by decide
  have h1 := h.len
  refine .to (.joined (.cons .lit (.cons (.fmtRN (.name rfl) h) (.cons .lit (.cons (.fmtS hty (by exact lt4 (by assumption) rfl)) (.cons .lit .nil))))) ?_) ?_
  · simp only [List.length_append, e1, e2, e3, List.length_nil]; omega
  · unfold wordsOf; simp only [aA, List.append_nil]
 refine Raise_callH PySem.F.excCall_TypeError PySem.F.excRaise_TypeError (noStar_all rfl) (wM ((Ev.blt (n := n) (ρ := [("text", .val d)]) (k := true) hT.1 hT.2 hG).run (A.deeper env) env V s.heap _ X s₁ (hA.deeper env) F) (fun f s2 q => ?_) fun _ _ q => q.elim)
 refine hideG fun G KG => ?_
 obtain ⟨g₂, r₂⟩ := q
 cases r₂.inv
 refine KG ?_
 refine ⟨rfl, evalArgs_of rfl (wM ((EvL.cons hw .nil).run (A.deeper env) env V s.heap _ X s2 p10 (hA.deeper env) (F.gr g₂)) (fun vs' s₃ q => ?_) fun _ _ q => q.elim)⟩
 refine hideG fun G KG => ?_
 obtain ⟨g₃, r₃⟩ := q
 replace r₃ := r₃.o1
 (refine x12 r₃ ?_; clear r₃; rintro _ rfl rs)
 obtain ⟨tk, rfl⟩ := rs.inv
 have g' := g₂.trans g₃
 have K3 := K₁.gr g'
 refine KG ?_
 refine ⟨rfl, by rw [sizeLine_eq]; show 1 <= _; decide, hH1.keeps g'.keep, fun e0 q => ?_, fun h' e t cx hk he ht' heo hto => ?_⟩
 · rcases hH1.keeps g'.keep with q' | ⟨e1, o, _, q', ho, _⟩
   · rw [q'] at q; cases q
   · rw [q'] at q; cases q; exact ⟨o, ho⟩
 · have fresh : ∀ b, s₃.heap.get? b = Option.none -> B.get? b = Option.none := fun b hb => by
    cases q : B.get? b with
    | none => rfl
    | some o' => have := K3.stays _ _ q; rw [hb] at this; cases this
   refine hE _ _ (wpAny_leaving_firstW (a0 := .ref t) K₁.stack (K3.frames.of_keeps fun b o e _ => ⟨o, hk b o e, rfl⟩) hf heo (fun b o e => hk b o (K3.stays b o e)) (fresh e he) rfl rfl rfl fun h'' hL htk => ?_)
   refine hideG fun G KG => ?_
   (refine x04 hL ?_; clear hL; rintro k1 ⟨_, _, k2⟩ k3 k4)
   refine KG ?_
   refine ⟨⟨e, t, tk, rfl, ⟨k1, fresh e he, k2, k3⟩, Heap.TupAt.of_slots ⟨_, _, hto, rfl, rfl⟩ k4, fresh t ht'⟩, ?_, htk, (g.trans g').gens, (g.trans g').os⟩
   exact ((Heap.UpToSlots.of_keeps (g.trans g').keep).trans (Heap.UpToSlots.of_keeps hk)).trans k4
noncomputable def TyN (c : Cx) (n : Nat) (d : D) (t : List Nat) : Prop := ∀ {e : Expr} {p1 p2 p3 : Pos} {sc : Scope} {ρ : Sto} (he : Ev c n sc true ρ e d)
 (hg : sc.names.lookup (oS "type") = some .globalImplicit) (hp : plainE e = true)
 (hc : ∀ env : Env, PySem.eval (.Call (.Name (oS "type") p1) [e] [] p2) env = (do callWith p2 (<- PySem.eval (.Name (oS "type") p1) env) [] (backTo p2 (starEach [e] env)) (backToKw p2 (keywordEach [] env))))
 (ha : ∀ env : Env, PySem.eval (.Attribute (.Call (.Name (oS "type") p1) [e] [] p2) (oS "__name__") p3) env = (do
  let o <- PySem.eval (.Call (.Name (oS "type") p1) [e] [] p2) env
  standAt p3.atName
  let r <- holding [o] (getAttr o (oS "__name__") true)
  letTemporaryGo (.Call (.Name (oS "type") p1) [e] [] p2) o r
  pure r)), Ev c n sc true ρ (.Attribute (.Call (.Name (oS "type") p1) [e] [] p2) (oS "__name__") p3) (sd t)
structure TypeOk (c : Cx) (d : D) (T : String) : Prop where
 ty : ∀ V s v, Rep c V s d v -> s.TypeIs v T
 nm : NameOk T
theorem TyN.blt {d : D} {T : String} (hb : c.mg (oS "type") = Option.none /\ c.mb (oS "type") = some (.type "type")) (h : TypeOk c d T) : TyN c n d (cs T) := by
 intro e p1 p2 p3 sc ρ he hg hp hc ha
 constructor
 intro A env V0 h0 Cs X s hA F
 have hf : FnR c n (.type "type") [d] (.val (.type T)) := .mk fun A V s vs hA hS rs => by
  replace rs := rs.o1
  (refine x12 rs ?_; clear rs; rintro _ rfl r)
  exact call_type_of (h.ty _ _ _ r) h.nm.nb ⟨.refl s, .val _⟩
 have hcall := Ev.call (k := true) (Ev.blt (k := true) hb.1 hb.2 hg) (.type "type") (.cons he .nil hp) hf (by simp [hp]) hc
 refine Attribute_any_ (wM (hcall.run A env V0 h0 Cs X s hA F) (fun tv s₁ q => ?_) fun _ _ q => q) (ha env)
 obtain ⟨g, r⟩ := q
 cases r.inv
 refine wp_gr g (wp_end (tyname_wp h.nm.km h.nm.st h.nm.fc h.nm.q ?_ fun tk u => ⟨fun _ _ e => e, rfl, rfl, fun _ => ?_⟩))
 · rw [ofString_S, S_length, sizeLine_eq]; exact Nat.le_trans h.nm.z (by decide)
 · rw [ofString_S]; exact .str _ _
end
end
section
theorem IsDefL.h {c : Cx} {a : Addr} {sc : Scope} {ps : List String} {body : List Stmt} (hd : IsDefL c a sc ps body) : IsDefL c.h a sc ps body := ⟨hd.toDefOk, hd.ex.to rfl⟩
structure BX (c : Cx) : Prop where
 ty : c.mg (oS "TypeError") = none /\ c.mb (oS "TypeError") = some (.type "TypeError")
 at' : c.mg (oS "AttributeError") = none /\ c.mb (oS "AttributeError") = some (.type "AttributeError")
 type : c.mg (oS "type") = none /\ c.mb (oS "type") = some (.type "type")
 hra : IsDefL c 51 (sc09 5) ["text"] (bd09 5)
 cra : Callee c (.ref 51)
 gra : c.mg (oS "_raise_serialization_error") = some (.ref 51)
inductive Refuse (c : Cx) (d : D) : Prop where
 | noIn : InX c d -> Refuse c d
 | sign : NoRep c d -> InH c d (cs "&") -> Refuse c d
section
variable {c : Cx} {n : Nat} {sc : Scope} {d : D} {r tn : List Nat}
theorem words_fn (B : BX c) (h : ReprN c.h n d r) (ht : TyN c.h n d tn) (hl : tn.length <= 1000) : FnX c.h (n + 1) (.ref 51) [d] "TypeError" (wordsOf r tn) :=
 raise_fnG (c := c.h) (sc := sc09 5) B.hra.h B.ty rfl h (ht (.name rfl) rfl rfl (by intro _; rfl) (by intro _; rfl)) hl
theorem words_fn0 (B : BX c) (h : ReprN c n d r) (ht : TyN c n d tn) (hl : tn.length <= 1000) : FnX c (n + 1) (.ref 51) [d] "TypeError" (wordsOf r tn) :=
 raise_fnG (c := c) (sc := sc09 5) B.hra B.ty rfl h (ht (.name rfl) rfl rfl (by intro _; rfl) (by intro _; rfl)) hl
theorem cdata_X (hn : c.hn) (B : BX c) (hd : IsDefL c 58 (sc09 6) ["text"] (bd09 6)) (hre : Refuse c d) (h : ReprN c.h n d r) (ht : TyN c.h n d tn) (hl : tn.length <= 1000) : FnX c (n + 2) (.ref 58) [d] "TypeError" (wordsOf r tn) := by
 refine esc_raisesG hn hd ?_ B.gra B.cra B.ty B.at' rfl rfl rfl (words_fn B h ht hl)
 cases hre with
 | noIn hi => exact .inX hi rfl
 | sign hnr hin => exact .noRep hin rfl hnr
theorem attrib_X (hn : c.hn) (B : BX c) (hd : IsDefL c 65 (sc09 7) ["text"] (bd09 7)) (hre : Refuse c d) (h : ReprN c.h n d r) (ht : TyN c.h n d tn) (hl : tn.length <= 1000) : FnX c (n + 2) (.ref 65) [d] "TypeError" (wordsOf r tn) := by
 refine esc_raisesG hn hd ?_ B.gra B.cra B.ty B.at' rfl rfl rfl (words_fn B h ht hl)
 cases hre with
 | noIn hi => exact .inX hi rfl
 | sign hnr hin => exact .noRep hin rfl hnr
theorem html_X (hn : c.hn) (B : BX c) (hd : IsDefL c 72 (sc09 8) ["text"] (bd09 8)) (hre : Refuse c d) (h : ReprN c.h n d r) (ht : TyN c.h n d tn) (hl : tn.length <= 1000) : FnX c (n + 2) (.ref 72) [d] "TypeError" (wordsOf r tn) := by
 refine esc_raisesG hn hd ?_ B.gra B.cra B.ty B.at' rfl rfl rfl (words_fn B h ht hl)
 cases hre with
 | noIn hi => exact .inX hi rfl
 | sign hnr hin => exact .noRep hin rfl hnr
theorem cc_X (hn : c.hn) (B : BX c) (hd : IsDefL c 182 (sc09 11) ["text"] (bd09 11)) (hre : Refuse c d) (h : ReprN c.h n d r) (ht : TyN c.h n d tn) (hl : tn.length <= 1000) : FnX c (n + 2) (.ref 182) [d] "TypeError" (wordsOf r tn) := by
 refine esc_raisesG hn hd ?_ B.gra B.cra B.ty B.at' rfl rfl rfl (words_fn B h ht hl)
 cases hre with
 | noIn hi => exact .inX hi rfl
 | sign hnr hin => exact .noRep hin rfl hnr
theorem ac_X (hn : c.hn) (B : BX c) (hd : IsDefL c 189 (sc09 12) ["text"] (bd09 12)) (hre : Refuse c d) (h : ReprN c.h n d r) (ht : TyN c.h n d tn) (hl : tn.length <= 1000) : FnX c (n + 2) (.ref 189) [d] "TypeError" (wordsOf r tn) := by
 refine esc_raisesG hn hd ?_ B.gra B.cra B.ty B.at' rfl rfl rfl (words_fn B h ht hl)
 cases hre with
 | noIn hi => exact .inX hi rfl
 | sign hnr hin => exact .noRep hin rfl hnr
end
end
section
noncomputable def byText (b : List Nat) : Str := if b = [] then "b''" else if b = [48] then "b'0'" else "b'&'"
noncomputable def shF : Nat -> D -> Str
 | 0, _ => ""
 | _ + 1, .none => "None"
 | _ + 1, .bool b => if b then "True" else "False"
 | _ + 1, .int i => toString i
 | _ + 1, .str x => reprText x
 | _ + 1, .bytes b => byText b
 | k + 1, .list ds => listText (ds.map (shF k))
 | k + 1, .tuple ds => tupleText (ds.map (shF k))
 | k + 1, .dict kvs => dictText (kvs.map fun p => reprText (S p.1) ++ ": " ++ shF k p.2)
 | _ + 1, _ => ""
noncomputable def okF : Nat -> D -> Bool
 | 0, _ => false
 | _ + 1, .none => true
 | _ + 1, .bool _ => true
 | _ + 1, .int i => decide (i.natAbs <= 1000)
 | _ + 1, .str x => decide ((reprText x).length <= 100)
 | _ + 1, .bytes b => decide (b = [] \/ b = [48] \/ b = [38])
 | k + 1, .list ds => ds.all (okF k)
 | k + 1, .tuple ds => ds.all (okF k)
 | k + 1, .dict kvs => kvs.all fun p => decide ((reprText (S p.1)).length <= 100) && okF k p.2
 | _ + 1, _ => false
noncomputable def mx (l : List Nat) : Nat := l.foldr max 0
noncomputable def dpF : Nat -> D -> Nat
 | 0, _ => 0
 | k + 1, .list ds => mx (ds.map (dpF k)) + 1
 | k + 1, .tuple ds => mx (ds.map (dpF k)) + 1
 | k + 1, .dict kvs => mx (kvs.map fun p => dpF k p.2) + 1
 | _ + 1, _ => 0
noncomputable def depV : Nat -> Heap -> Value -> Nat
 | 0, _, _ => 0
 | k + 1, h, .ref a => match (h.get? a).map Obj.data with
  | some (.seq vs _) => mx (vs.toList.map (depV k h)) + 1
  | some (.dict es _) => mx (es.toList.map fun e => depV k h e.val) + 1
  | _ => 0
 | _ + 1, _, _ => 0
section
variable {c : Cx} {V : Addr -> Prop} {s : Shared}
theorem RepL.all {P : D -> Value -> Prop} {ds : List D} : ∀ {vs}, RepL c V s ds vs -> (∀ d ∈ ds, ∀ v, Rep c V s d v -> P d v) -> ∀ (Q : List D -> List Value -> Prop), Q [] [] -> (∀ d v ds vs, P d v -> Q ds vs -> Q (d :: ds) (v :: vs)) -> Q ds vs := by
 induction ds with
 | nil => intro vs r _ Q h0 _; cases r; exact h0
 | cons d ds ih => intro vs r hp Q h0 h1; cases r with | cons r rs => exact h1 _ _ _ _ (hp _ (.head _) _ r) (ih rs (fun d hd => hp d (.tail _ hd)) Q h0 h1)
theorem RepD.all {P : List Nat × D -> DictEntry -> Prop} {kvs : List (List Nat × D)} : ∀ {es}, RepD c V s kvs es -> (∀ p ∈ kvs, ∀ e, (∃ t, e.key = .str (S p.1) t) -> Rep c V s p.2 e.val -> P p e) -> ∀ (Q : List (List Nat × D) -> List DictEntry -> Prop), Q [] [] -> (∀ p e kvs es, P p e -> Q kvs es -> Q (p :: kvs) (e :: es)) -> Q kvs es := by
 induction kvs with
 | nil => intro es r _ Q h0 _; cases r; exact h0
 | cons p kvs ih =>
  intro es r hp Q h0 h1
  cases r with
  | cons hk hh r rs => exact h1 _ _ _ _ (hp _ (.head _) _ ⟨_, hk⟩ r) (ih rs (fun d hd => hp d (.tail _ hd)) Q h0 h1)
theorem Rep.depV {k : Nat} : ∀ {d : D} {v : Value}, okF k d = true -> Rep c V s d v -> ∀ m, k <= m -> Mine.depV m s.heap v = dpF k d := by
 induction k with
 | zero => intro d v h; cases h
 | succ k ih =>
  intro d v h r m hm
  obtain ⟨m, rfl⟩ : ∃ j, m = j + 1 := ⟨m - 1, by omega⟩
  have hm' : k <= m := by omega
  replace r := r.inv
  cases d with
  | none => cases r; rfl
  | bool b => cases r; rfl
  | int i => obtain ⟨_, rfl⟩ := r; rfl
  | str x => obtain ⟨_, rfl⟩ := r; rfl
  | bytes b => obtain ⟨_, rfl⟩ := r; rfl
  | list ds =>
   obtain ⟨_, _, vs, _, rfl, _, ho, _, _, hdt, r⟩ := r
   have e : vs.toList.map (Mine.depV m s.heap) = ds.map (dpF k) := r.all (P := fun d v => Mine.depV m s.heap v = dpF k d) (fun d hd v rv => ih (List.all_eq_true.mp h d hd) rv m hm') (fun ds vs => vs.map (Mine.depV m s.heap) = ds.map (dpF k)) rfl fun d v ds vs h1 h2 => by rw [List.map_cons, List.map_cons, h1, h2]
   unfold Mine.depV dpF
   rw [ho, Option.map_some, hdt]
   dsimp only
   rw [e]
  | tuple ds =>
   obtain ⟨_, _, vs, _, rfl, _, ho, _, _, hdt, r⟩ := r
   have e : vs.toList.map (Mine.depV m s.heap) = ds.map (dpF k) := r.all (P := fun d v => Mine.depV m s.heap v = dpF k d) (fun d hd v rv => ih (List.all_eq_true.mp h d hd) rv m hm') (fun ds vs => vs.map (Mine.depV m s.heap) = ds.map (dpF k)) rfl fun d v ds vs h1 h2 => by rw [List.map_cons, List.map_cons, h1, h2]
   unfold Mine.depV dpF
   rw [ho, Option.map_some, hdt]
   dsimp only
   rw [e]
  | dict kvs =>
   obtain ⟨_, _, es, _, rfl, _, _, ho, _, hdt, r⟩ := r
   have e : es.toList.map (fun e => Mine.depV m s.heap e.val) = kvs.map fun p => dpF k p.2 := r.all (P := fun p e => Mine.depV m s.heap e.val = dpF k p.2) (fun p hp e _ rv => ih ((Bool.and_eq_true _ _).mp (List.all_eq_true.mp h p hp)).2 rv m hm') (fun kvs es => es.map (fun e => Mine.depV m s.heap e.val) = kvs.map fun p => dpF k p.2) rfl fun d v ds vs h1 h2 => by rw [List.map_cons, List.map_cons, h1, h2]
   unfold Mine.depV dpF
   rw [ho, Option.map_some, hdt]
   dsimp only
   rw [e]
  | _ => cases h
theorem gives_by {b : List Nat} (h : b = [] \/ b = [48] \/ b = [38]) (t : Tok) : Gives (Builtin.«bytes.__repr__» ⟨[.bytes (b.map UInt8.ofNat).toArray t], []⟩) (.str (byText b)) := by
 rcases h with rfl | rfl | rfl
 · exact .of_eq (by kernel_rfl)
 · exact .of_eq (by kernel_rfl)
 · exact .of_eq (by kernel_rfl)
theorem byText_len (b : List Nat) : (byText b).length <= sizeLine := by
 rw [sizeLine_eq]
 unfold byText
 split
 · decide +kernel
 · split <;> decide +kernel
theorem reprIs_by {prog : Program} {w : World} {b : List Nat} (h : b = [] \/ b = [48] \/ b = [38]) (t : Tok) : ReprIs prog w (.bytes (b.map UInt8.ofNat).toArray t) (byText b) := fun n hn A E s Q hq => by
 rw [pyReprUnder_leaf (v := .bytes (b.map UInt8.ofNat).toArray t) (by omega) (fun _ e => nomatch e)]
 unfold pyRepr
 refine wB (wpAny_pyReprObj_gives (T := "bytes") rfl slot_bytes_repr entry_bytes_repr (args_bytes_repr _) (gives_by h t) (wP (hq _)) rfl (byText_len b))
end
end
section
section
variable {c : Cx} {V : Addr -> Prop} {s : Shared}
theorem log2_small {i : Int} (h : i.natAbs <= 1000000) : i.natAbs.log2 < 1920 := by
 by_cases h0 : i.natAbs = 0
 · rw [h0]; decide
 · refine (Nat.log2_lt h0).mpr (Nat.lt_of_le_of_lt h (Nat.lt_of_lt_of_le (by decide : 1000000 < 2 ^ 20) (Nat.pow_le_pow_right (by decide) (by decide))))
inductive RK (c : Cx) (s : Shared) (M k m : Nat) (P : List Addr -> Prop) : Prop
 | mk (bs : List Addr) (low : ∀ b ∈ bs, depV M s.heap (.ref b) <= m) (h : ∀ bs', (∀ b ∈ bs, b ∈ bs') -> P bs') : RK c s M k m P
theorem not_in {M m : Nat} {a : Addr} {bs : List Addr} (low : ∀ b ∈ bs, depV M s.heap (.ref b) <= m) (h : depV M s.heap (.ref a) = m + 1) : a ∉ bs := fun q => by
 have := low a q
 omega
theorem rk_list {M k : Nat} {ds : List D} {vs : List Value} (r : RepL c V s ds vs) (h : ∀ d ∈ ds, ∀ v, Rep c V s d v -> RK c s M k (dpF k d) fun bs => ReprK c.prog c.w bs s.heap k v (shF k d)) :
 RK c s M k (mx (ds.map (dpF k))) fun bs => ReprAllK c.prog c.w bs s.heap k vs (ds.map (shF k)) :=
 r.all (P := fun d v => RK c s M k (dpF k d) fun bs => ReprK c.prog c.w bs s.heap k v (shF k d)) h (fun ds vs => RK c s M k (mx (ds.map (dpF k))) fun bs => ReprAllK c.prog c.w bs s.heap k vs (ds.map (shF k)))
  ⟨[], (fun _ q => nomatch q), fun _ _ => .nil⟩ fun d v ds vs h1 h2 => by
   obtain ⟨b1, l1, k1⟩ := h1
   obtain ⟨b2, l2, k2⟩ := h2
   refine ⟨b1 ++ b2, fun b hb => ?_, fun bs' hs => .cons (k1 bs' fun b hb => hs b (mL _ hb)) (k2 bs' fun b hb => hs b (mR _ hb))⟩
   show _ <= max _ _
   rcases mA.mp hb with hb | hb
   · exact Nat.le_trans (l1 b hb) (Nat.le_max_left _ _)
   · exact Nat.le_trans (l2 b hb) (Nat.le_max_right _ _)
noncomputable def entT (k : Nat) (p : List Nat × D) : Str := reprText (S p.1) ++ ": " ++ shF k p.2
inductive RE (c : Cx) (s : Shared) (M k : Nat) (p : List Nat × D) (e : DictEntry) : Prop
 | mk (h : RK c s M k (dpF k p.2) fun bs => ReprK c.prog c.w bs s.heap k e.key (reprText (S p.1)) /\ ReprK c.prog c.w bs s.heap k e.val (shF k p.2)) : RE c s M k p e
inductive RD (c : Cx) (s : Shared) (M k : Nat) (kvs : List (List Nat × D)) (es : List DictEntry) : Prop
 | mk (h : RK c s M k (mx (kvs.map fun p => dpF k p.2)) fun bs => ReprEntriesK c.prog c.w bs s.heap k es (kvs.map (entT k))) : RD c s M k kvs es
theorem RD.cons {M k : Nat} {d : List Nat × D} {v : DictEntry} {ds : List (List Nat × D)} {vs : List DictEntry} (h1 : RE c s M k d v) (h2 : RD c s M k ds vs) : RD c s M k (d :: ds) (v :: vs) := by
 obtain ⟨⟨b1, l1, k1⟩⟩ := h1
 obtain ⟨⟨b2, l2, k2⟩⟩ := h2
 refine ⟨⟨b1 ++ b2, fun b hb => ?_, fun bs' hs => ?_⟩⟩
 · show _ <= max _ _
   rcases mA.mp hb with hb | hb
   · exact Nat.le_trans (l1 b hb) (Nat.le_max_left _ _)
   · exact Nat.le_trans (l2 b hb) (Nat.le_max_right _ _)
 · have q := k1 bs' fun b hb => hs b (mL _ hb)
   have q2 := k2 bs' fun b hb => hs b (mR _ hb)
   erw [List.map_cons]
   exact .cons q.1 q.2 q2
theorem rk_dict {M k : Nat} {kvs : List (List Nat × D)} {es : List DictEntry} (r : RepD c V s kvs es) (h : ∀ p ∈ kvs, ((reprText (S p.1)).length <= 100) /\ ∀ v, Rep c V s p.2 v -> RK c s M k (dpF k p.2) fun bs => ReprK c.prog c.w bs s.heap k v (shF k p.2)) : RD c s M k kvs es := by
 refine r.all (P := RE c s M k) (fun p hp e he rv => ?_) (RD c s M k) ⟨⟨[], (fun _ q => nomatch q), fun _ _ => .nil⟩⟩ fun p e kvs es h1 h2 => RD.cons h1 h2
 obtain ⟨t, he⟩ := he
 obtain ⟨hl, hv⟩ := h p hp
 obtain ⟨b1, l1, k1⟩ := hv _ rv
 refine ⟨⟨b1, l1, fun bs' hs => ⟨?_, k1 bs' hs⟩⟩⟩
 rw [he]
 exact .of_is (.str _ _ (by rw [sizeLine_eq]; exact lt4 (by assumption) rfl)) _ _ _
theorem rk_flat {M k m : Nat} {v : Value} {t : Str} (h : ReprIs c.prog c.w v t) : RK c s M k m fun bs => ReprK c.prog c.w bs s.heap k v t := ⟨[], (fun _ q => nomatch q), fun bs _ => .of_is h _ _ _⟩
theorem rk_of {k M : Nat} : ∀ {d : D} {v : Value}, okF k d = true -> k <= M -> Rep c V s d v -> RK c s M k (dpF k d) fun bs => ReprK c.prog c.w bs s.heap k v (shF k d) := by
 induction k with
 | zero => intro d v h; cases h
 | succ k ih =>
  intro d v h hm r
  have hdv := r.depV h M hm
  have r' := r.inv
  cases d with
  | none => cases r'; exact rk_flat .none
  | bool b => cases r'; exact rk_flat (.bool b)
  | int i => obtain ⟨_, rfl⟩ := r'; exact rk_flat (.int _ (log2_small (Nat.le_trans (of_decide_eq_true h) (by decide))))
  | str x => obtain ⟨_, rfl⟩ := r'; exact rk_flat (.str _ _ (by rw [sizeLine_eq]; have := of_decide_eq_true (p := (reprText x).length <= 100) h; exact lt4 (by assumption) rfl))
  | bytes b => obtain ⟨_, rfl⟩ := r'; exact rk_flat (reprIs_by (of_decide_eq_true h) _)
  | list ds =>
   obtain ⟨a, _, vs, _, rfl, _, ho, hc, _, hdt, rr⟩ := r'
   obtain ⟨bs, low, hk⟩ := rk_list (M := M) rr fun d hd v rv => ih (List.all_eq_true.mp h d hd) (by omega) rv
   refine ⟨a :: bs, fun b hb => (mC.mp hb).elim (fun e => e ▸ Nat.le_of_eq hdv) fun hb => Nat.le_succ_of_le (low b hb), fun bs' hs => ?_⟩
   have hk := hk bs fun _ q => q
   refine ReprK.more (as := a :: bs) ?_ hs
   obtain ⟨l⟩ := vs
   cases l with
   | nil => cases rr; show ReprK _ _ _ _ _ _ (listText []); erw [listText_nil]; exact .listEmpty ho hc hdt
   | cons x l => exact .list ho hc hdt (not_in low hdv) (by simpa using hk.length_eq) fun i y e => hk.item i y (by simpa using e)
  | tuple ds =>
   obtain ⟨a, _, vs, _, rfl, _, ho, hc, _, hdt, rr⟩ := r'
   obtain ⟨bs, low, hk⟩ := rk_list (M := M) rr fun d hd v rv => ih (List.all_eq_true.mp h d hd) (by omega) rv
   refine ⟨a :: bs, fun b hb => (mC.mp hb).elim (fun e => e ▸ Nat.le_of_eq hdv) fun hb => Nat.le_succ_of_le (low b hb), fun bs' hs => ?_⟩
   exact ReprK.more (as := a :: bs) (.tuple ho hc hdt (not_in low hdv) (hk bs fun _ q => q)) hs
  | dict kvs =>
   obtain ⟨a, _, es, _, rfl, _, hsm, ho, hx, hdt, rr⟩ := r'
   obtain ⟨⟨bs, low, hk⟩⟩ := rk_dict (M := M) rr fun p hp => have q := (Bool.and_eq_true _ _).mp (List.all_eq_true.mp h p hp); ⟨of_decide_eq_true q.1, fun v rv => ih q.2 (by omega) rv⟩
   refine ⟨a :: bs, fun b hb => (mC.mp hb).elim (fun e => e ▸ Nat.le_of_eq hdv) fun hb => Nat.le_succ_of_le (low b hb), fun bs' hs => ?_⟩
   exact ReprK.more (as := a :: bs) (.dict ho hx.1 hdt hsm (not_in low hdv) (hk bs fun _ q => q)) hs
  | _ => cases h
noncomputable def shL (k : Nat) (d : D) : List Nat := (shF k d).cps.toList
theorem shL_S (k : Nat) (d : D) : S (shL k d) = shF k d := (S_of _).symm
theorem ReprN.of {n k : Nat} {d : D} (hgn : c.gn) (hk : k <= 8) (h : okF (k + 1) d = true) (hz : (shL (k + 1) d).length <= 100000) : ReprN c n d (shL (k + 1) d) := by
 refine ⟨by exact lt4 (by assumption) rfl, fun A V s v hA hS r => ?_⟩
 have hg : A.guards = some [] := by
  (refine x12 hA.guards ?_; intro g h1 h2)
  rw [h1, h2 hgn]
 have hu := hA.units
 have hz' : (shF (k + 1) d).length <= sizeLine := by rw [<- shL_S, S_length, sizeLine_eq]; exact lt4 (by assumption) rfl
 have hdv := r.depV h 10 (by omega)
 have fin : ∀ (T : Str), T = shF (k + 1) d -> ∀ h' u tk, (∀ b o, s.heap.get? b = some o -> h'.get? b = some o) -> s.toks <= tk -> ((∃ t', Value.str T u = .str (S (shL (k + 1) d)) t') /\ Gr s { s with heap := h', toks := tk }) := fun T hT h' u tk hk ht => ⟨⟨u, by rw [hT, shL_S]⟩, hk, ht, .rfl, rfl⟩
 refine wT (Nat.le_refl _) ?_
 replace r := r.inv
 cases d with
 | none => cases r; exact pyReprObj_none fun ht => fin _ rfl _ _ _ (fun _ _ e => e) ht
 | bool b => cases r; exact pyReprObj_bool fun ht => fin _ rfl _ _ _ (fun _ _ e => e) ht
 | int i => obtain ⟨_, rfl⟩ := r; exact pyReprObj_int (log2_small (Nat.le_trans (of_decide_eq_true h) (by decide))) fun ht => fin _ rfl _ _ _ (fun _ _ e => e) ht
 | str x => obtain ⟨_, rfl⟩ := r; exact pyReprObj_str (fun ht => fin _ rfl _ _ _ (fun _ _ e => e) ht) hz'
 | bytes b => obtain ⟨_, rfl⟩ := r; exact wpAny_pyReprObj_gives (T := "bytes") rfl slot_bytes_repr entry_bytes_repr (args_bytes_repr _) (gives_by (of_decide_eq_true h) _) (fun ht => fin _ rfl _ _ _ (fun _ _ e => e) ht) rfl hz'
 | list ds =>
  obtain ⟨a, _, vs, _, rfl, _, ho, hc, _, hdt, rr⟩ := r
  obtain ⟨bs, low, hk'⟩ := rk_list (M := 10) rr fun d hd v rv => rk_of (List.all_eq_true.mp h d hd) (by exact lt4 (by assumption) rfl) rv
  have hk' := hk' bs fun _ q => q
  obtain ⟨l⟩ := vs
  cases l with
  | nil =>
   cases rr
   refine wpAny_pyReprObj_list_empty ⟨_, ho, hc⟩ (by omega) ho hdt fun ht => fin _ ?_ _ _ _ (fun _ _ e => e) ht
   exact listText_nil.symm
  | cons x l => exact wpAny_pyReprObj_listK ho hc hdt (not_in low hdv) (by simpa using hk'.length_eq) (fun i y e => hk'.item i y (by simpa using e)) hg (fun b _ => Clear.nil b) (by omega) (fun _ _ e => e) (fun h' u tk hk ht => fin _ rfl h' u tk hk ht) hz'
 | tuple ds =>
  obtain ⟨a, _, vs, _, rfl, _, ho, hc, _, hdt, rr⟩ := r
  obtain ⟨bs, low, hk'⟩ := rk_list (M := 10) rr fun d hd v rv => rk_of (List.all_eq_true.mp h d hd) (by exact lt4 (by assumption) rfl) rv
  exact wpAny_pyReprObj_tupleK ho hc hdt (not_in low hdv) (hk' bs fun _ q => q) hg (fun b _ => Clear.nil b) (by omega) (fun _ _ e => e) (fun h' u tk hk ht => fin _ rfl h' u tk hk ht) hz'
 | dict kvs =>
  obtain ⟨a, _, es, _, rfl, _, hsm, ho, hx, hdt, rr⟩ := r
  obtain ⟨⟨bs, low, hk'⟩⟩ := rk_dict (M := 10) rr fun p hp => have q := (Bool.and_eq_true _ _).mp (List.all_eq_true.mp h p hp); ⟨of_decide_eq_true q.1, fun v rv => rk_of q.2 (by exact lt4 (by assumption) rfl) rv⟩
  exact wpAny_pyReprObj_dictK ho hx.1 hdt hsm (not_in low hdv) (hk' bs fun _ q => q) hg (fun b _ => Clear.nil b) (by omega) (fun _ _ e => e) (fun h' u tk hk ht => fin _ rfl h' u tk hk ht) hz'
 | _ => cases h
end
end
section
section
variable {c : Cx} {n : Nat} {sc : Scope} {k : Bool} {ρ : Sto}
structure EvO (c : Cx) (n : Nat) (sc : Scope) (k : Bool) (ρ : Sto) (e : Option Expr) (i : Option Int) : Prop where
 run : ∀ A env V0 h0 Cs X s, Room c n A -> Fm c sc env V0 h0 Cs X ρ s -> wpAny c.M A (evalPart e env) (fun v s' => Gr s s' /\ IsPart v i) NoE s
theorem EvO.none : EvO c n sc k ρ Option.none Option.none := .mk fun A env V0 h0 Cs X s _ _ => wpAny_evalPart_none ⟨.refl s, .none⟩
theorem EvO.some {e : Expr} {i : Int} (h : Ev c n sc k ρ e (.int i)) : EvO c n sc k ρ (Option.some e) (Option.some i) := .mk fun A env V0 h0 Cs X s hA F =>
 wpAny_evalPart_some (wM (h.run A env V0 h0 Cs X s hA F) (fun v s' q => ⟨q.1, by obtain ⟨_, rfl⟩ := q.2.inv; exact .int _ _⟩) fun _ _ q => q)
theorem RepL.take {V : Addr -> Prop} {s : Shared} {ds : List D} : ∀ {vs : List Value} (m : Nat), RepL c V s ds vs -> RepL c V s (ds.take m) (vs.take m) := by
 induction ds with
 | nil => intro vs m r; cases r; simp; exact .nil
 | cons d ds ih =>
  intro vs m r
  cases r with
  | cons r rs => cases m with
   | zero => exact .nil
   | succ m => exact .cons r (ih m rs)
theorem min_cast (n m : Nat) : min (m : Int) (n : Int) = ((min m n : Nat) : Int) := by
 rcases Nat.le_total m n with h | h
 · rw [Nat.min_eq_left h, Int.min_eq_left (Int.ofNat_le.mpr h)]
 · rw [Nat.min_eq_right h, Int.min_eq_right (Int.ofNat_le.mpr h)]
theorem clip_min (n m : Nat) : clipAt n (m : Int) = min m n := by
 unfold clipAt
 rw [if_neg (Int.not_lt.mpr (Int.natCast_nonneg m)), min_cast, Int.max_eq_right (Int.natCast_nonneg _), Int.toNat_natCast]
theorem Ev.firstL {value e : Expr} {p pos : Pos} {ds : List D} {m : Nat} (h1 : Ev c n sc k ρ value (.list ds)) (h3 : Ev c n sc k ρ e (.int m)) (hz : ds.length <= 16777216) :
 Ev c n sc k ρ (.Subscript value (.Slice Option.none (Option.some e) Option.none p) pos) (.list (ds.take m)) := .mk fun A env V0 h0 Cs X s hA F => by
 refine Subscript_ (wM (h1.run A env V0 h0 Cs X s hA F) (fun o s₁ q₁ => wpAny_Slice (wM ((EvO.none (k := k)).run A env V0 h0 Cs X s₁ hA (F.gr q₁.1)) (fun vl s2 q₂ => wM ((EvO.some h3).run A env V0 h0 Cs X s2 hA ((F.gr q₁.1).gr q₂.1)) (fun vu s₃ q₃ => ?_) fun _ _ q => q) fun _ _ q => q)) fun _ _ q => q)
 refine wpAny_evalPart_none ?_
 refine hideG fun G KG => ?_
 obtain ⟨g₁, r⟩ := q₁
 have g3 := (g₁.trans q₂.1).trans q₃.1
 have r3 := r.gr (q₂.1.trans q₃.1)
 have g : Gr s { s₃ with heap := s₃.heap.push { cls := .type "slice", data := .fields #[vl, vu, .none] } } := g3.trans (.push _)
 have r4 := (r3.gr (Gr.push (s := s₃) { cls := .type "slice", data := .fields #[vl, vu, .none] })).inv
 have hst := (F.st k).gr g
 obtain ⟨a, o', vs, nn, rfl, na, ho, hcl, hd, hdt, r4⟩ := r4
 have hlen := r4.length
 have hsz : vs.size = ds.length := by rw [hlen]; simp
 refine KG ?_
 refine tail_any (Heap.IsList.typeIs ⟨o', ho, hcl, nn, hdt⟩) slot_list_getitem.lookup (wp_gr g (wpAny_getItem_list_slice ⟨o', ho, hcl, nn, hdt⟩ (Heap.IsSliceOf.new ..) q₂.2 q₃.2 .none (by simp)
  ⟨.push _, .list (fun q' => ?_) (Heap.get?_push_size _ rfl) rfl ⟨rfl, rfl⟩ rfl ?_⟩ (by rw [hsz, sizeLine_eq]; exact hz))) (ops := [_, _]) rfl
 · obtain ⟨o, e⟩ := hst.live _ q'
   exact absurd (Heap.lt_size e) (Nat.lt_irrefl _)
 · rw [slicePick_plain]
   have e1 : clipAt vs.size (m : Int) = min m vs.size := clip_min _ _
   show RepL _ _ _ _ (List.toArray ((vs.toList.drop 0).take (clipAt vs.size (m : Int) - 0))).toList
   rw [e1, List.drop_zero, Nat.sub_zero, List.toList_toArray]
   have e2 : vs.toList.take (min m vs.size) = vs.toList.take m := by
    rw [show vs.size = vs.toList.length by simp, <- List.take_eq_take_min]
   erw [e2]
   exact (r4.take _).gr (.push _)
theorem BinR.catL {ds es : List D} (hz : ds.length + es.length <= 16777216) : BinR c .Add (.list ds) (.list es) (.list (ds ++ es)) := fun A V s v₁ v₂ _ hS r₁ r₂ => by
 replace r₁ := r₁.inv
 replace r₂ := r₂.inv
 obtain ⟨a, o, vs, nn, rfl, na, ho, hcl, hd, hdt, r₁⟩ := r₁
 obtain ⟨b, o2, ws, nn2, rfl, na2, ho2, hcl2, hd2, hdt2, r₂⟩ := r₂
 obtain ⟨cls, dd, data, sl⟩ := o
 obtain ⟨cls2, dd2, data2, sl2⟩ := o2
 simp only at hcl hdt hcl2 hdt2
 subst hcl hdt hcl2 hdt2
 have l1 := r₁.length
 have l2 := r₂.length
 simp only [Array.length_toList] at l1 l2
 refine concat_meets ⟨_, ho, rfl⟩ ⟨_, ho2, rfl⟩ noFill_list_add seq_list_add PySem.F.slot_list_add PySem.F.entry_list_add (PySem.F.args_list_add_2 _ _)
  (list_addW a b vs ws nn nn2 dd dd2 sl sl2 (by rw [sizeLine_eq]; omega)) ⟨ho, ho2, .push _, .list (fun q' => ?_) (Heap.get?_push_size _ rfl) rfl ⟨rfl, rfl⟩ rfl ?_⟩
 · obtain ⟨o, e⟩ := hS.live _ q'
   exact absurd (Heap.lt_size e) (Nat.lt_irrefl _)
 · simpa using (r₁.append r₂).gr (.push _)
theorem BinR.catT {d : D} {ds es : List D} (hz : ds.length + es.length <= 1000000) : BinR c .Add (.tuple (d :: ds)) (.tuple es) (.tuple (d :: ds ++ es)) := fun A V s v₁ v₂ _ hS r₁ r₂ => by
 have r1' := r₁
 replace r₁ := r₁.inv
 replace r₂ := r₂.inv
 obtain ⟨a, o, vs, nn, rfl, na, ho, hcl, hd, hdt, r₁⟩ := r₁
 obtain ⟨b, o2, ws, nn2, rfl, na2, ho2, hcl2, hd2, hdt2, r₂⟩ := r₂
 obtain ⟨cls, dd, data, sl⟩ := o
 obtain ⟨cls2, dd2, data2, sl2⟩ := o2
 simp only at hcl hdt hcl2 hdt2
 subst hcl hdt hcl2 hdt2
 have l1 := r₁.length
 have l2 := r₂.length
 simp only [Array.length_toList, List.length_cons] at l1 l2
 have hv : ¬ vs.isEmpty = true := by intro q; simp at q; subst q; simp at l1
 by_cases he : es = []
 · subst he
   have hw : ws.isEmpty = true := by simp at l2; simp; exact Array.size_eq_zero_iff.mp l2.symm
   refine concat_meets ⟨_, ho, rfl⟩ ⟨_, ho2, rfl⟩ noFill_tuple_add seq_tuple_add PySem.F.slot_tuple_add PySem.F.entry_tuple_add (PySem.F.args_tuple_add_2 _ _)
    (tuple_addW1 a b vs ws nn nn2 dd dd2 sl sl2 hv hw) ⟨ho, ho2, .refl s, ?_⟩
   rw [List.append_nil]; exact r1'
 · have hw : ¬ ws.isEmpty = true := by
    intro q; simp at q; subst q; simp at l2; exact he l2
   refine concat_meets ⟨_, ho, rfl⟩ ⟨_, ho2, rfl⟩ noFill_tuple_add seq_tuple_add PySem.F.slot_tuple_add PySem.F.entry_tuple_add (PySem.F.args_tuple_add_2 _ _)
    (tuple_addW2 a b vs ws nn nn2 dd dd2 sl sl2 hv hw (by rw [sizeLine_eq]; omega)) ⟨ho, ho2, .push _, .tuple (fun q' => ?_) (Heap.get?_push_size _ rfl) rfl ⟨rfl, rfl⟩ rfl ?_⟩
   · obtain ⟨o, e⟩ := hS.live _ q'
     exact absurd (Heap.lt_size e) (Nat.lt_irrefl _)
   · simpa using (r₁.append r₂).gr (.push _)
theorem FnR.max2 {a b : Int} (hn : c.hn := by assumption) : FnR c n (.builtin "max") [.int a, .int b] (.int (max a b)) := .mk fun A V s vs hA _ r => by
 replace r := r.o2
 (refine x23 r ?_; clear r; rintro _ _ rfl r r')
 obtain ⟨_, rfl⟩ := r.inv
 obtain ⟨_, rfl⟩ := r'.inv
 refine wp_end (max_two_ints (hA.handled hn) fun h' tk hk => ⟨hk, rfl, rfl, fun _ => ?_⟩)
 by_cases h : b > a
 · erw [if_pos h, show max a b = b by omega]; exact .int _ _
 · erw [if_neg h, show max a b = a by omega]; exact .int _ _
theorem FnR.range2 {a b : Int} : FnR c n (.type "range") [.int a, .int b] (.range a b 1) := .mk fun A V s vs hA hS r => by
 replace r := r.o2
 (refine x23 r ?_; clear r; rintro _ _ rfl r r')
 obtain ⟨_, rfl⟩ := r.inv
 obtain ⟨_, rfl⟩ := r'.inv
 exact wp_end (call_range_2 ⟨fun _ _ e => Heap.get?_push_of_some _ e, rfl, rfl, fun _ => .range hS.new (Heap.get?_push_size _ rfl)⟩)
/- truth -/
theorem TruR.int {i : Int} : TruR c (.int i) (decide (i ≠ 0)) := fun A V s v _ _ r => by
 obtain ⟨_, rfl⟩ := r.inv
 exact P.truthy_int ⟨.refl s, by by_cases h : i = 0 <;> simp [h]⟩
theorem TruR.bytes {b : List Nat} (hz : b.length <= 1000) : TruR c (.bytes b) (!b.isEmpty) := fun A V s v _ _ r => by
 obtain ⟨_, rfl⟩ := r.inv
 refine wp_end (truthy_bytes (by simp; exact lt4 (by assumption) rfl) ⟨fun _ _ e => e, rfl, rfl, fun _ => ?_⟩)
 cases b with
 | nil => rfl
 | cons x b => simp; omega
theorem TruR.list {ds : List D} (hz : ds.length <= 16777216) : TruR c (.list ds) (!ds.isEmpty) := fun A V s v _ _ r => by
 replace r := r.inv
 obtain ⟨a, o, vs, nn, rfl, na, ho, hcl, hd, hdt, r⟩ := r
 have hlen := r.length
 refine wp_end (wpAny_truthy_list ⟨o, ho, hcl, nn, hdt⟩ (by simp at hlen; omega) ⟨fun _ _ e => e, rfl, rfl, fun _ => ?_⟩)
 obtain ⟨vs⟩ := vs
 cases r <;> simp
theorem TruR.tuple {ds : List D} (hz : ds.length <= 16777216) : TruR c (.tuple ds) (!ds.isEmpty) := fun A V s v _ _ r => by
 replace r := r.inv
 obtain ⟨a, o, vs, nn, rfl, na, ho, hcl, hd, hdt, r⟩ := r
 have hlen := r.length
 refine wp_end (truthy_tuple ⟨o, ho, hcl, nn, hdt⟩ (by simp at hlen; omega) ⟨fun _ _ e => e, rfl, rfl, fun _ => ?_⟩)
 obtain ⟨vs⟩ := vs
 cases r <;> simp
end
end
section
noncomputable def simF : Nat -> D -> Bool
 | 0, _ => false
 | _ + 1, .bool _ => true
 | _ + 1, .str _ => true
 | k + 1, .list ds => ds.all (simF k)
 | k + 1, .tuple ds => ds.all (simF k)
 | _ + 1, _ => false
noncomputable def D.tyn : D -> String
 | .none => "NoneType"
 | .bool _ => "bool"
 | .int _ => "int"
 | .str _ => "str"
 | .bytes _ => "bytes"
 | .list _ => "list"
 | .tuple _ => "tuple"
 | .dict _ => "dict"
 | .val _ => ""
 | .range _ _ _ => ""
noncomputable def D.thing : D -> Bool
 | .val _ => false
 | .range _ _ _ => false
 | _ => true
section
variable {c : Cx} {n : Nat} {sc : Scope} {k : Bool} {ρ : Sto} {V W : Addr -> Prop} {s : Shared}
theorem all_true (m : Nat) : (List.range m).all (fun _ => true) = true := by simp
theorem eqAt_ref {A : Around} {a b : Addr} (h : SeqAt.RcAt A s (.ref a) (.ref b) true) : SeqAt.EqAt A s (.ref a) (.ref b) true := by
 by_cases q : a = b
 · subst q; exact .same _
 · exact .of_refs q h
theorem eq_same {m : Nat} : ∀ {d : D} {v w : Value} {A : Around}, simF m d = true -> Rep c V s d v -> Rep c W s d w -> A.units + m < cLine -> SeqAt.EqAt A s v w true /\ SeqAt.RcAt A s v w true := by
 induction m with
 | zero => intro d v w A h; cases h
 | succ m ih =>
  intro d v w A h r₁ r₂ hu
  have items : ∀ {ds : List D} {vs ws : Array Value}, ds.all (simF m) = true -> RepL c V s ds vs.toList -> RepL c W s ds ws.toList -> ∀ j (h1 : j < vs.size) (h2 : j < ws.size), SeqAt.EqAt A.in1 s vs[j] ws[j] true := fun {ds vs ws} hd q₁ q₂ j h1 h2 => by
   have hl := q₁.length
   have hj : j < ds.length := by simp at hl; omega
   (refine x12 (q₁.get (List.getElem?_eq_getElem hj)) ?_; intro x e1 x1)
   (refine x12 (q₂.get (List.getElem?_eq_getElem hj)) ?_; intro y e2 y1)
   rw [Array.getElem?_toList, Array.getElem?_eq_getElem h1] at e1
   rw [Array.getElem?_toList, Array.getElem?_eq_getElem h2] at e2
   cases e1; cases e2
   exact (ih (List.all_eq_true.mp hd _ (List.getElem_mem hj)) x1 y1 (by show A.units + 1 + m < cLine; omega)).1
  replace r₁ := r₁.inv
  replace r₂ := r₂.inv
  cases d with
  | bool b =>
   cases r₁; cases r₂
   have e1 := SeqAt.EqAt.bool_bool (A := A) (s := s) b b
   have e2 := SeqAt.RcAt.bool_bool (A := A) (s := s) b b
   rw [beq_self_eq_true] at e1 e2
   exact ⟨e1, e2⟩
  | str x =>
   obtain ⟨t, rfl⟩ := r₁
   obtain ⟨u, rfl⟩ := r₂
   have e1 := SeqAt.EqAt.str_str (A := A) (s := s) x t x u
   have e2 := SeqAt.RcAt.str_str (A := A) (s := s) x t x u
   rw [beq_self_eq_true] at e1 e2
   exact ⟨e1, e2⟩
  | list ds =>
   obtain ⟨a, o, vs, nn, rfl, _, ho, hcl, _, hdt, r₁⟩ := r₁
   obtain ⟨b, o2, ws, nn2, rfl, _, ho2, hcl2, _, hdt2, r₂⟩ := r₂
   have l1 := r₁.length
   have l2 := r₂.length
   simp only [Array.length_toList] at l1 l2
   have e := SeqAt.RcAt.lists (A := A) (e := fun _ => true) ⟨o, ho, hcl, nn, hdt⟩ ⟨o2, ho2, hcl2, nn2, hdt2⟩ (by omega) (by omega) (items h r₁ r₂)
   rw [all_true] at e
   exact ⟨eqAt_ref e, e⟩
  | tuple ds =>
   obtain ⟨a, o, vs, nn, rfl, _, ho, hcl, _, hdt, r₁⟩ := r₁
   obtain ⟨b, o2, ws, nn2, rfl, _, ho2, hcl2, _, hdt2, r₂⟩ := r₂
   have l1 := r₁.length
   have l2 := r₂.length
   simp only [Array.length_toList] at l1 l2
   have e := SeqAt.RcAt.tuples (A := A) (e := fun _ => true) ⟨o, ho, hcl, nn, hdt⟩ ⟨o2, ho2, hcl2, nn2, hdt2⟩ (by omega) (items h r₁ r₂)
   rw [all_true, show vs.size = ws.size by omega, beq_self_eq_true, Bool.and_self] at e
   exact ⟨eqAt_ref e, e⟩
  | _ => cases h
theorem CmpR.eqSame {m : Nat} {d : D} (h : simF m d = true) (hm : m <= 50) : CmpR c .Eq d d true := fun A V s v₁ v₂ hA _ r₁ r₂ =>
 (eq_same h r₁ r₂ (by have := hA.units; omega)).2 c.prog c.w _ _ ⟨.refl s, rfl⟩
/- things of one kind -/
theorem CmpR.eqNone : CmpR c .Eq .none .none true := fun A V s v₁ v₂ _ _ r₁ r₂ => by
 cases r₁.inv; cases r₂.inv; exact SeqAt.RcAt.none_none c.prog c.w _ _ ⟨.refl s, rfl⟩
theorem CmpR.eqBool {a b : Bool} : CmpR c .Eq (.bool a) (.bool b) (a == b) := fun A V s v₁ v₂ _ _ r₁ r₂ => by
 cases r₁.inv; cases r₂.inv; exact SeqAt.RcAt.bool_bool a b c.prog c.w _ _ ⟨.refl s, rfl⟩
theorem CmpR.eqBytes {a b : List Nat} (ha : ∀ x ∈ a, x < 256) (hb : ∀ x ∈ b, x < 256) : CmpR c .Eq (.bytes a) (.bytes b) (decide (a = b)) := fun A V s v₁ v₂ _ _ r₁ r₂ => by
 obtain ⟨_, rfl⟩ := r₁.inv; obtain ⟨_, rfl⟩ := r₂.inv
 refine eq_bytes ⟨.refl s, congrArg Value.bool ?_⟩
 rw [Bool.eq_iff_iff, beq_iff_eq, decide_eq_true_eq]
 have key : ∀ a : List Nat, (∀ x ∈ a, x < 256) -> (a.map UInt8.ofNat).map UInt8.toNat = a := fun a h => by
  rw [List.map_map]
  exact (List.map_congr_left fun x hx => by simpa using Nat.mod_eq_of_lt (h x hx)).trans (List.map_id a)
 constructor
 · intro e
   have e2 : a.map UInt8.ofNat = b.map UInt8.ofNat := by simpa using e
   rw [<- key a ha, e2, key b hb]
 · rintro rfl; rfl
/- isinstance -/
theorem kit_rep {d : D} {v : Value} (hd : d.thing = true) (r : Rep c V s d v) : ∃ H : Heap -> Prop, KitX [] v (.type d.tyn) H /\ H s.heap /\ v ≠ .builtin "__main__.__loader__#opaque" := by
 replace r := r.inv
 cases d with
 | none => cases r; exact ⟨_, kitx_none, trivial, nofun⟩
 | bool b => cases r; exact ⟨_, kitx_bool, trivial, nofun⟩
 | int i => obtain ⟨_, rfl⟩ := r; exact ⟨_, kitx_int, trivial, nofun⟩
 | str x => obtain ⟨_, rfl⟩ := r; exact ⟨_, kitx_str, trivial, nofun⟩
 | bytes b => obtain ⟨_, rfl⟩ := r; exact ⟨_, kitx_bytes, trivial, nofun⟩
 | list ds => obtain ⟨_, _, _, _, rfl, _, ho, hc, _⟩ := r; exact ⟨_, kitx_list, ⟨_, ho, hc⟩, nofun⟩
 | tuple ds => obtain ⟨_, _, _, _, rfl, _, ho, hc, _⟩ := r; exact ⟨_, kitx_tuple, ⟨_, ho, hc⟩, nofun⟩
 | dict kvs => obtain ⟨_, _, _, _, rfl, _, _, ho, hx, _⟩ := r; exact ⟨_, kitx_dict, ⟨_, ho, hx.1⟩, nofun⟩
 | _ => cases hd
theorem in_nil (h : Heap) : Frag.In [] h := fun _ _ e => nomatch e
theorem FnR.isi {d : D} {T : String} {b : Bool} (hd : d.thing = true) (h : kitOne [] (.type d.tyn) (.type T) = some b) : FnR c n (.builtin "isinstance") [d, .val (.type T)] (.bool b) := .mk fun A V s vs hA hS rs => by
 replace rs := rs.o2
 (refine x23 rs ?_; clear rs; rintro _ _ rfl r r')
 cases r'.inv
 (refine x13 (kit_rep hd r) ?_; intro H Z p hne)
 exact wp_end (kia_one Z (in_nil _) p h hne fun tk => ⟨fun _ _ e => e, rfl, rfl, fun _ => .bool _⟩)
theorem FnR.isiT {d : D} {Ts : List String} {b : Bool} (hd : d.thing = true) (h : kitAny [] (.type d.tyn) (Ts.map .type) = some b) : FnR c n (.builtin "isinstance") [d, .tuple (Ts.map fun T => .val (.type T))] (.bool b) := .mk fun A V s vs hA hS rs => by
 replace rs := rs.o2
 (refine x23 rs ?_; clear rs; rintro _ _ rfl r r')
 replace r' := r'.inv
 obtain ⟨a, ⟨cls, dd, data, sl⟩, ws, nn, rfl, _, ho, hcl, hdd, hdt, r'⟩ := r'
 simp only at hcl hdt
 subst hcl hdt
 have e : ws.toList = Ts.map .type := by
  generalize ws.toList = l at r'
  clear h
  induction Ts generalizing l with
  | nil => cases r'; rfl
  | cons T Ts ih => cases r' with | cons q q' => cases q.inv; rw [ih _ q']; rfl
 have e2 : ws = (Ts.map Value.type).toArray := by rw [<- e]
 subst e2
 (refine x13 (kit_rep hd r) ?_; intro H Z p hne)
 exact wp_end (kia_tup Z (in_nil _) p ho h hne fun tk => ⟨fun _ _ e => e, rfl, rfl, fun _ => .bool _⟩)
/- type(x) -/
theorem Rep.tyIs {d : D} {v : Value} (hd : d.thing = true) (r : Rep c V s d v) : s.TypeIs v d.tyn := by
 replace r := r.inv
 cases d with
 | none => cases r; rfl
 | bool b => cases r; rfl
 | int i => obtain ⟨_, rfl⟩ := r; exact typeIs_int _ _ _
 | str x => obtain ⟨_, rfl⟩ := r; exact typeIs_str _ _ _
 | bytes b => obtain ⟨_, rfl⟩ := r; rfl
 | list ds => obtain ⟨_, _, _, _, rfl, _, ho, hc, _⟩ := r; exact ⟨_, ho, hc⟩
 | tuple ds => obtain ⟨_, _, _, _, rfl, _, ho, hc, _⟩ := r; exact ⟨_, ho, hc⟩
 | dict kvs => obtain ⟨_, _, _, _, rfl, _, _, ho, hx, _⟩ := r; exact ⟨_, ho, hx.1⟩
 | _ => cases hd
theorem nameOk_bool : NameOk "bool" := ⟨by decide, by decide +kernel, by decide +kernel, by rfl, by decide +kernel, by decide +kernel⟩
theorem nameOk_str : NameOk "str" := ⟨by decide, by decide +kernel, by decide +kernel, by rfl, by decide +kernel, by decide +kernel⟩
theorem nameOk_list : NameOk "list" := ⟨by decide, by decide +kernel, by decide +kernel, by rfl, by decide +kernel, by decide +kernel⟩
theorem nameOk_tuple : NameOk "tuple" := ⟨by decide, by decide +kernel, by decide +kernel, by rfl, by decide +kernel, by decide +kernel⟩
theorem nameOk_dict : NameOk "dict" := ⟨by decide, by decide +kernel, by decide +kernel, by rfl, by decide +kernel, by decide +kernel⟩
theorem typeOk {d : D} (hd : d.thing = true) : TypeOk c d d.tyn := ⟨fun V s v r => r.tyIs hd, by
 cases d with
 | none => exact nameOk_none
 | bool => exact nameOk_bool
 | int => exact nameOk_int
 | str => exact nameOk_str
 | bytes => exact nameOk_bytes
 | list => exact nameOk_list
 | tuple => exact nameOk_tuple
 | dict => exact nameOk_dict
 | _ => cases hd⟩
theorem FnR.typeOf {d : D} (hd : d.thing = true) : FnR c n (.type "type") [d] (.val (.type d.tyn)) := .mk fun A V s vs hA hS rs => by
 replace rs := rs.o1
 (refine x12 rs ?_; clear rs; rintro _ rfl r)
 exact call_type_of (r.tyIs hd) (typeOk (c := c) hd).nm.nb ⟨.refl s, .val _⟩
theorem CmpR.isntTy {a b : String} : CmpR c .IsNot (.val (.type a)) (.val (.type b)) (decide (a ≠ b)) := fun A V s v₁ v₂ _ _ r₁ r₂ => by
 cases r₁.inv; cases r₂.inv
 refine wpAny_isNot_plain rfl ⟨.refl s, congrArg Value.bool ?_⟩
 by_cases h : a = b
 · subst h; simp
 · have : (Value.type a == Value.type b) = false := beq_eq_false_iff_ne.mpr fun q => h (by injection q)
   simp [h, this]
/- list(table), list(table.values()) -/
theorem pairs_of {kvs : List (List Nat × D)} : ∀ {es : List DictEntry}, RepD c V s kvs es -> ∃ kvv : List (Str × Value), Pairs (strKind c.prog c.w) es kvv /\ kvv.map (·.1) = kvs.map (fun p => S p.1) /\ RepL c V s (kvs.map (·.2)) (kvv.map (·.2)) := by
 induction kvs with
 | nil => intro es r; cases r; exact ⟨[], .nil, rfl, .nil⟩
 | cons p kvs ih =>
  intro es r
  cases r with
  | @cons k d t e _ _ hk hh r rs =>
   (refine x13 (ih rs) ?_; intro kvv h1 h2 h3)
   exact ⟨(S k, e.val) :: kvv, .cons (by erw [hk]; exact strKind_is c.prog c.w _ t) rfl h1, by simp [h2], .cons r h3⟩
theorem nodup_S {kvs : List (List Nat × D)} (h : (kvs.map (·.1)).Nodup) : (kvs.map fun p => S p.1).Nodup := by
 induction kvs with
 | nil => exact .nil
 | cons x l ih =>
  rw [List.map_cons, List.nodup_cons] at h ⊢
  refine ⟨fun q => ?_, ih h.2⟩
  (refine x12 (List.mem_map.mp q) ?_; intro y hy e)
  exact h.1 (List.mem_map.mpr ⟨y, hy, S_inj e⟩)
inductive DictO (c : Cx) (V : Addr -> Prop) (s : Shared) (kvs : List (List Nat × D)) (v : Value) : Prop
 | mk (a : Addr) (kvv : List (Str × Value)) (ep : Nat) (e : v = .ref a) (hsm : (a == sysModules) = false) (h : s.heap.DictAt (strKind c.prog c.w) a kvv ep) (hk : kvv.map (·.1) = kvs.map (fun p => S p.1)) (hr : RepL c V s (kvs.map (·.2)) (kvv.map (·.2))) : DictO c V s kvs v
theorem Rep.dictO {kvs : List (List Nat × D)} {v : Value} (hnd : (kvs.map (·.1)).Nodup) (r : Rep c V s (.dict kvs) v) : DictO c V s kvs v := by
 replace r := r.inv
 obtain ⟨a, o, es, nn, rfl, na, hsm, ho, hx, hdt, r⟩ := r
 (refine x13 (pairs_of r) ?_; intro kvv h1 h2 h3)
 exact ⟨a, kvv, nn, rfl, hsm, ⟨_, _, ho, hx, hdt, fun e he => r.keys e (Array.mem_toList_iff.mpr he), h1, h2 ▸ nodup_S hnd⟩, h2, h3⟩
theorem repL_keys {l : List (List Nat)} : ∀ {vs : List Value}, vs.length = l.length -> (∀ (i : Nat) (v : Value), vs[i]? = some v -> ∃ x, l[i]? = some x /\ ∃ t, v = .str (S x) t) -> RepL c V s (l.map sd) vs := by
 induction l with
 | nil => intro vs hl _; cases vs with | nil => exact .nil | cons => simp at hl
 | cons x l ih =>
  intro vs hl h
  cases vs with
  | nil => simp at hl
  | cons v vs =>
   obtain ⟨y, e, t, rfl⟩ := h 0 v rfl
   cases e
   exact .cons (.str _ _) (ih (by simpa using hl) fun i v q => h (i + 1) v q)
theorem FnR.listD {kvs : List (List Nat × D)} (hnd : (kvs.map (·.1)).Nodup) (hz : kvs.length <= 1000) (hn : c.hn := by assumption) : FnR c n (.type "list") [.dict kvs] (.list (kvs.map fun p => sd p.1)) := .mk fun A V s vs hA hS rs => by
 replace rs := rs.o1
 (refine x12 rs ?_; clear rs; rintro _ rfl r)
 obtain ⟨a, kvv, ep, rfl, hsm, h, hk, hr⟩ := r.dictO hnd
 have hlen : kvv.length = kvs.length := by have := congrArg List.length hk; simpa using this
 refine wp_end (kdl_call (kdl_dict hsm) (hA.handled hn) h (by rw [sizeLine_eq]; omega) fun h' tk acc' c' hk0 hS' hacc => ⟨hk0, rfl, rfl, fun _ => ?_⟩)
 refine .list hS.new hS' rfl ⟨rfl, rfl⟩ rfl ?_
 have : kvs.map (fun p => sd p.1) = (kvs.map (·.1)).map sd := by rw [List.map_map]; rfl
 erw [this]
 refine repL_keys (by rw [Array.length_toList, hacc.1, hlen, List.length_map]) fun i v q => ?_
 (refine x22 (hacc.2 i v (by rw [<- Array.getElem?_toList]; exact q)) ?_; intro kk x e1 e2)
 have e3 : (kvv.map (·.1))[i]? = some kk := by erw [List.getElem?_map, e1]; rfl
 rw [hk, List.getElem?_map] at e3
 cases e4 : kvs[i]? with
 | none => rw [e4] at e3; cases e3
 | some p =>
  rw [e4] at e3
  cases e3
  refine ⟨p.1, by erw [List.getElem?_map, e4]; rfl, ?_⟩
  cases v <;> first | (cases e2; done) | skip
  rename_i y t
  exact ⟨t, by
   have := (strKind c.prog c.w).inj (.str y t) y (S p.1) (strKind_is c.prog c.w y t) e2
   rw [this]⟩
end
end
section
section
variable {c : Cx} {n : Nat} {sc : Scope} {k : Bool} {ρ : Sto}
theorem Ev.listVals {o : Expr} {p1 apos ip pos : Pos} {kvs : List (List Nat × D)} (hb : c.mg (oS "list") = Option.none /\ c.mb (oS "list") = some (.type "list")) (ho : Ev c n sc true ρ o (.dict kvs)) (hnd : (kvs.map (·.1)).Nodup) (hz : kvs.length <= 1000)
 (hg : sc.names.lookup (oS "list") = some .globalImplicit := by rfl) (hline : (apos.endLine == ip.line) = true := by rfl) (hbase : ∀ env : Env, attributeBase o (oS "values") env (PySem.eval o env) = PySem.eval o env := by intro _; rfl)
 (he : ∀ env : Env, PySem.eval (.Call (.Name (oS "list") p1) [.Call (.Attribute o (oS "values") apos) [] [] ip] [] pos) env = (do callWith pos (<- PySem.eval (.Name (oS "list") p1) env) [] (backTo pos (starEach [.Call (.Attribute o (oS "values") apos) [] [] ip] env)) (backToKw pos (keywordEach [] env))) := by intro _; rfl)
 (hn : c.hn := by assumption) :
 Ev c n sc k ρ (.Call (.Name (oS "list") p1) [.Call (.Attribute o (oS "values") apos) [] [] ip] [] pos) (.list (kvs.map (·.2))) :=
 Ev.weak <| .mk fun A env V0 h0 Cs X s hA F => by
  rw [he]
  refine wB (wM ((Ev.blt (c := c) (n := n) (sc := sc) (k := true) (ρ := ρ) (pos := p1) hb.1 hb.2 hg).run A env V0 h0 Cs X s hA F) (fun v s₁ q₁ => ?_) fun _ _ q => q)
  refine hideG fun G KG => ?_
  obtain ⟨g₁, r₁⟩ := q₁
  cases r₁.inv
  refine KG ?_
  refine (Callee.type (c := c) "list").wp rfl (wI ?_ (starEach_cons rfl))
  refine wpAny_Call_method (hbase env) rfl hline PySem.F.plainAttrs_dict PySem.F.slot_dict_values PySem.F.type_dict_values (wM (ho.run A env V0 h0 Cs X s₁ hA (F.gr g₁)) (fun v s2 q₂ => ?_) fun _ _ q => q)
  refine hideG fun G KG => ?_
  obtain ⟨g₂, r₂⟩ := q₂
  have ht := r₂.typeIs (T := "dict") rfl
  obtain ⟨a, kvv, ep, rfl, hsys, hD, hk, hr⟩ := r₂.dictO hnd
  have F₂ := (F.gr g₁).gr g₂
  refine KG ?_
  refine ⟨ht.1, ht.2, (Callee.builtin (c := c) "dict.values").wp rfl (wN ⟨F₂.base.trans F₂.keep, ?_⟩)⟩
  refine call_meetsIn PySem.F.slot_dict_values hD.dictOf.typeIs PySem.F.entry_dict_values (PySem.F.args_dict_values_1 _) (meets_dict_values (strKind c.prog c.w) a hsys) ⟨⟨kvv, hD.dictOf⟩, ?_⟩
  show wpAny _ _ _ _ _ _
  have g₃ := Gr.push (s := s2) { cls := .type "dict_values", data := .fields #[.ref a] }
  have F₃ := F₂.gr g₃
  refine wN ⟨F₃.base.trans F₃.keep, ?_⟩
  refine wp_gr ((g₁.trans g₂).trans g₃) (wp_end ?_)
  have hlen : kvv.length = kvs.length := by have := congrArg List.length hk; simpa using this
  have hS3 := (F.st true).gr ((g₁.trans g₂).trans g₃)
  refine kdl_call (kdl_values (knd := strKind c.prog c.w) (kvs := kvv) (ep := ep) (d := a) (r := s2.heap.objs.size)) (hA.handled hn) ⟨⟨_, Heap.get?_push_size _ rfl, rfl, rfl⟩, hD.push _⟩ (by rw [sizeLine_eq]; omega) fun h' tk acc' c' hk0 hS' hacc => ⟨hk0, rfl, rfl, fun ht => ?_⟩
  refine .list hS3.new hS' rfl ⟨rfl, rfl⟩ rfl ?_
  have e := kdl_vals_eq (kvs := kvv) acc'.toList (by rw [Array.length_toList]; exact hacc.1) fun j v q => hacc.2 j v (by rw [<- Array.getElem?_toList]; exact q)
  erw [e]
  exact (hr.gr g₃).gr (s' := { s2 with heap := h', toks := tk }) ⟨hk0, ht, .rfl, rfl⟩
theorem range_size {a b : Nat} (hab : a <= b) : Builtin.Range.rangeSize (a : Int) (b : Int) 1 = ((b - a : Nat) : Int) := by
 rw [rangeSize_one]; split <;> omega
theorem range_small {a b : Nat} (hab : a <= b) (h : b <= 16777216) : Builtin.Range.small (a : Int) (b : Int) 1 = true := by
 have h2 : ∀ i : Int, -1 <= i -> i <= 16777217 -> Builtin.Range.rangeFitsLong i = true := fun i a b => by
  unfold Builtin.Range.rangeFitsLong
  simp; omega
 unfold Builtin.Range.small
 rw [range_size hab, h2 a (by omega) (by omega), h2 b (by omega) (by omega), h2 1 (by omega) (by omega)]
 simp only [Bool.and_self, Bool.true_and]
 rw [if_pos (by omega), h2 _ (by omega) (by omega)]
 simp
 exact .inr (h2 _ (by omega) (by omega))
theorem IterR.rangeN {a b : Nat} (hab : a <= b) (h : b <= 16777216) : IterR c (.range a b 1) ((List.range (b - a)).map fun k : Nat => D.int (a + k)) := fun A V s v _ hS r => by
 obtain ⟨_, _, _, _, rfl, na, hr⟩ := r.inv
 refine wpAny_pyIter_range hr (range_small hab h) ⟨.push _, _, rfl, get_size _, ?_⟩
 have e := ItAt.range (c := c) (V := V) (s := { s with heap := s.heap.push { cls := .type "range_iterator", data := .fields #[rawInt a, rawInt (Builtin.Range.rangeSize (a : Int) (b : Int) 1), rawInt 1] } }) (Heap.get?_push_size s.heap rfl)
 have q : (List.range (Builtin.Range.rangeSize (a : Int) (b : Int) 1).toNat).map (fun k : Nat => D.int ((a : Int) + k * 1)) = (List.range (b - a)).map fun k : Nat => D.int (a + k) := by
  rw [range_size hab, Int.toNat_natCast]
  exact List.map_congr_left fun k _ => by congr 1; omega
 erw [<- q]; exact e
theorem IterR.range0 {b : Nat} (h : b <= 16777216) : IterR c (.range 0 b 1) ((List.range b).map fun k : Nat => D.int k) := by
 have := IterR.rangeN (c := c) (a := 0) (Nat.zero_le b) h
 have e : (List.range (b - 0)).map (fun k : Nat => D.int (((0 : Nat) : Int) + k)) = (List.range b).map fun k : Nat => D.int k := List.map_congr_left fun k _ => by congr 1; omega
 erw [<- e]; exact this
theorem strsAt {V : Addr -> Prop} {s : Shared} {ls : List (List Nat)} : ∀ {vs : List Value}, RepL c V s (ls.map sd) vs -> ∀ j (h1 : j < ls.length) (h2 : j < vs.length), ∃ t, vs[j] = .str (S ls[j]) t := by
 induction ls with
 | nil => intro vs r j h1; cases h1
 | cons x ls ih =>
  intro vs r j h1 h2
  cases r with
  | cons r rs =>
   cases j with
   | zero => obtain ⟨t, rfl⟩ := r.inv; exact ⟨t, rfl⟩
   | succ j => exact ih rs j (Nat.lt_of_succ_lt_succ h1) (Nat.lt_of_succ_lt_succ h2)
theorem all_eq {a b : List (List Nat)} (h : a.length = b.length) : (List.range a.length).all (fun j => decide (a.getD j [] = b.getD j [])) = decide (a = b) := by
 rw [Bool.eq_iff_iff, decide_eq_true_eq, List.all_eq_true]
 constructor
 · intro q
   refine List.ext_getElem h fun j h1 h2 => ?_
   have := q j (List.mem_range.mpr h1)
   rw [decide_eq_true_eq, List.getD_eq_getElem?_getD, List.getD_eq_getElem?_getD, List.getElem?_eq_getElem h1, List.getElem?_eq_getElem h2] at this
   exact this
 · rintro rfl j _; simp
theorem eqLS_aux {a b : List (List Nat)} {A : Around} {V : Addr -> Prop} {s : Shared} {v₁ v₂ : Value} (hA : Room c 0 A) (r₁ : Rep c V s (.list (a.map sd)) v₁) (r₂ : Rep c V s (.list (b.map sd)) v₂) :
 SeqAt.RcAt A s v₁ v₂ (decide (a = b)) := by
 replace r₁ := r₁.inv
 replace r₂ := r₂.inv
 obtain ⟨x, o, vs, nn, rfl, na, ho, hcl, hd, hdt, r₁⟩ := r₁
 obtain ⟨y, o2, ws, nn2, rfl, na2, ho2, hcl2, hd2, hdt2, r₂⟩ := r₂
 have l1 := r₁.length
 have l2 := r₂.length
 simp only [Array.length_toList, List.length_map] at l1 l2
 have i1 : s.heap.IsList x vs := ⟨o, ho, hcl, nn, hdt⟩
 have i2 : s.heap.IsList y ws := ⟨o2, ho2, hcl2, nn2, hdt2⟩
 by_cases h : a.length = b.length
 · have hsz : vs.size = ws.size := by omega
   have he : ∀ j (h1 : j < vs.size) (h2 : j < ws.size), SeqAt.EqAt A.in1 s vs[j] ws[j] (decide (a.getD j [] = b.getD j [])) := fun j h1 h2 => by
    obtain ⟨t, e1⟩ := strsAt r₁ j (by omega) (by simpa using h1)
    obtain ⟨u, e2⟩ := strsAt r₂ j (by omega) (by simpa using h2)
    rw [Array.getElem_toList] at e1 e2
    erw [e1, e2]
    have e3 := SeqAt.EqAt.str_str (A := A.in1) (s := s) (S a[j]) t (S b[j]) u
    rw [S_beq] at e3
    have g1 : a.getD j [] = a[j] := by rw [List.getD_eq_getElem?_getD, List.getElem?_eq_getElem (by omega)]; rfl
    have g2 : b.getD j [] = b[j] := by rw [List.getD_eq_getElem?_getD, List.getElem?_eq_getElem (by omega)]; rfl
    erw [g1, g2]; exact e3
   have h1 := SeqAt.RcAt.lists i1 i2 hsz hA.below he
   rw [<- l1, all_eq h] at h1
   exact h1
 · have hne : (vs.size != ws.size) = true := by simp; omega
   have h1 := SeqAt.RcAt.lists_lengths i1 i2 hne hA.below
   have : decide (a = b) = false := decide_eq_false fun q => h (by rw [q])
   erw [this]; exact h1
theorem CmpR.eqLS {a b : List (List Nat)} : CmpR c .Eq (.list (a.map sd)) (.list (b.map sd)) (decide (a = b)) := fun A V s v₁ v₂ hA _ r₁ r₂ =>
 eqLS_aux hA r₁ r₂ c.prog c.w _ _ ⟨.refl s, rfl⟩
theorem Ev.and2 {e₁ e₂ : Expr} {pos : Pos} {a b : Bool} (h1 : Ev c n sc true ρ e₁ (.bool a)) (h2 : a = true -> Ev c n sc true ρ e₂ (.bool b)) : Ev c n sc k ρ (.BoolOp .And [e₁, e₂] pos) (.bool (a && b)) := Ev.weak <| .mk fun A env V0 h0 Cs X s hA F => by
 refine BoolOp_and (wM (h1.run A env V0 h0 Cs X s hA F) (fun v s₁ q₁ => ?_) fun _ _ q => q)
 obtain ⟨g₁, r₁⟩ := q₁
 refine wM (TruR.bool A _ s₁ v hA.zero ((F.st true).gr g₁) r₁) (fun t s2 q₂ => ?_) fun _ _ q => q
 obtain ⟨g₂, rfl⟩ := q₂
 cases t with
 | false => exact ⟨g₁.trans g₂, r₁.gr g₂⟩
 | true =>
  refine BoolOp_one (wM ((h2 rfl).run A env V0 h0 Cs X s2 hA (F.gr (g₁.trans g₂))) (fun v s₃ q₃ => ?_) fun _ _ q => q)
  exact ⟨(g₁.trans g₂).trans q₃.1, q₃.2⟩
end
end
section
noncomputable def eqN : D -> Bool
 | .none => true
 | _ => false
noncomputable def eqB (a : Bool) : D -> Bool
 | .bool b => a == b
 | _ => false
noncomputable def eqI (a : Int) : D -> Bool
 | .int b => decide (a = b)
 | _ => false
noncomputable def eqT (a : Str) : D -> Bool
 | .str b => a == b
 | _ => false
noncomputable def eqY (a : List Nat) : D -> Bool
 | .bytes b => decide (a = b)
 | _ => false
noncomputable def eqL (f : List D -> Bool) : D -> Bool
 | .list b => f b
 | _ => false
noncomputable def eqU (f : List D -> Bool) : D -> Bool
 | .tuple b => f b
 | _ => false
noncomputable def eqD (f : List (List Nat × D) -> Bool) : D -> Bool
 | .dict b => f b
 | _ => false
noncomputable def samF : Nat -> D -> D -> Bool
 | 0, _, _ => false
 | k + 1, d, e => match d with
  | .none => eqN e
  | .bool a => eqB a e
  | .int a => eqI a e
  | .str a => eqT a e
  | .bytes a => eqY a e
  | .list a => eqL (fun b => decide (a.length = b.length) && ((List.range a.length).all fun i => samF k (a.getD i .none) (b.getD i .none))) e
  | .tuple a => eqU (fun b => decide (a.length = b.length) && ((List.range a.length).all fun i => samF k (a.getD i .none) (b.getD i .none))) e
  | .dict a => eqD (fun b => decide (a.map (·.1) = b.map (·.1)) && samF k (.list (a.map (·.2))) (.list (b.map (·.2)))) e
  | _ => false
inductive SameK : D -> D -> Prop
 | none : SameK .none .none
 | bool (a b) : SameK (.bool a) (.bool b)
 | int (a b) : SameK (.int a) (.int b)
 | str (a b) : SameK (.str a) (.str b)
 | bytes (a b) : SameK (.bytes a) (.bytes b)
 | list (a b) : SameK (.list a) (.list b)
 | tuple (a b) : SameK (.tuple a) (.tuple b)
 | dict (a b) : SameK (.dict a) (.dict b)
theorem eqN_k {e : D} (h : eqN e = true) : SameK .none e := by cases e <;> first | exact .none | exact absurd h Bool.false_ne_true
theorem eqB_k {a : Bool} {e : D} (h : eqB a e = true) : SameK (.bool a) e := by cases e <;> first | exact .bool _ _ | exact absurd h Bool.false_ne_true
theorem eqI_k {a : Int} {e : D} (h : eqI a e = true) : SameK (.int a) e := by cases e <;> first | exact .int _ _ | exact absurd h Bool.false_ne_true
theorem eqT_k {a : Str} {e : D} (h : eqT a e = true) : SameK (.str a) e := by cases e <;> first | exact .str _ _ | exact absurd h Bool.false_ne_true
theorem eqY_k {a : List Nat} {e : D} (h : eqY a e = true) : SameK (.bytes a) e := by cases e <;> first | exact .bytes _ _ | exact absurd h Bool.false_ne_true
theorem eqL_k {a : List D} {f : List D -> Bool} {e : D} (h : eqL f e = true) : SameK (.list a) e := by cases e <;> first | exact .list _ _ | exact absurd h Bool.false_ne_true
theorem eqU_k {a : List D} {f : List D -> Bool} {e : D} (h : eqU f e = true) : SameK (.tuple a) e := by cases e <;> first | exact .tuple _ _ | exact absurd h Bool.false_ne_true
theorem eqD_k {a : List (List Nat × D)} {f : List (List Nat × D) -> Bool} {e : D} (h : eqD f e = true) : SameK (.dict a) e := by cases e <;> first | exact .dict _ _ | exact absurd h Bool.false_ne_true
theorem samF_kind {k : Nat} {d e : D} (h : samF (k + 1) d e = true) : SameK d e := by
 cases d with
 | none => exact eqN_k h
 | bool a => exact eqB_k h
 | int a => exact eqI_k h
 | str a => exact eqT_k h
 | bytes a => exact eqY_k h
 | list a => exact eqL_k h
 | tuple a => exact eqU_k h
 | dict a => exact eqD_k h
 | _ => cases h
theorem SameK.tyn {d e : D} (h : SameK d e) : d.tyn = e.tyn := by cases h <;> rfl
noncomputable def wS : Nat -> D -> Bool
 | 0, _ => false
 | _ + 1, .none => true
 | _ + 1, .bool _ => true
 | _ + 1, .int _ => true
 | _ + 1, .str _ => true
 | _ + 1, .bytes b => b.all fun x => decide (x < 256)
 | k + 1, .list ds => decide (ds.length <= 100) && ds.all (wS k)
 | k + 1, .tuple ds => decide (ds.length <= 100) && ds.all (wS k)
 | k + 1, .dict kvs => (decide (kvs.map (·.1)).Nodup && decide (kvs.length <= 100)) && wS k (.list (kvs.map (·.2)))
 | _ + 1, _ => false
theorem wS_thing {k : Nat} {d : D} (h : wS k d = true) : d.thing = true := by
 cases k with
 | zero => cases h
 | succ k => cases d <;> first | rfl | (cases h; done)
structure SB (c : Cx) : Prop where
 hn : c.hn
 ty : c.mg (oS "type") = none /\ c.mb (oS "type") = some (.type "type")
 isi : c.mg (oS "isinstance") = none /\ c.mb (oS "isinstance") = some (.builtin "isinstance")
 dict : c.mg (oS "dict") = none /\ c.mb (oS "dict") = some (.type "dict")
 list : c.mg (oS "list") = none /\ c.mb (oS "list") = some (.type "list")
 tuple : c.mg (oS "tuple") = none /\ c.mb (oS "tuple") = some (.type "tuple")
 len : c.mg (oS "len") = none /\ c.mb (oS "len") = some (.builtin "len")
 range : c.mg (oS "range") = none /\ c.mb (oS "range") = some (.type "range")
 hd : IsDef c 208 (sc09 16) ["one", "other"] (bd09 16)
 g : c.mg (oS "_law_same") = some (.ref 208)
section
variable {c : Cx} {n : Nat}
theorem getD_get {ds : List D} {i : Nat} (h : i < ds.length) : ds[i]? = some (ds.getD i .none) := by
 erw [List.getD_eq_getElem?_getD, List.getElem?_eq_getElem h]; rfl
theorem all_getD {P : D -> Bool} {ds : List D} (h : ds.all P = true) {i : Nat} (hi : i < ds.length) : P (ds.getD i .none) = true := by
 have := List.all_eq_true.mp h ds[i] (List.getElem_mem hi)
 rwa [List.getD_eq_getElem?_getD, List.getElem?_eq_getElem hi]
theorem filter_none {m : Nat} (p : Nat -> Bool) : (((List.range m).filter fun k => !p k).map fun k : Nat => D.int k).isEmpty = (List.range m).all p := by
 rw [List.isEmpty_map, Bool.eq_iff_iff, List.isEmpty_iff, List.filter_eq_nil_iff, List.all_eq_true]
 simp
theorem eqLS_keys {a b : List (List Nat × D)} : CmpR c .Eq (.list (a.map fun p => sd p.1)) (.list (b.map fun p => sd p.1)) (decide (a.map (·.1) = b.map (·.1))) := by
 have e : ∀ l : List (List Nat × D), l.map (fun p => sd p.1) = (l.map (·.1)).map sd := fun l => by rw [List.map_map]; rfl
 rw [e, e]; exact .eqLS
theorem same_seq {k : Nat} {mk : List D -> D} {a b : List D} (B : SB c) (hz : a.length <= 100) (hzb : b.length <= 100)
 (hlen : ∀ {ds : List D} {m : Nat}, ds.length <= 100 -> FnR c m (.builtin "len") [mk ds] (.int ds.length))
 (hsub : ∀ {sc : Scope} {ρ : Sto} {x y : String} {ds : List D} {i : Nat} {p1 p2 p3 : Pos}, ds.length <= 100 -> i < ds.length -> Ev c (n + 1) sc true ρ (.Name (oS x) p1) (mk ds) -> Ev c (n + 1) sc true ρ (.Name (oS y) p2) (.int i) -> Ev c (n + 1) sc true ρ (.Subscript (.Name (oS x) p1) (.Name (oS y) p2) p3) (ds.getD i .none))
 (hth : ∀ ds, (mk ds).thing = true) (hty : ∀ ds, (mk ds).tyn = (mk []).tyn) (h1 : kitOne [] (.type (mk []).tyn) (.type "dict") = some false) (h2 : kitAny [] (.type (mk []).tyn) (["list", "tuple"].map .type) = some true)
 (ih : ∀ i, i < a.length -> i < b.length -> FnR c (n + 1) (.ref 208) [a.getD i .none, b.getD i .none] (.bool (samF k (a.getD i .none) (b.getD i .none)))) :
 FnR c (n + 2) (.ref 208) [mk a, mk b] (.bool (decide (a.length = b.length) && ((List.range a.length).all fun i => samF k (a.getD i .none) (b.getD i .none)))) := by
 have hn := B.hn
 refine FnR.of B.hd rfl ?_
 refine .step (.ite (b := false) (.to (.cmp (.call (.blt B.ty.1 B.ty.2) (.type _) (.cons (.name rfl) .nil) (.typeOf (hth _))) (.call (.blt B.ty.1 B.ty.2) (.type _) (.cons (.name rfl) .nil) (.typeOf (hth _))) .isntTy) (by rw [hty a, hty b]; simp)) (fun q => nomatch q) (fun _ => .nil ⟨rfl, rfl⟩)) ?_
 refine .step (.ite (b := false) (.bin (.call (.blt B.isi.1 B.isi.2) (.builtin _) (.cons (.name rfl) (.cons (.blt B.dict.1 B.dict.2) .nil)) (.isi (hth _) (by rw [hty]; exact h1)))) (fun q => nomatch q) (fun _ => .nil ⟨rfl, rfl⟩)) ?_
 refine .cons (P1 := fun af _ => af = .ret (.bool (decide (a.length = b.length) && ((List.range a.length).all fun i => samF k (a.getD i .none) (b.getD i .none))))) (.ite (b := true) (.bin (.call (.blt B.isi.1 B.isi.2) (.builtin _) (.cons (.name rfl) (.cons (.tuple (ds := ["list", "tuple"].map fun T => .val (.type T)) (.cons (.blt B.list.1 B.list.2) (.cons (.blt B.tuple.1 B.tuple.2) .nil)) (by decide)) .nil)) (.isiT (hth _) (by rw [hty]; exact h2)))) (fun _ => .last (.ret (.and2 (a := decide (a.length = b.length)) (b := (List.range a.length).all fun i => samF k (a.getD i .none) (b.getD i .none)) ?_ fun he => ?_) rfl)) (fun q => nomatch q)) (fun _ q => nomatch q) (fun _ _ _ q => q)
 · refine .to (.cmp (.call (.blt B.len.1 B.len.2) (.builtin _) (.cons (.name rfl) .nil) (hlen hz)) (.call (.blt B.len.1 B.len.2) (.builtin _) (.cons (.name rfl) .nil) (hlen hzb)) .eqI) ?_
   rw [D.bool.injEq, Bool.eq_iff_iff, decide_eq_true_eq, decide_eq_true_eq]; omega
 · have hl : a.length = b.length := of_decide_eq_true he
   refine .to (.cmp (d₂ := .list []) (.compF (g := fun k : Nat => D.int k) (ds := List.range a.length) (d₀ := .range 0 (a.length : Nat) 1) (fun i => !samF k (a.getD i .none) (b.getD i .none)) (fun k => .int k) [("one", .val (mk a)), ("other", .val (mk b))]
    (.call (.blt B.range.1 B.range.2) (.type _) (.cons (.call (.blt B.len.1 B.len.2) (.builtin _) (.cons (.name rfl) .nil) (hlen hz)) .nil) .range1) (IterR.range0 (by exact lt4 (by assumption) rfl)) (Capt.of (.cons rfl rfl (by decide) (.cons rfl rfl (by decide) .nil)) rfl) (by simp; exact lt4 (by assumption) rfl) (fun i hi => ?_)) (.list .nil (by decide)) .eqNil) ?_
   · have hi' := List.mem_range.mp hi
     have hib : i < b.length := by omega
     refine ⟨_, .name (.inl rfl), .cons rfl (.cons rfl .nil), .not (.bin (.call (.glob B.g) B.hd.callee (.cons (.weak (hsub hz hi' (.name (x := "one") rfl) (.name (x := "k") rfl))) (.cons (.weak (hsub hzb hib (.name (x := "other") rfl) (.name (x := "k") rfl))) .nil)) (ih i hi' hib))), fun _ => .name rfl⟩
   · exact congrArg D.bool (filter_none fun i => samF k (a.getD i .none) (b.getD i .none))
end
end
section
section
variable {c : Cx} {n : Nat}
theorem same_diff {d e : D} (B : SB c) (hd : d.thing = true) (he : e.thing = true) (h : d.tyn ≠ e.tyn) : FnR c (n + 1) (.ref 208) [d, e] (.bool false) := by
 have hn := B.hn
 refine FnR.of B.hd rfl ?_
 exact .cons (P1 := fun af _ => af = .ret (.bool false)) (.ite (b := true) (.to (.cmp (.call (.blt B.ty.1 B.ty.2) (.type _) (.cons (.name rfl) .nil) (.typeOf hd)) (.call (.blt B.ty.1 B.ty.2) (.type _) (.cons (.name rfl) .nil) (.typeOf he)) .isntTy) (by simpa using h)) (fun _ => .last (.ret .bool rfl)) (fun q => nomatch q)) (fun _ q => nomatch q) (fun _ _ _ q => q)
theorem same_flat {d e : D} {b : Bool} (B : SB c) (hd : d.thing = true) (he : e.thing = true) (h : d.tyn = e.tyn) (h1 : kitOne [] (.type d.tyn) (.type "dict") = some false) (h2 : kitAny [] (.type d.tyn) (["list", "tuple"].map .type) = some false) (hc : CmpR c .Eq d e b) : FnR c (n + 1) (.ref 208) [d, e] (.bool b) := by
 have hn := B.hn
 refine FnR.of B.hd rfl ?_
 refine .step (.ite (b := false) (.to (.cmp (.call (.blt B.ty.1 B.ty.2) (.type _) (.cons (.name rfl) .nil) (.typeOf hd)) (.call (.blt B.ty.1 B.ty.2) (.type _) (.cons (.name rfl) .nil) (.typeOf he)) .isntTy) (by simpa using h)) (fun q => nomatch q) (fun _ => .nil ⟨rfl, rfl⟩)) ?_
 refine .step (.ite (b := false) (.bin (.call (.blt B.isi.1 B.isi.2) (.builtin _) (.cons (.name rfl) (.cons (.blt B.dict.1 B.dict.2) .nil)) (.isi hd h1))) (fun q => nomatch q) (fun _ => .nil ⟨rfl, rfl⟩)) ?_
 refine .step (.ite (b := false) (.bin (.call (.blt B.isi.1 B.isi.2) (.builtin _) (.cons (.name rfl) (.cons (.tuple (ds := ["list", "tuple"].map fun T => .val (.type T)) (.cons (.blt B.list.1 B.list.2) (.cons (.blt B.tuple.1 B.tuple.2) .nil)) (by decide)) .nil)) (.isiT hd h2))) (fun q => nomatch q) (fun _ => .nil ⟨rfl, rfl⟩)) ?_
 exact .last (.ret (.cmp (.name rfl) (.name rfl) hc) rfl)
theorem same_dict {k : Nat} {a b : List (List Nat × D)} (B : SB c) (ha : (a.map (·.1)).Nodup /\ a.length <= 100) (hb : (b.map (·.1)).Nodup /\ b.length <= 100)
 (ih : FnR c n (.ref 208) [.list (a.map (·.2)), .list (b.map (·.2))] (.bool (samF k (.list (a.map (·.2))) (.list (b.map (·.2)))))) :
 FnR c (n + 1) (.ref 208) [.dict a, .dict b] (.bool (decide (a.map (·.1) = b.map (·.1)) && samF k (.list (a.map (·.2))) (.list (b.map (·.2))))) := by
 have hn := B.hn
 refine FnR.of B.hd rfl ?_
 refine .step (.ite (b := false) (.to (.cmp (.call (.blt B.ty.1 B.ty.2) (.type _) (.cons (.name rfl) .nil) (.typeOf rfl)) (.call (.blt B.ty.1 B.ty.2) (.type _) (.cons (.name rfl) .nil) (.typeOf rfl)) .isntTy) (by simp [D.tyn])) (fun q => nomatch q) (fun _ => .nil ⟨rfl, rfl⟩)) ?_
 refine .cons (P1 := fun af _ => af = .ret (.bool (decide (a.map (·.1) = b.map (·.1)) && samF k (.list (a.map (·.2))) (.list (b.map (·.2)))))) (.ite (b := true) (.bin (.call (.blt B.isi.1 B.isi.2) (.builtin _) (.cons (.name rfl) (.cons (.blt B.dict.1 B.dict.2) .nil)) (.isi rfl rfl))) (fun _ => .last (.ret (.and2 ?_ fun _ => ?_) rfl)) (fun q => nomatch q)) (fun _ q => nomatch q) (fun _ _ _ q => q)
 · exact .cmp (.call (.blt B.list.1 B.list.2) (.type _) (.cons (.name rfl) .nil) (.listD ha.1 (by omega))) (.call (.blt B.list.1 B.list.2) (.type _) (.cons (.name rfl) .nil) (.listD hb.1 (by omega))) eqLS_keys
 · exact .call (.glob B.g) B.hd.callee (.cons (.listVals B.list (.name rfl) ha.1 (by omega)) (.cons (.listVals B.list (.name rfl) hb.1 (by omega)) .nil)) ih
theorem FnR.lenT {ds : List D} (h : ds.length <= 16777216) : FnR c n (.builtin "len") [.tuple ds] (.int ds.length) := .mk fun A V s vs _ _ r => by
 replace r := r.o1
 (refine x12 r ?_; clear r; rintro _ rfl r)
 replace r := r.inv
 obtain ⟨a, o, vs, nn, rfl, na, ho, hcl, hd, hdt, r⟩ := r
 have hl := r.length
 simp only [Array.length_toList] at hl
 refine wp_end (len_tuple ⟨o, ho, hcl, nn, hdt⟩ (by omega) ⟨fun _ _ e => e, rfl, rfl, fun _ => ?_⟩)
 erw [hl]; exact .int _ _
theorem wS_list {k : Nat} {ds : List D} (h : (decide (ds.length <= 100) && ds.all (wS k)) = true) : ds.length <= 100 /\ ∀ i, i < ds.length -> wS k (ds.getD i .none) = true :=
 have q := (Bool.and_eq_true _ _).mp h
 ⟨of_decide_eq_true q.1, fun i hi => all_getD q.2 hi⟩
theorem sameK_of {k : Nat} {d e : D} (h1 : wS (k + 1) d = true) (h2 : wS (k + 1) e = true) (ht : d.tyn = e.tyn) : SameK d e := by
 cases d <;> first | exact absurd h1 Bool.false_ne_true | (cases e <;> first | exact absurd h2 Bool.false_ne_true | constructor | exact absurd ht (of_decide_eq_false (by kernel_rfl)))
theorem same_fn (B : SB c) (k : Nat) : ∀ {d e : D}, wS k d = true -> wS k e = true -> FnR c (n + k + 1) (.ref 208) [d, e] (.bool (samF k d e)) := by
 induction k with
 | zero => intro d e h; cases h
 | succ k ih =>
  intro d e h1 h2
  have hn := B.hn
  by_cases ht : d.tyn = e.tyn
  · have hk := sameK_of h1 h2 ht
    cases hk with
    | none => exact same_flat B rfl rfl rfl rfl rfl .eqNone
    | bool a b => exact same_flat B rfl rfl rfl rfl rfl .eqBool
    | int a b => exact same_flat B rfl rfl rfl rfl rfl .eqI
    | str b a =>
     refine same_flat B rfl rfl rfl rfl rfl ?_
     have := CmpR.eqS (c := c) (a := b.cps.toList) (b := a.cps.toList)
     rw [show samF (k + 1) (.str b) (.str a) = decide (b.cps.toList = a.cps.toList) from ?_]
     · unfold sd at this; rwa [<- S_of, <- S_of] at this
     · show (b == a) = _
       rw [<- S_beq, <- S_of, <- S_of]
    | bytes b a =>
     exact same_flat B rfl rfl rfl rfl rfl (.eqBytes (fun x hx => of_decide_eq_true (List.all_eq_true.mp h1 x hx)) fun x hx => of_decide_eq_true (List.all_eq_true.mp h2 x hx))
    | list a b =>
     have q1 := wS_list h1
     have q2 := wS_list h2
     exact same_seq (n := n + k) (mk := .list) B q1.1 q2.1 (fun h => .lenL (by exact lt4 (by assumption) rfl)) (fun hz hi h1 h2 => .subL h1 h2 (.list (by exact Int.natCast_nonneg _) (by rw [Int.toNat_natCast]; exact getD_get hi) (by omega)))
      (fun _ => rfl) (fun _ => rfl) rfl rfl fun i ha hb => ih (q1.2 i ha) (q2.2 i hb)
    | tuple a b =>
     have q1 := wS_list h1
     have q2 := wS_list h2
     exact same_seq (n := n + k) (mk := .tuple) B q1.1 q2.1 (fun h => .lenT (by exact lt4 (by assumption) rfl)) (fun {_ _ _ _ ds i _ _ _} hz hi h1 h2 => .subT h1 h2 (.tuple (j := i) (by unfold seqIndex?; simp; omega) (getD_get hi) (by omega) (by omega)))
      (fun _ => rfl) (fun _ => rfl) rfl rfl fun i ha hb => ih (q1.2 i ha) (q2.2 i hb)
    | dict a b =>
     have q1 := (Bool.and_eq_true _ _).mp h1
     have q2 := (Bool.and_eq_true _ _).mp h2
     have p1 := (Bool.and_eq_true _ _).mp q1.1
     have p2 := (Bool.and_eq_true _ _).mp q2.1
     exact same_dict B ⟨of_decide_eq_true p1.1, of_decide_eq_true p1.2⟩ ⟨of_decide_eq_true p2.1, of_decide_eq_true p2.2⟩ (ih q1.2 q2.2)
  · have e0 : samF (k + 1) d e = false := Bool.eq_false_iff.mpr fun q => ht (samF_kind q).tyn
    erw [e0]
    exact same_diff B (wS_thing h1) (wS_thing h2) ht
end
end
section
section
variable {c : Cx} {n : Nat} {sc : Scope} {k : Bool} {ρ : Sto} {P : AF -> Sto -> Prop}
theorem Ev.bytes {b : List Nat} {x : List UInt8} {kk : Nat} {pos : Pos} (hx : x = b.map UInt8.ofNat) : Ev c n sc k ρ (.Constant (.bytes x) kk pos) (.bytes b) := .mk fun A env V0 h0 Cs X s hA F => by
 subst hx
 exact wp_end (Constant_bytes ⟨fun _ _ e => e, rfl, rfl, fun _ => .bytes _ _⟩)
theorem ItemR.listNeg {ds : List D} {m : Nat} {d : D} (hm : 0 < m) (hl : m <= ds.length) (hd : ds[ds.length - m]? = some d) (hlo : m <= 1000) : ItemR c (.list ds) (.int (-(m : Int))) d := fun A V s v₁ v₂ hA hS r₁ r₂ => by
 obtain ⟨_, rfl⟩ := r₂.inv
 replace r₁ := r₁.inv
 obtain ⟨a, o, vs, nn, rfl, na, ho, hcl, hdc, hdt, r⟩ := r₁
 (refine x12 (r.get hd) ?_; intro v hv rv)
 have hlen : vs.size = ds.length := by have := r.length; simpa using this.symm
 refine wpAny_getItem_list_neg ⟨_, ho, hcl, _, hdt⟩ (by omega) (by omega) (by omega) (x := v) ?_ ⟨.refl s, rv⟩
 erw [show (-(m : Int) + (vs.size : Int)).toNat = ds.length - m by omega]
 simpa using hv
theorem FnR.tupleOf {ds : List D} (hz : ds.length <= 16777216) : FnR c n (.type "tuple") [.list ds] (.tuple ds) := .mk fun A V s vs hA hS r => by
 replace r := r.o1
 (refine x12 r ?_; clear r; rintro _ rfl r)
 replace r := r.inv
 obtain ⟨a, o, ws, nn, rfl, na, ho, hcl, hd, hdt, r⟩ := r
 have hl := r.length
 refine call_tuple_list ⟨o, ho, hcl, nn, hdt⟩ (fun h' hk => ?_) (by rw [sizeLine_eq]; simp at hl; omega)
 have g : Gr s { s with heap := h'.push { cls := .type "tuple", data := .seq ws } } := ⟨fun b ob e => Heap.get?_push_of_some _ (hk b ob e), Nat.le_refl _, .rfl, rfl⟩
 refine ⟨g, .tuple (fun q => ?_) (Heap.get?_push_size _ rfl) rfl ⟨rfl, rfl⟩ rfl (r.gr g)⟩
 obtain ⟨ob, e⟩ := hS.live _ q
 exact absurd (Heap.lt_size (hk _ _ e)) (Nat.lt_irrefl _)
noncomputable def itmL : List D := [.int 0, .bool false, .none, sd [], sd (cs "0"), .bytes [48], sd (cs "&"), .list [], .tuple [], .list [.int 0], .tuple [.int 0], .dict [(cs "a", .int 0)], .dict [(cs "a", .int 0), (cs "b", .int 1)], .dict [(cs "b", .int 1), (cs "a", .int 0)], sd (cs "'"), sd (cs "\"")]
noncomputable def sglL : List D := [.int 0, .bool false, .none, .bytes [], .int 1, .bool true, .int (-1), .bytes [48], .bytes [38], .int 10]
noncomputable def itm (y : Int) : D := itmL.getD (y.fmod 16).toNat .none
noncomputable def itms (y : Int) : List D := [itm (y.fdiv 3), itm (y.fdiv 48)].take (y.fmod 3).toNat
noncomputable def thD (x : Int) : D :=
 if x.fmod 5 = 0 then sglL.getD ((x.fdiv 5).fmod 10).toNat .none
 else if x.fmod 5 = 1 then .int ((x.fdiv 5).fmod 100 - 50)
 else if x.fmod 5 = 2 then .list (sd (cs "&") :: itms (x.fdiv 5))
 else if x.fmod 5 = 3 then .tuple (sd (cs "&") :: itms (x.fdiv 5))
 else if (x.fdiv 5).fmod 3 = 0 then .dict [(cs "&", .list [.int 0]), (cs "b", .list (itms (x.fdiv 5)))]
 else .dict [(cs "&", (itms (x.fdiv 5)).getD 0 .none), (cs "c", (itms (x.fdiv 5)).getD ((itms (x.fdiv 5)).length - 1) .none)]
structure TB (c : Cx) : Prop where
 hn : c.hn
 tuple : c.mg (oS "tuple") = none /\ c.mb (oS "tuple") = some (.type "tuple")
 hi : IsDef c 196 (sc09 14) ["y"] (bd09 14)
 gi : c.mg (oS "_law_item") = some (.ref 196)
 ht : IsDef c 203 (sc09 15) ["x"] (bd09 15)
theorem fmod_lt (y : Int) {m : Int} (h : 0 < m) : 0 <= y.fmod m /\ y.fmod m < m := ⟨Int.fmod_nonneg_of_pos y h, Int.fmod_lt_of_pos y h⟩
theorem item_fn (B : TB c) {y : Int} : FnR c (n + 1) (.ref 196) [.int y] (itm y) := by
 have hn := B.hn
 have hm := fmod_lt y (m := 16) (by decide)
 refine FnR.of B.hi rfl ?_
 refine .last (.ret (.subL (ds := itmL) (i := y.fmod 16) (.list ?_ (by decide)) (.bin (.name rfl) .int (.fmod (by decide))) (.list hm.1 (getD_get (by show _ < 16; omega)) (by omega))) rfl)
 refine .cons .int (.cons .bool (.cons .none (.cons .lit (.cons .lit (.cons (.bytes rfl) (.cons .lit (.cons (.list .nil (by decide)) (.cons (.tuple .nil (by decide)) (.cons (.list (.cons .int .nil) (by decide)) (.cons (.tuple (.cons .int .nil) (by decide)) ?_))))))))))
 refine .cons (.dict (.cons .lit .int .nil) (by simp) (by simp) (by simp)) (.cons (.dict (.cons .lit .int (.cons .lit .int .nil)) (by simp) (by simp) (by decide)) (.cons (.dict (.cons .lit .int (.cons .lit .int .nil)) (by simp) (by simp) (by decide)) (.cons .lit (.cons .lit .nil))))
end
end
section
section
variable {c : Cx} {n : Nat}
theorem itms_len (y : Int) : (itms y).length = (y.fmod 3).toNat := by
 have hm := fmod_lt y (m := 3) (by decide)
 unfold itms
 erw [List.length_take]
 show min _ 2 = _
 omega
theorem thing_fn (B : TB c) {x : Int} : FnR c (n + 2) (.ref 203) [.int x] (thD x) := by
 have hn := B.hn
 have hm := fmod_lt x (m := 5) (by decide)
 have h10 := fmod_lt (x.fdiv 5) (m := 10) (by decide)
 have h3 := fmod_lt (x.fdiv 5) (m := 3) (by decide)
 have hl := itms_len (x.fdiv 5)
 refine FnR.of B.ht rfl ?_
 refine .step (.assignW (ps := [("kind", .int (x.fmod 5)), ("y", .int (x.fdiv 5))]) (.tuple (.cons (.bin (.name rfl) .int (.fmod (by decide))) (.cons (.bin (.name rfl) .int (.fdiv (by decide) (by decide))) .nil)) (by show 2 <= sizeLine; decide)) rfl (by intro env he; obtain ⟨⟩ := env; cases he; rfl)) ?_
 refine .cons (P1 := fun af ρ' => (af = .ret (thD x) /\ x.fmod 5 = 0) \/ (af = .next /\ x.fmod 5 ≠ 0 /\ ρ' = _)) (.ite (.cmp (.name rfl) .int .eqI) (fun q => ?_) (fun q => .nil (.inr ⟨rfl, of_decide_eq_false q, rfl⟩))) (fun ρ' q => ?_) (fun af ρ' h q => ?_)
 · have q := of_decide_eq_true q
   refine .last (.ret (d := thD x) (.to (.subL (ds := sglL) (i := (x.fdiv 5).fmod 10) (.list ?_ (by decide)) (.bin (.name rfl) .int (.fmod (by decide))) (.list h10.1 (getD_get (by show _ < 10; omega)) (by omega))) ?_) (.inl ⟨rfl, q⟩))
   · exact .cons .int (.cons .bool (.cons .none (.cons (.bytes rfl) (.cons .int (.cons .bool (.cons (.neg .int) (.cons (.bytes rfl) (.cons (.bytes rfl) (.cons .int .nil)))))))))
   · unfold thD; rw [if_pos q]
 rotate_left
 · rcases q with q | q
   · exact q.1
   · exact absurd q.1 h
 rcases q with q | ⟨_, h0, rfl⟩
 · cases q.1
 refine .cons (P1 := fun af ρ' => (af = .ret (thD x) /\ x.fmod 5 = 1) \/ (af = .next /\ x.fmod 5 ≠ 1 /\ ρ' = _)) (.ite (.cmp (.name rfl) .int .eqI) (fun q => ?_) (fun q => .nil (.inr ⟨rfl, of_decide_eq_false q, rfl⟩))) (fun ρ' q => ?_) (fun af ρ' h q => ?_)
 · have q := of_decide_eq_true q
   refine .last (.ret (d := thD x) (.to (.bin (.bin (.name rfl) .int (.fmod (by decide))) .int .sub) ?_) (.inl ⟨rfl, q⟩))
   unfold thD; rw [if_neg h0, if_pos q]
 rotate_left
 · rcases q with q | q
   · exact q.1
   · exact absurd q.1 h
 rcases q with q | ⟨_, h1, rfl⟩
 · cases q.1
 refine .step (.assign (d := .list (itms (x.fdiv 5))) (.firstL (m := ((x.fdiv 5).fmod 3).toNat) (.list (.cons (.call (.glob B.gi) B.hi.callee (.cons (.bin (.name rfl) .int (.fdiv (by decide) (by decide))) .nil) (item_fn B)) (.cons (.call (.glob B.gi) B.hi.callee (.cons (.bin (.name rfl) .int (.fdiv (by decide) (by decide))) .nil) (item_fn B)) .nil)) (by show 2 <= sizeLine; decide)) (.to (.bin (.name rfl) .int (.fmod (by decide))) (by rw [Int.toNat_of_nonneg h3.1])) (by show 2 <= _; decide)) (.inl rfl)) ?_
 refine .cons (P1 := fun af ρ' => (af = .ret (thD x) /\ x.fmod 5 = 2) \/ (af = .next /\ x.fmod 5 ≠ 2 /\ ρ' = _)) (.ite (.cmp (.name rfl) .int .eqI) (fun q => ?_) (fun q => .nil (.inr ⟨rfl, of_decide_eq_false q, rfl⟩))) (fun ρ' q => ?_) (fun af ρ' h q => ?_)
 · have q := of_decide_eq_true q
   refine .last (.ret (d := thD x) (.to (.bin (.list (.cons .lit .nil) (by decide)) (.name rfl) (.catL (by simp; omega))) ?_) (.inl ⟨rfl, q⟩))
   unfold thD; erw [if_neg h0, if_neg h1, if_pos q]; rfl
 rotate_left
 · rcases q with q | q
   · exact q.1
   · exact absurd q.1 h
 rcases q with q | ⟨_, h2, rfl⟩
 · cases q.1
 refine .cons (P1 := fun af ρ' => (af = .ret (thD x) /\ x.fmod 5 = 3) \/ (af = .next /\ x.fmod 5 ≠ 3 /\ ρ' = _)) (.ite (.cmp (.name rfl) .int .eqI) (fun q => ?_) (fun q => .nil (.inr ⟨rfl, of_decide_eq_false q, rfl⟩))) (fun ρ' q => ?_) (fun af ρ' h q => ?_)
 · have q := of_decide_eq_true q
   refine .last (.ret (d := thD x) (.to (.bin (.tuple (.cons .lit .nil) (by decide)) (.call (.blt B.tuple.1 B.tuple.2) (.type _) (.cons (.name rfl) .nil) (.tupleOf (by omega))) (.catT (ds := []) (by simp; omega))) ?_) (.inl ⟨rfl, q⟩))
   unfold thD; erw [if_neg h0, if_neg h1, if_neg h2, if_pos q]; rfl
 rotate_left
 · rcases q with q | q
   · exact q.1
   · exact absurd q.1 h
 rcases q with q | ⟨_, h4, rfl⟩
 · cases q.1
 have e : thD x = if (x.fdiv 5).fmod 3 = 0 then .dict [(cs "&", .list [.int 0]), (cs "b", .list (itms (x.fdiv 5)))] else .dict [(cs "&", (itms (x.fdiv 5)).getD 0 .none), (cs "c", (itms (x.fdiv 5)).getD ((itms (x.fdiv 5)).length - 1) .none)] := by
  unfold thD; rw [if_neg h0, if_neg h1, if_neg h2, if_neg h4]
 refine .last (.ret (d := thD x) (.ite (.cmp (.bin (.name rfl) .int (.fmod (by decide))) .int .eqI) (fun q => ?_) (fun q => ?_)) rfl)
 · erw [e, if_pos (of_decide_eq_true q)]
   exact .dict (.cons .lit (.list (.cons .int .nil) (by decide)) (.cons .lit (.name rfl) .nil)) (by simp) (by simp) (by simp; decide)
 · have q := of_decide_eq_false q
   erw [e, if_neg q]
   have hpos : 0 < (itms (x.fdiv 5)).length := by omega
   exact .dict (.cons .lit (.subL (.name rfl) .int (.list (by decide) (getD_get hpos) (by decide))) (.cons .lit (.subL (i := -((1 : Nat) : Int)) (.name rfl) (.neg .int) (.listNeg (m := 1) (by decide) (by omega) (getD_get (by omega)) (by decide))) .nil)) (by simp) (by simp) (by simp; decide)
end
end
section
section
variable {prog : Program} {w : World} {A : Around} {R : GenEnd} {Y : Protocol} {n : Nat} {s₀ : Shared} {c : Code} {fs : List Frame} {s : Shared} {env : Env}
 {K : Flow -> Sem PySem.Fin} {H : Value -> Sem PySem.Fin} {gd : Bool -> Bool} {lv : List Value -> List Value}
theorem wrap_bind {α β : Type} (m : Sem α) (f : α -> Sem β) (K : β -> Sem PySem.Fin) (H : Value -> Sem PySem.Fin) (gd : Bool -> Bool) (lv : List Value -> List Value) : (m >>= f).wrap K H gd lv = m.wrap (fun a => (f a).wrap K H gd lv) H gd lv := by
 rw [Sem.bind_eq_wrap', Sem.wrap_wrap]
 exact Sem.wrap_congr _ _ _ (fun _ => rfl) (fun _ => rfl)
theorem seg_w {α β : Type} {m : Sem α} {f : α -> Sem β} {K : β -> Sem PySem.Fin} (h : wpAny (model prog w) (A.over c fs) m (fun a s' => Seg (model prog w) A R Y n s₀ c ((f a).wrap K H gd lv) fs s') NoE s) : Seg (model prog w) A R Y n s₀ c ((m >>= f).wrap K H gd lv) fs s := by
 rw [wrap_bind]
 exact seg_wrap (wM h (fun _ _ q => q) fun _ _ q => q.elim)
theorem seg_b {α : Type} {m : Sem α} {f : α -> Sem PySem.Fin} (h : wpAny (model prog w) (A.over c fs) m (fun a s' => Seg (model prog w) A R Y n s₀ c (f a) fs s') NoE s) : Seg (model prog w) A R Y n s₀ c (m >>= f) fs s :=
 seg_bind (wM h (fun _ _ q => q) fun _ _ q => q.elim)
noncomputable abbrev forBack (env : Env) (K : Flow -> Sem PySem.Fin) (H : Value -> Sem PySem.Fin) (gd : Bool -> Bool) (lv : List Value -> List Value) (r : Result) : Sem PySem.Fin :=
 ((match r with | .ok f => (.pure f : Sem Flow) | .error e => .raise e).onRaise fun (x : Value) => do
  if (<- field x 1) == Value.none then unsupported "frame.own-activation:exception-without-traceback"
  setFlight x env.frame).wrap K H gd lv
theorem seg_For {tgt iter : Expr} {body : List Stmt} {pos : Pos} (hs : ∀ x, foldedSetIterable iter env x = pure x)
 (h : wpAny (model prog w) (A.over c fs) (eval iter env) (fun x s₁ => wpAny (model prog w) (A.over c fs) (pyIter x) (fun it s2 => ∀ p, Seg (model prog w) A R Y n s₀ (.forLoop tgt it body [] env) ((model prog w).den (.forLoop tgt it body [] env)) (.ret (forBack env K H gd lv) none (gd false) (lv []) c p [] :: fs) s2) NoE s₁) NoE s) :
 Seg (model prog w) A R Y n s₀ c ((exec (.For tgt iter body [] pos) env).wrap K H gd lv) fs s := by
 rw [exec_For]
 refine seg_w (wZ ?_)
 refine seg_w (wM h (fun x s₁ h₁ => ?_) fun _ _ q => q)
 refine seg_w (wpAny_of_eq (hs x) ?_)
 refine seg_w (wZ ?_)
 refine seg_w (wH (wM h₁ (fun it s2 h₂ => ?_) fun _ _ q => q))
 exact seg_call h₂
theorem seg_forLoop {tgt : Expr} {it : Value} {body : List Stmt} {HN : Value -> Sem PySem.Fin} (hHN : HN = fun e => (do noteFrame e env; theTreesLotGoes e : Sem Unit).bind fun _ => .raise e)
 (h : wpAny (model prog w) (A.over (.forLoop tgt it body [] env) fs) (pyNext it) (fun r s₁ => match r with
  | none => Seg (model prog w) A R Y n s₀ (.forLoop tgt it body [] env) (.pure (.again (.block [] env))) fs s₁
  | some v => wpAny (model prog w) (A.over (.forLoop tgt it body [] env) fs) (letOwnedTupleGo tgt it v) (fun _ s2 => wpAny (model prog w) (A.over (.forLoop tgt it body [] env) fs) (assign tgt env v) (fun _ s₃ =>
   Seg (model prog w) A R Y n s₀ (.forLoop tgt it body [] env) ((execs body env).wrap (fun f => match f with | .next | .cont => .pure (.again (.forLoop tgt it body [] env)) | .brk => .pure (.done .next) | .ret v => .pure (.done (.ret v))) HN id id) fs s₃) NoE s2) NoE s₁) NoE s) :
 Seg (model prog w) A R Y n s₀ (.forLoop tgt it body [] env) ((model prog w).den (.forLoop tgt it body [] env)) fs s := by
 show Seg _ A R Y n s₀ _ ((forTurn tgt it body [] env).onRaise (fun x => do noteFrame x env; theTreesLotGoes x)) fs s
 rw [Sem.onRaise_eq_wrap]
 unfold forTurn
 refine seg_w (wZ ?_)
 refine seg_w (wpAny_onRaise (wM h (fun r s₁ h₁ => ?_) fun _ _ q => q.elim))
 cases r with
 | none => exact h₁
 | some v =>
  refine seg_w (wM h₁ (fun _ s2 h₂ => ?_) fun _ _ q => q)
  refine seg_w (wM h₂ (fun _ s₃ h₃ => ?_) fun _ _ q => q)
  rw [wrap_bind]
  subst hHN
  rw [Sem.wrap_congr (execs body env) _ _ (K' := fun f => match f with | .next | .cont => .pure (.again (.forLoop tgt it body [] env)) | .brk => .pure (.done .next) | .ret v => .pure (.done (.ret v))) (fun f => by cases f <;> rfl) (fun _ => rfl)]
  exact h₃
theorem seg_If {test : Expr} {body orelse : List Stmt} {pos : Pos} (h : wpAny (model prog w) (A.over c fs) (isTrue test env (eval test env)) (fun b s' => if b = true then Seg (model prog w) A R Y n s₀ c ((execs body env).wrap K H gd lv) fs s' else Seg (model prog w) A R Y n s₀ c ((execs orelse env).wrap K H gd lv) fs s') NoE s) :
 Seg (model prog w) A R Y n s₀ c ((exec (.If test body orelse pos) env).wrap K H gd lv) fs s := by
 rw [exec_If]
 refine seg_w (wZ ?_)
 refine seg_w (wM h (fun b s' q => ?_) fun _ _ q => q)
 cases b with
 | true => rw [if_pos rfl] at q; exact q
 | false => rw [if_neg Bool.false_ne_true] at q; exact q
theorem seg_block {k : Result -> Sem PySem.Fin} {hd : Option Value} {g : Bool} {l : List Value} {c₁ : Code} {p₁ : Pos} {kp : List Value} (h : Seg (model prog w) A R Y n s₀ c₁ (k (.ok .next)) fs s) :
 Seg (model prog w) A R Y n s₀ c (.pure (.again (.block [] env))) (.ret k hd g l c₁ p₁ kp :: fs) s := by
 refine seg_again rfl ?_
 exact seg_leaf (.ok .next) h
end
end
section
theorem entry_yield_from : entryFor table "proto.yield_from" = some Builtin.«proto.yield_from» := entryFor_of_tree (by kernel_rfl)
theorem li_close : typeLookup (.type "list_iterator") (oS "close") = pure none := by rw [typeLookup_type, builtinLookup_eq_fast]; kernel_rfl
theorem den_builtin {prog : Program} {w : World} {id : String} {args : Args} {b : Builtin} (hb : entryFor table id = some b) : (model prog w).den (.builtin id args) = b args := by
 show (match entryFor table id with | some f => f args | none => _) = _
 rw [hb]
section
variable {prog : Program} {w : World} {A : Around} {E : Value -> Shared -> Prop} {s : Shared}
theorem nextS_item {it l : Addr} {i : Nat} {items : Array Value} {x : Value} {Q : Option Value -> Shared -> Prop} (hit : s.heap.IsListIter it l i) (hl : s.heap.IsList l items) (hx : items[i]? = some x)
 (hQ : ∀ h', h'.IsListIter it l (i + 1) -> Heap.SameBut it s.heap h' -> Q (some x) { s with heap := h' }) :
 wpAny (model prog w) A (callSpecial? (.ref it) "__next__") Q E s := by
 (refine x13 (id hit) ?_; intro o ho hc hd)
 (refine x13 hl ?_; clear hl; intro ol hol _ r9; obtain ⟨nl, hdl⟩ := r9)
 refine wpAny_callSpecial?_slot (name := oS "__next__") hit.typeIs slot_listiter_next
  (wpAny_call_entry slot_listiter_next hit.typeIs entry_listiter_next ?_ (args_listiter_next _))
 show wpAny _ _ (field (.ref it) 0 >>= _) _ _ s
 refine wB (wpAny_field ho hd (x := .ref l) rfl ?_)
 show wpAny _ _ (if (Value.ref l == Value.none) = true then _ else _) _ _ s
 erw [if_neg (show ¬ ((Value.ref l == Value.none) = true) from Bool.false_ne_true)]
 show wpAny _ _ (field (.ref it) 1 >>= _) _ _ s
 refine wB (wpAny_field ho hd (x := .int i 0) rfl ?_)
 show wpAny _ _ (seqItems? (.ref l) >>= _) _ _ s
 refine wB (wpAny_seqItems hol hdl ?_)
 simp only [Int.toNat_natCast, hx]
 refine wB (wpAny_setField ho hd (by simp) (wP ⟨x, rfl, hQ _ ?_ (Heap.SameBut.update ..)⟩))
 exact ⟨_, Heap.get?_update_self _ ho (Obj.isFreed_of_fields (Obj.data_mapFields hd _)), (Obj.cls_mapFields ..).trans hc, by
  rw [Obj.data_mapFields hd]; simp [rawInt]⟩
theorem nextS_end {it l : Addr} {i : Nat} {items : Array Value} {Q : Option Value -> Shared -> Prop} (hh : A.handled = none)
 (hit : s.heap.IsListIter it l i) (hl : s.heap.IsList l items) (hx : items[i]? = none)
 (hQ : ∀ h' e oe vs, Heap.ExtBut it s.heap h' -> h'.get? e = some oe -> oe.cls = .type "StopIteration" -> oe.data = .fields vs -> vs[5]? = some .none -> E (.ref e) { s with heap := h' }) : wpAny (model prog w) A (callSpecial? (.ref it) "__next__") Q E s := by
 (refine x13 (id hit) ?_; intro o ho hc hd)
 (refine x13 hl ?_; clear hl; intro ol hol _ r9; obtain ⟨nl, hdl⟩ := r9)
 refine wpAny_callSpecial?_slot (name := oS "__next__") hit.typeIs slot_listiter_next
  (wpAny_call_entry slot_listiter_next hit.typeIs entry_listiter_next ?_ (args_listiter_next _))
 show wpAny _ _ (field (.ref it) 0 >>= _) _ _ s
 refine wB (wpAny_field ho hd (x := .ref l) rfl ?_)
 show wpAny _ _ (if (Value.ref l == Value.none) = true then _ else _) _ _ s
 erw [if_neg (show ¬ ((Value.ref l == Value.none) = true) from Bool.false_ne_true)]
 show wpAny _ _ (field (.ref it) 1 >>= _) _ _ s
 refine wB (wpAny_field ho hd (x := .int i 0) rfl ?_)
 show wpAny _ _ (seqItems? (.ref l) >>= _) _ _ s
 refine wB (wpAny_seqItems hol hdl ?_)
 simp only [Int.toNat_natCast, hx]
 refine wB (wpAny_rule (wB (wpAny_setField ho hd (by simp) ?_)))
 show wpAny _ _ (newExc (.type "StopIteration") [] >>= _) _ _ _
 refine wB ?_
 simp only [newExc, newTuple]
 refine wB (wpAny_newObj_type ?_ (by size_fits))
 refine wB (m := firstArgMember _ _) (wpAny_of_eq (a := Value.none) (by first | rfl | (simp only [firstArgMember]; rfl)) ?_)
 refine wpAny_newObj_type ?_ (by size_fits)
 simp only [raiseNew]
 refine wB (wpAny_handled ?_)
 erw [show A.in1.handled = none from hh]
 refine wB (wP (wpAny_throw ?_))
 exact hQ _ _ _ _ (((Heap.SameBut.update ..).extBut.push _).push _) (Heap.get?_push_size _ rfl) rfl rfl rfl
theorem slept_wp {it : Addr} {o : Obj} {more : Bool} {Q : Unit -> Shared -> Prop} (ho : s.heap.get? it = some o) (hc : o.cls = .type "list_iterator") (h : Q () s) : wpAny (model prog w) A (Builtin.Generator.sleptOver (.ref it) more) Q E s := by
 unfold Builtin.Generator.sleptOver
 refine wB (wpAny_load ho ?_)
 erw [hc]
 rw [if_pos (by decide)]
 exact wP h
end
section
variable {prog : Program} {w : World} {A : Around} {R : GenEnd} {Y : Protocol} {n : Nat} {s₀ : Shared} {c : Code} {fs : List Frame} {s : Shared} {env : Env}
 {K : Flow -> Sem PySem.Fin} {H : Value -> Sem PySem.Fin} {gd : Bool -> Bool} {lv : List Value -> List Value}
noncomputable abbrev yfCode (it : Addr) : Code := .builtin "proto.yield_from" ⟨[.ref it, .bool false, .none], []⟩
noncomputable def Y1 (J : Shared -> Value -> Shared -> Prop) (Lt : Shared -> Shared -> Prop) : Protocol := fun k s₀ v s' κ => k = 0 /\ J s₀ v s' /\ ∀ s'', Lt s' s'' -> κ (.send .none) s''
theorem seg_yfTurn {J : Shared -> Value -> Shared -> Prop} {Lt : Shared -> Shared -> Prop} {it l : Addr} {i : Nat} {items : Array Value} {x : Value} (hfs : splitAtGen fs = none) (hfg : fs.any Frame.guarded = false)
 (hit : s.heap.IsListIter it l i) (hl : s.heap.IsList l items) (hx : items[i]? = some x)
 (h : ∀ h', h'.IsListIter it l (i + 1) -> Heap.SameBut it s.heap h' -> J s₀ x { s with heap := h' } /\ ∀ s'', Lt { s with heap := h' } s'' -> (∃ o, s''.heap.get? it = some o /\ o.cls = .type "list_iterator") /\ Seg (model prog w) A R (Y1 J Lt) 0 s'' (yfCode it) ((model prog w).den (yfCode it)) fs s'') :
 Seg (model prog w) A R (Y1 J Lt) 1 s₀ (yfCode it) ((model prog w).den (yfCode it)) fs s := by
 erw [den_builtin entry_yield_from]
 unfold Builtin.«proto.yield_from»
 dsimp only
 refine seg_b (wP ?_)
 refine seg_b (wpAny_attempt (wH ?_))
 rw [if_neg (by decide), if_pos (by decide)]
 refine wB (wpAny_rule (wB (nextS_item hit hl hx fun h' hit' hs' => wP ?_)))
 obtain ⟨hJ, hL⟩ := h h' hit' hs'
 (refine x13 (id hit') ?_; intro o2 ho2 hc2 hd2)
 dsimp only
 refine seg_b (m := typeOf (.ref it)) (wpAny_typeOf_ref ho2 ?_)
 erw [hc2]
 refine seg_b (m := typeLookup (.type "list_iterator") (oS "close")) (wpAny_of_eq li_close ?_)
 dsimp only [Option.isNone]
 refine seg_b (wP ?_)
 refine seg_b (slept_wp ho2 hc2 ?_)
 refine seg_yield hfs rfl hfg ⟨rfl, hJ, fun s'' ht => ?_⟩
 obtain ⟨⟨o3, ho3, hc3⟩, hseg⟩ := hL s'' ht
 refine seg_b (wP ?_)
 refine seg_b (slept_wp ho3 hc3 ?_)
 dsimp only
 refine seg_b (wP ?_)
 exact seg_again (Code.quiet_builtin _ (by decide +kernel)) hseg
end
end
section
section
variable {prog : Program} {w : World} {A : Around} {R : GenEnd} {Y : Protocol} {n : Nat} {s₀ : Shared} {c : Code} {fs : List Frame} {s : Shared} {env : Env}
 {K : Flow -> Sem PySem.Fin} {H : Value -> Sem PySem.Fin} {gd : Bool -> Bool} {lv : List Value -> List Value}
theorem seg_yfEnd {it l : Addr} {i : Nat} {items : Array Value} {k : Result -> Sem PySem.Fin} {hd : Option Value} {g : Bool} {lv' : List Value} {c₁ : Code} {p₁ : Pos} {kp : List Value}
 (hh : (A.over (yfCode it) (.ret k hd g lv' c₁ p₁ kp :: fs)).handled = none)
 (hit : s.heap.IsListIter it l i) (hl : s.heap.IsList l items) (hx : items[i]? = none)
 (h : ∀ h', Heap.ExtBut it s.heap h' -> Seg (model prog w) A R Y n s₀ c₁ (k (.ok (.ret .none))) fs { s with heap := h' }) :
 Seg (model prog w) A R Y n s₀ (yfCode it) ((model prog w).den (yfCode it)) (.ret k hd g lv' c₁ p₁ kp :: fs) s := by
 erw [den_builtin entry_yield_from]
 unfold Builtin.«proto.yield_from»
 dsimp only
 refine seg_b (wP ?_)
 refine seg_b (wpAny_attempt (wH ?_))
 rw [if_neg (by decide), if_pos (by decide)]
 refine wB (wpAny_rule (wB (nextS_end hh hit hl hx fun h' e oe vs he hoe hce hde h5 => ?_)))
 dsimp only
 refine seg_b ?_
 unfold Builtin.Generator.endsTheTurnAsAValue Builtin.Generator.isStopAndMetaclass
 refine wB (wB (wpAny_typeOf_ref hoe ?_))
 erw [hce]
 dsimp only
 refine wB (wpAny_of_eq isSubtype_stop ?_)
 refine wB (m := typeOf (.type "StopIteration")) (wpAny_of_eq (a := Value.type "type") (by kernel_rfl) ?_)
 refine wP ?_
 dsimp only
 rw [if_neg (by decide)]
 refine wP ?_
 erw [if_pos rfl]
 rw [if_neg (by decide)]
 refine seg_b (wpAny_rule ?_)
 refine seg_b (wpAny_field hoe hde h5 ?_)
 exact seg_leaf (.ok (.ret .none)) (h h' he)
noncomputable abbrev yfBack (e : Expr) (ypos pos : Pos) (K : Flow -> Sem PySem.Fin) (H : Value -> Sem PySem.Fin) (gd : Bool -> Bool) (lv : List Value -> List Value) (r : Result) : Sem PySem.Fin :=
 ((match r with | .ok f => (.pure f : Sem Flow) | .error e => .raise e).bind fun f => match f with | .ret v => (pure v : Sem Value) | _ => unsupported "internal:call-without-return-value").wrap (fun a => (dropValue (.YieldFrom e ypos) pos a).wrap K H gd lv) H gd lv
theorem seg_Expr_YieldFrom {e : Expr} {ypos pos : Pos}
 (h : wpAny (model prog w) (A.over c fs) (eval e env) (fun v s' => ∃ l items, v = .ref l /\ s'.heap.IsList l items /\ ∀ p,
  Seg (model prog w) A R Y n s₀ (yfCode s'.heap.objs.size) ((model prog w).den (yfCode s'.heap.objs.size)) (.ret (yfBack e ypos pos K H gd lv) none (gd false) (lv []) c p [] :: fs) { s' with heap := s'.heap.push { cls := .type "list_iterator", data := .fields #[.ref l, .int 0 0] } })
  NoE s) (hi : interactive env = false := by rfl) :
 Seg (model prog w) A R Y n s₀ c ((exec (.Expr (.YieldFrom e ypos) pos) env).wrap K H gd lv) fs s := by
 rw [exec_Expr env _ pos hi rfl]
 show Seg (model prog w) A R Y n s₀ c (.at pos fun _ => ((eval e env >>= fun v => (standAt ypos >>= fun _ => yieldFrom env v)) >>= fun x =>
  dropValue (.YieldFrom e ypos) pos x).wrap K H gd lv) fs s
 refine seg_at ?_
 rw [wrap_bind]
 refine seg_w (wM h (fun v s' h' => ?_) fun _ _ x => x)
 (refine x23 h' ?_; clear h'; rintro l items rfl hl h')
 refine seg_w (wZ ?_)
 unfold yieldFrom
 (refine x13 (id hl) ?_; intro ol hol hcl _)
 refine seg_w (wpAny_typeOf_ref hol ?_)
 rw [hcl, if_neg (by decide)]
 refine seg_w (wH (wpAny_pyIter_list hl ?_))
 unfold runValue
 exact seg_call h'
theorem yfBack_next {e : Expr} {ypos pos : Pos} : yfBack e ypos pos K H gd lv (.ok (.ret .none)) = K .next := rfl
end
end
section
structure Mn (s s' : Shared) : Prop where
 tok : s.toks <= s'.toks
 gens : GUp s'.gens s.gens
 os : s'.os = s.os
theorem Mn.refl (s : Shared) : Mn s s := ⟨Nat.le_refl _, .rfl, rfl⟩
theorem Mn.trans {s s' s'' : Shared} (a : Mn s s') (b : Mn s' s'') : Mn s s'' := ⟨Nat.le_trans a.tok b.tok, b.gens.trans a.gens, b.os.trans a.os⟩
theorem Gr.mn {s s' : Shared} (g : Gr s s') : Mn s s' := ⟨g.tok, g.gens, g.os⟩
theorem Stp.mn {X X' : List Addr} {s s' : Shared} (t : Stp X s X' s') : Mn s s' := ⟨t.tok, t.gens, t.os⟩
structure Far (P : Addr -> Prop) (s s' : Shared) : Prop where
 keep : ∀ b o, ¬ P b -> s.heap.get? b = some o -> s'.heap.get? b = some o
 tok : s.toks <= s'.toks
theorem Far.of_keeps {P : Addr -> Prop} {s s' : Shared} (k : Keeps s.heap s'.heap) (t : s.toks <= s'.toks) : Far P s s' := ⟨fun b o _ e => k b o e, t⟩
theorem Far.same {a : Addr} {s : Shared} {h' : Heap} {tk : Nat} (hs : Heap.SameBut a s.heap h') (ht : s.toks <= tk) : Far (fun b => b = a) s { s with heap := h', toks := tk } :=
 ⟨fun b o nb e => (hs.2 b nb).trans e, ht⟩
structure Off (P : Addr -> Prop) (V0 : Addr -> Prop) (h0 : Heap) (X : List Addr) (s s' : Shared) : Prop where
 base : ∀ a, P a -> h0.get? a = none
 x : ∀ a, P a -> a ∉ X
 nocell : ∀ a o, P a -> s.heap.get? a = some o -> (∀ w, o.data ≠ .cell w) /\ (V0 a \/ ¬ Shp o)
 lv : ∀ a, P a -> V0 a -> ∃ o, s'.heap.get? a = some o
section
variable {c : Cx} {n : Nat} {sc : Scope} {env : Env} {V0 : Addr -> Prop} {h0 : Heap} {Cs : List (Str × Addr)} {X : List Addr} {ρ : Sto} {s s' : Shared} {P : Addr -> Prop}
theorem Off.v0 (F : Fm c sc env V0 h0 Cs X ρ s) (hv : ∀ a, P a -> V0 a) (hb : ∀ a, P a -> h0.get? a = none) (hc : ∀ a o, P a -> s.heap.get? a = some o -> ∀ w, o.data ≠ .cell w) (hl : ∀ a, P a -> ∃ o, s'.heap.get? a = some o) : Off P V0 h0 X s s' :=
 ⟨hb, fun a h => (F.live0 a (hv a h)).2, fun a o h e => ⟨hc a o h e, .inl (hv a h)⟩, fun a h _ => hl a h⟩
theorem Fm.far (F : Fm c sc env V0 h0 Cs X ρ s) (t : Far P s s') (O : Off P V0 h0 X s s') : Fm c sc env V0 h0 Cs X ρ s' := by
 obtain ⟨m, fps, h1, h2, h3, h4, h6, h5⟩ := F.sto
 have hLX : env.locals ∈ X := h2 ▸ .head _
 have hx : ∀ b o, b ∈ X -> s.heap.get? b = some o -> s'.heap.get? b = some o := fun b o hb e => t.keep b o (fun q => O.x b q hb) e
 have hcell : ∀ b o w, s.heap.get? b = some o -> o.data = .cell w -> s'.heap.get? b = some o := fun b o w e hw => t.keep b o (fun q => (O.nocell b o q e).1 w hw) e
 refine ⟨F.good, F.scope, F.kind, F.globals, F.builtins, F.base, fun b o e => t.keep b o (fun q => by rw [O.base b q] at e; cases e) (F.keep b o e), fun e => F.tok (Nat.le_zero.mp (e ▸ t.tok)), fun a q => ⟨(Classical.em (P a)).elim (fun p => O.lv a p q) fun p => let ⟨o, e⟩ := (F.live0 a q).1; ⟨o, t.keep a o p e⟩, (F.live0 a q).2⟩, F.ccells, F.new, F.cells, F.cinj,
  m, fps, ?_, h2, h3, fun a ha => let ⟨o, e⟩ := h4 a ha; ⟨o, hx a o ha e⟩, fun p hp => ?_, ?_⟩
 · (refine x32 h1 ?_; clear h1; intro o es ep ho r)
   exact ⟨o, es, ep, hx _ o hLX ho, r⟩
 · (refine x22 (h6 p hp) ?_; intro v o e d)
   exact ⟨v, o, hcell _ o _ e d, d⟩
 · exact h5.change ⟨t.tok, fun b o nb e sh => t.keep b o (fun q => (O.nocell b o q e).2.elim (fun q' => nb (.inl q')) fun q' => q' sh) e⟩
    (fun a ha o e => hx a o (h2 ▸ .tail _ (mR _ ha)) e) (fun _ _ _ => rfl) fun p _ a o w _ e hw => hcell a o w e hw
theorem Fm.sameH (F : Fm c sc env V0 h0 Cs X ρ s) (h : s'.heap = s.heap) (ht : s.toks <= s'.toks) : Fm c sc env V0 h0 Cs X ρ s' :=
 F.far (P := fun _ => False) ⟨fun b o _ e => h ▸ e, ht⟩ ⟨fun _ q => q.elim, fun _ q => q.elim, fun _ _ q => q.elim, fun _ q => q.elim⟩
end
end
section
structure GEnv (env : Env) (S : Addr) (s : Shared) (m : Str -> Option Value) : Prop where
 kind : env.scope.kind = .function
 intr : interactive env = false
 k1 : env.kindOf (oS "ns_stack") = some .local
 k2 : env.kindOf (oS "_reversed") = some .local
 k3 : env.kindOf (oS "namespaces") = some .local
 ns : s.heap.Ns env.locals m
 v1 : m (oS "ns_stack") = some (.ref S)
 v2 : m (oS "_reversed") = some (.type "reversed")
section
variable {M : Model} {A : Around} {E : Value -> Shared -> Prop} {s : Shared} {env : Env}
theorem name_local {x : String} {pos : Pos} {m : Str -> Option Value} {v : Value} {Q : Value -> Shared -> Prop} (hk : env.scope.kind = .function) (hl : env.kindOf (oS x) = some .local) (hn : s.heap.Ns env.locals m) (hv : m (oS x) = some v) (hx : x ≠ "__debug__") (h : Q v s) :
 wpAny M A (eval (.Name (oS x) pos) env) Q E s := wpAny_Name (wpAny_loadName_local hk hl hn hv h) (ofString_ne hx)
theorem lotg_rev {it l : Addr} {i : Int} {tgt : Expr} {v : Value} {Q : Unit -> Shared -> Prop} (h : s.heap.IsRevIter it l i) (hq : Q () s) : wpAny M A (letOwnedTupleGo tgt (.ref it) v) Q E s := by
 (refine x13 h ?_; clear h; intro o h1 h2 h3)
 have key : ∀ a : Addr, wpAny M A (do
  let o <- load it
  match o.cls, o.data with
  | .type n, .fields vs =>
   if ["enumerate", "zip", "dict_itemiterator", "dict_reverseitemiterator", "odict_iterator", "itertools.zip_longest", "itertools.pairwise"].contains n && vs[0]? == some (rawInt a) then
    rule "for.unpacks-the-owned-tuple"
    updateField it 0 .none
  | _, _ => pure ()) Q E s := fun a => by
  refine wB (wpAny_load h1 ?_)
  erw [h3, h2]
  dsimp only
  erw [show (["enumerate", "zip", "dict_itemiterator", "dict_reverseitemiterator", "odict_iterator", "itertools.zip_longest", "itertools.pairwise"].contains "list_reverseiterator") = false from by decide]
  exact wP hq
 unfold letOwnedTupleGo
 split
 · cases v <;> first | exact key _ | exact wP hq
 · cases v <;> first | exact key _ | exact wP hq
 · exact wP hq
end
section
variable {prog : Program} {w : World} {A : Around} {s : Shared} {env : Env} {S l0 l1 : Addr} {tv : Value} {m : Str -> Option Value}
structure GLists (h : Heap) (S l0 l1 : Addr) (tv : Value) : Prop where
 s : h.IsList S #[.ref l0, .ref l1]
 l0 : h.IsList l0 #[tv]
 l1 : h.IsList l1 #[]
theorem GLists.keep {h h' : Heap} (x : GLists h S l0 l1 tv) (hk : ∀ b o vs, h.get? b = some o -> o.data = .seq vs 0 \/ (∃ vs n, o.data = .seq vs n) -> h'.get? b = some o) : GLists h' S l0 l1 tv := by
 obtain ⟨⟨o1, a1, b1, n1, d1⟩, ⟨o2, a2, b2, n2, d2⟩, ⟨o3, a3, b3, n3, d3⟩⟩ := x
 exact ⟨⟨o1, hk _ _ #[] a1 (.inr ⟨_, _, d1⟩), b1, n1, d1⟩, ⟨o2, hk _ _ #[] a2 (.inr ⟨_, _, d2⟩), b2, n2, d2⟩, ⟨o3, hk _ _ #[] a3 (.inr ⟨_, _, d3⟩), b3, n3, d3⟩⟩
theorem GLists.at {h h' : Heap} {a : Addr} (x : GLists h S l0 l1 tv) (hk : ∀ b o, b ≠ a -> h.get? b = some o -> h'.get? b = some o) (hd : ∀ o, h.get? a = some o -> ∀ vs n, o.data ≠ .seq vs n) : GLists h' S l0 l1 tv :=
 x.keep fun b o _ e q => hk b o (fun q' => by
  subst q'
  rcases q with q | ⟨_, _, q⟩
  · exact hd o e _ _ q
  · exact hd o e _ _ q) e
noncomputable abbrev gJ (S l0 L : Addr) (tv : Value) (N : Nat) : Shared -> Value -> Shared -> Prop := fun s₀ v s₁ => v = tv /\ ∃ h₁ t₁, s₁ = { s₀ with heap := h₁, toks := t₁ } /\ s₀.toks <= t₁ /\ (∀ b o, b ≠ L -> s₀.heap.get? b = some o -> h₁.get? b = some o) /\ (∀ o, s₀.heap.get? L = some o -> ∃ o', h₁.get? L = some o') /\ h₁.IsRevIter N S (-1) /\ h₁.IsListIter (N + 1) l0 1 /\ h₁.IsList l0 #[tv]
noncomputable abbrev gLt (l0 N : Addr) : Shared -> Shared -> Prop := fun s₁ s'' => ∀ b, b = N \/ b = N + 1 \/ b = l0 -> ∀ o, s₁.heap.get? b = some o -> s''.heap.get? b = some o
noncomputable abbrev gP (N : Addr) : Nat -> Shared -> Shared -> Prop := fun n s₀ s₁ => n = 0 /\ ∃ h₁, s₁ = { s₀ with heap := h₁ } /\ ∀ b o, b ≠ N -> b ≠ N + 1 -> s₀.heap.get? b = some o -> h₁.get? b = some o
noncomputable abbrev gR (N : Addr) : GenEnd := fun n s₀ r s₁ => r = .ok (.ret .none) /\ gP N n s₀ s₁
noncomputable abbrev gY (S l0 L : Addr) (tv : Value) (N : Nat) : Protocol := Y1 (gJ S l0 L tv N) (gLt l0 N)
theorem over_handled {c : Code} {fs : List Frame} (hh : A.handled = none) (hf : ∀ f ∈ fs, ∃ k g l c p kp, f = .ret k none g l c p kp) : (A.over c fs).handled = none := by
 show (marksOver fs (A.handled, A.handled)).1 = none
 have : marksOver fs (A.handled, A.handled) = (A.handled, A.handled) := by
  induction fs with
  | nil => rfl
  | cons f fs ih =>
   (refine x61 (hf f (.head _)) ?_; rintro k g l c p kp rfl)
   show Frame.marks (.ret k none g l c p kp) (marksOver fs (A.handled, A.handled)) = (A.handled, A.handled)
   erw [ih fun f hf' => hf f (.tail _ hf')]
   rfl
 rw [this]; exact hh
section
variable {R : GenEnd} {Y : Protocol} {n : Nat} {s₀ : Shared} {c : Code} {fs : List Frame}
 {K : Flow -> Sem PySem.Fin} {H : Value -> Sem PySem.Fin} {gd : Bool -> Bool} {lv : List Value -> List Value}
variable {p1 p2 p3 p4 p5 p6 p7 p8 p9 p10 : Pos}
noncomputable abbrev gBody (p5 p6 p7 p8 p9 : Pos) : List Stmt := [.If (.Name (oS "namespaces") p5) [.Expr (.YieldFrom (.Name (oS "namespaces") p6) p7) p8] [] p9]
noncomputable abbrev gAll (p1 p2 p3 p4 p5 p6 p7 p8 p9 p10 : Pos) : List Stmt := [.For (.Name (oS "namespaces") p1) (.Call (.Name (oS "_reversed") p2) [.Name (oS "ns_stack") p3] [] p4) (gBody p5 p6 p7 p8 p9) [] p10]
theorem gen_step {it : Addr} {i : Nat} {x : Addr} {HN : Value -> Sem PySem.Fin} (hHN : HN = fun e => (do noteFrame e env; theTreesLotGoes e : Sem Unit).bind fun _ => .raise e) (G : GEnv env S s m) (L : GLists s.heap S l0 l1 tv) (hit : s.heap.IsRevIter it S (i : Int)) (hx : (#[.ref l0, .ref l1] : Array Value)[i]? = some (.ref x))
 (hb : R = R) (h : ∀ h' t', (∀ b o, b ≠ env.locals -> b ≠ it -> s.heap.get? b = some o -> h'.get? b = some o) -> (∃ o, h'.get? env.locals = some o) -> h'.objs.size = s.heap.objs.size -> s.toks <= t' -> GEnv env S { s with heap := h', toks := t' } (fun y => if y = oS "namespaces" then some (.ref x) else m y) -> GLists h' S l0 l1 tv -> h'.IsRevIter it S ((i : Int) - 1) ->
  Seg (model prog w) A R Y n s₀ (.forLoop (.Name (oS "namespaces") p1) (.ref it) (gBody p5 p6 p7 p8 p9) [] env) ((execs (gBody p5 p6 p7 p8 p9) env).wrap (fun f => match f with | .next | .cont => .pure (.again (.forLoop (.Name (oS "namespaces") p1) (.ref it) (gBody p5 p6 p7 p8 p9) [] env)) | .brk => .pure (.done .next) | .ret v => .pure (.done (.ret v))) HN id id) fs { s with heap := h', toks := t' }) :
 Seg (model prog w) A R Y n s₀ (.forLoop (.Name (oS "namespaces") p1) (.ref it) (gBody p5 p6 p7 p8 p9) [] env) ((model prog w).den (.forLoop (.Name (oS "namespaces") p1) (.ref it) (gBody p5 p6 p7 p8 p9) [] env)) fs s := by
 (refine x33 (id G.ns) ?_; intro oL esL epL hoL hdL hL)
 (refine x13 (id hit) ?_; intro oi hoi hci hdi)
 have hne : it ≠ env.locals := fun q => by rw [q, hoL] at hoi; cases hoi; rw [hdL] at hdi; cases hdi
 refine seg_forLoop hHN ?_
 refine wpAny_pyNext_rev_item hit L.s hx fun h₁ hit1 hs₁ => ?_
 dsimp only
 refine lotg_rev (s := { s with heap := h₁ }) hit1 ?_
 have hn1 : h₁.Ns env.locals m := G.ns.sameBut hs₁ hne.symm
 refine wpAny_assign_Name (wpAny_storeName_local (s := { s with heap := h₁ }) G.k3 hn1 (fun h₂ hn2 hs₂ => ?_) (by erw [G.kind]; rfl))
 refine h h₂ (s.toks + 1) (fun b o b1 b2 e => (hs₂.2 b b1).trans ((hs₁.2 b b2).trans e)) ?_ (hs₂.1.trans hs₁.1) (Nat.le_succ _) ⟨G.kind, G.intr, G.k1, G.k2, G.k3, hn2, ?_, ?_⟩ ?_ ?_
 · (refine x32 hn2 ?_; clear hn2; intro o _ _ e _); exact ⟨o, e⟩
 · exact (if_neg (by decide +kernel)).trans G.v1
 · exact (if_neg (by decide +kernel)).trans G.v2
 · exact (L.at (fun b o nb e => (hs₁.2 b nb).trans e) (fun o e vs n q => by rw [hoi] at e; cases e; rw [hdi] at q; cases q)).at (fun b o nb e => (hs₂.2 b nb).trans e) (fun o e vs n q => by
    have e2 := (hs₁.2 _ hne.symm).trans hoL
    rw [e2] at e; cases e; rw [hdL] at q; cases q)
 · exact hit1.at fun o e => (hs₂.2 _ hne).trans e
theorem gen_seg (hh : A.handled = none) (G : GEnv env S s m) (L : GLists s.heap S l0 l1 tv) :
 Seg (model prog w) A (gR s.heap.objs.size) (gY S l0 env.locals tv s.heap.objs.size) 1 s (.func (gAll p1 p2 p3 p4 p5 p6 p7 p8 p9 p10) env) ((model prog w).den (.func (gAll p1 p2 p3 p4 p5 p6 p7 p8 p9 p10) env)) [] s := by
 have hlt : ∀ {a : Addr} {o : Obj}, s.heap.get? a = some o -> a ≠ s.heap.objs.size := fun e q => absurd (Heap.lt_size e) (by rw [q]; exact Nat.lt_irrefl _)
 refine seg_func (seg_execs_cons (seg_For (fun _ => rfl) ?_))
 erw [show eval (.Call (.Name (oS "_reversed") p2) [.Name (oS "ns_stack") p3] [] p4) env = (do callWith p4 (<- eval (.Name (oS "_reversed") p2) env) [] (backTo p4 (starEach [.Name (oS "ns_stack") p3] env)) (backToKw p4 (keywordEach [] env))) from rfl]
 refine wB (name_local G.kind G.k2 G.ns G.v2 (by decide) ?_)
 refine PySem.callWith_type (noStar_all rfl) (evalArgs_of rfl (wI (name_local G.kind G.k1 G.ns G.v1 (by decide) (wN ?_)) (starEach_cons rfl)))
 refine call_reversed_list L.s ?_
 refine wpAny_pyIter_revIter (l := S) (i := 1) ⟨_, Heap.get?_push_size _ rfl, rfl, rfl⟩ ?_
 intro p
 have hN : ∀ o : Obj, (s.heap.push o).objs.size = s.heap.objs.size + 1 := fun o => by simp [Heap.push]
 refine gen_step (s := { s with heap := s.heap.push (revObj S 1) }) (i := 1) rfl ⟨G.kind, G.intr, G.k1, G.k2, G.k3, G.ns.keeps fun b o e => Heap.get?_push_of_some _ e, G.v1, G.v2⟩ (L.keep fun b o _ e _ => Heap.get?_push_of_some _ e) ⟨_, Heap.get?_push_size _ rfl, rfl, rfl⟩ rfl rfl fun h₂ t₂ hk₂ hl2 hz₂ ht₂ G2 L2 hit2 => ?_
 refine seg_execs_cons (seg_If ?_)
 refine wB (name_local G2.kind G2.k3 G2.ns (if_pos rfl) (by decide) (wB (wZ (wH (wpAny_truthy_list L2.l1 (by decide) ?_)))))
 rw [if_neg (by decide)]
 refine seg_execs_nil (seg_execs_nil (seg_again rfl ?_))
 refine gen_step (s := { s with heap := h₂, toks := t₂ + 1 + 1 }) (i := 0) rfl ⟨G2.kind, G2.intr, G2.k1, G2.k2, G2.k3, G2.ns, G2.v1, G2.v2⟩ L2 hit2 rfl rfl fun h₃ t3 hk₃ hl3 hz3 ht3 G3 L3 hit3 => ?_
 refine seg_execs_cons (seg_If ?_)
 refine wB (name_local G3.kind G3.k3 G3.ns (if_pos rfl) (by decide) (wB (wZ (wH (wpAny_truthy_list L3.l0 (by show ((1 : Nat) : Int) < 2 ^ 63; decide) ?_)))))
 erw [if_pos (show (!(#[tv] : Array Value).isEmpty) = true from rfl)]
 have hsz : h₃.objs.size = s.heap.objs.size + 1 := hz3.trans (hz₂.trans (hN _))
 refine seg_execs_cons (seg_Expr_YieldFrom ?_ G3.intr)
 refine name_local (s := { s with heap := h₃, toks := t3 + 1 + 1 }) G3.kind G3.k3 G3.ns (if_pos rfl) (by decide) ⟨l0, _, rfl, L3.l0, fun p' => ?_⟩
 dsimp only
 erw [hsz]
 have hN1 : (h₃.push { cls := .type "list_iterator", data := .fields #[.ref l0, .int 0 0] }).get? (s.heap.objs.size + 1) = some { cls := .type "list_iterator", data := .fields #[.ref l0, .int 0 0] } := hsz ▸ Heap.get?_push_size h₃ rfl
 have hpk : ∀ (o' : Obj) b o, h₃.get? b = some o -> (h₃.push o').get? b = some o := fun o' b o e => Heap.get?_push_of_some _ e
 have L4 := L3.keep (fun b o _ e _ => hpk { cls := .type "list_iterator", data := .fields #[.ref l0, .int 0 0] } b o e)
 refine seg_yfTurn rfl rfl (l := l0) (i := 0) (items := #[tv]) (x := tv) ⟨_, hN1, rfl, rfl⟩ L4.l0 rfl fun h₄ hit4 hs₄ => ?_
 have L5 := L4.at (fun b o nb e => (hs₄.2 b nb).trans e) (fun o e vs n q => by
  have e' : (h₃.push { cls := .type "list_iterator", data := .fields #[.ref l0, .int 0 0] }).get? (s.heap.objs.size + 1) = some o := e
  rw [hN1] at e'; cases e'; cases q)
 have hlt' : ∀ {a : Addr} {o : Obj}, s.heap.get? a = some o -> a ≠ s.heap.objs.size + 1 := fun e q => absurd (Heap.lt_size e) (by rw [q]; exact Nat.not_lt.mpr (Nat.le_succ _))
 have hNN : s.heap.objs.size ≠ s.heap.objs.size + 1 := Nat.ne_of_lt (Nat.lt_succ_self _)
 have hrev : h₄.IsRevIter s.heap.objs.size S (-1) := (hit3.at fun o e => (hs₄.2 _ hNN).trans (hpk _ _ _ e))
 refine ⟨⟨rfl, h₄, t3 + 1 + 1, rfl, Nat.le_trans (show s.toks <= t₂ from ht₂) (Nat.le_trans (Nat.le_add_right t₂ 2) (Nat.le_trans (show t₂ + 1 + 1 <= t3 from ht3) (Nat.le_add_right t3 2))), fun b o nb e => ?_, fun o e => ?_, hrev, hit4, L5.l0⟩, fun s'' lt => ?_⟩
 · exact (hs₄.2 b (hlt' e)).trans (hpk _ _ _ (hk₃ b o nb (hlt e) (hk₂ b o nb (hlt e) (Heap.get?_push_of_some _ e))))
 · obtain ⟨o', e'⟩ := hl3
   exact ⟨o', (hs₄.2 _ (hlt' e)).trans (hpk _ _ _ e')⟩
 · have hi5 : s''.heap.IsListIter (s.heap.objs.size + 1) l0 1 := by
    (refine x12 hit4 ?_; clear hit4; intro o e r)
    exact ⟨o, lt _ (.inr (.inl rfl)) o e, r⟩
   have hr5 : s''.heap.IsRevIter s.heap.objs.size S (-1) := hrev.at fun o e => lt _ (.inl rfl) o e
   have hl5 : s''.heap.IsList l0 #[tv] := by
    (refine x12 L5.l0 ?_; intro o e r)
    exact ⟨o, lt _ (.inr (.inr rfl)) o e, r⟩
   refine ⟨let ⟨o, e, r⟩ := hi5; ⟨o, e, r.1⟩, ?_⟩
   refine seg_yfEnd (over_handled hh fun f hf => ?_) hi5 hl5 rfl fun h₆ he6 => ?_
   · rcases mC.mp hf with rfl | hf
     · exact ⟨_, _, _, _, _, _, rfl⟩
     · rcases mC.mp hf with rfl | hf
       · exact ⟨_, _, _, _, _, _, rfl⟩
       · nomatch hf
   erw [yfBack_next]
   refine seg_execs_nil (seg_execs_nil (seg_again rfl ?_))
   refine seg_forLoop rfl (wpAny_pyNext_rev_end (over_handled hh fun f hf => ?_) (hr5.at fun o e => he6 _ _ hNN e) fun h₇ he7 => ?_)
   · rcases mC.mp hf with rfl | hf
     · exact ⟨_, _, _, _, _, _, rfl⟩
     · nomatch hf
   refine seg_block ?_
   refine seg_execs_nil (env := env) ?_
   refine seg_end (.ok (.ret .none)) ⟨rfl, rfl, h₇, rfl, fun b o b1 b2 e => he7 b o b1 (he6 b o b2 e)⟩
end
end
end
section
structure GenOk (c : Cx) (a : Addr) (sc : Scope) (body : List Stmt) : Prop where
 ex : DefX c a sc body fun fd => ∀ (s : Shared) (v w : Value), Keeps c.base s.heap -> BindsTo s fd ⟨[v, w], []⟩ (bindsOf ["self", "ns_stack", "_reversed"] [v, w, .type "reversed"])
 kind : sc.kind = .function
 gen : sc.isGenerator = true
 co : sc.isCoroutine = false
 k0 : sc.names.lookup (oS "self") = some .local
 k1 : sc.names.lookup (oS "ns_stack") = some .local
 k2 : sc.names.lookup (oS "_reversed") = some .local
 k3 : sc.names.lookup (oS "namespaces") = some .local
inductive GenMade (body : List Stmt) (S : Addr) (s : Shared) (v : Value) (s' : Shared) : Prop
 | mk (G : Addr) (env : Env) (m : Str -> Option Value) (h' : Heap) (tk : Nat) (e : v = .ref G) (es : s' = { s with heap := h', toks := tk, gens := s.gens.push (.fresh (.func body env)) }) (ht : s.toks <= tk) (hk : Keeps s.heap h') (ge : GEnv env S s' m) (hL : s.heap.get? env.locals = none) (hG : s.heap.get? G = none) (hg : h'.IsGen G s.gens.size) : GenMade body S s v s'
section
variable {c : Cx} {n : Nat} {A : Around} {s : Shared} {V : Addr -> Prop} {a : Addr} {sc : Scope} {body : List Stmt}
theorem gen_call {v : Value} {S : Addr} (hd : GenOk c a sc body) (hA : Room c (n + 1) A) (hS : St c V s) : wpAny c.M A (call (.ref a) [v, .ref S]) (GenMade body S s) NoE s := by
 obtain ⟨o, fd, ho, hdat, hbody, hsc, hclo, hgl, hbl, hcd, hbind⟩ := hd.ex
 subst hsc
 have hkinds : ∀ x ∈ bindsOf ["self", "ns_stack", "_reversed"] [v, .ref S, .type "reversed"], fd.scope.names.lookup x.1 = some .local \/ (fd.scope.names.lookup x.1 = some .cell /\ ((cellsFrom (s.heap.objs.size + 1) fd.scope.names []).lookup x.1).isSome = true) := fun x hx => by
  rcases mC.mp hx with rfl | hx
  · exact .inl hd.k0
  · rcases mC.mp hx with rfl | hx
    · exact .inl hd.k1
    · rcases mC.mp hx with rfl | hx
      · exact .inl hd.k2
      · nomatch hx
 refine wT (Nat.le_refl _) (wpAny_call ?_)
 refine codeAny_call_generator hA.lim (hS.keep _ _ ho) hdat hd.co hd.gen hbody (hcd.keeps hS.keep) ?_
 erw [hclo]
 refine hbind s v (.ref S) hS.keep _ _ _ _ (wT (Nat.le_refl _) (wpAny_newFunctionEnv_cells hd.kind hkinds fun env he s₁ x htok => ?_))
 have hk₁ : Keeps s.heap s₁.heap := x.toInCall.keep
 refine ⟨(hS.good.lim.keeps hS.keep).keeps hk₁, fun ht => ?_⟩
 (refine x21 x.toInCall.same ?_; rintro h₁ tk rfl)
 have hkl : ∀ y, env.kindOf y = fd.scope.names.lookup y := fun y => by rw [he]; rfl
 have hnames : ((bindsOf ["self", "ns_stack", "_reversed"] [v, .ref S, .type "reversed"]).map (·.1)).Nodup := by
  show [oS "self", oS "ns_stack", oS "_reversed"].Nodup
  decide +kernel
 refine ⟨_, env, _, _, _, rfl, rfl, ht, fun b o e => Heap.get?_push_of_some _ (hk₁ b o e), ⟨?_, ?_, (hkl _).trans hd.k1, (hkl _).trans hd.k2, (hkl _).trans hd.k3, x.toInCall.ns.keeps fun b o e => Heap.get?_push_of_some _ e, bindL_at ((hkl _).trans hd.k1) _ _ hnames (.tail _ (.head _)), bindL_at ((hkl _).trans hd.k2) _ _ hnames (.tail _ (.tail _ (.head _)))⟩, ?_, ?_, ⟨_, _, _, Heap.get?_push_size _ rfl, rfl, rfl, rfl⟩⟩
 · rw [he]; exact hd.kind
 · unfold interactive; erw [he]; show (fd.scope.kind == .module && _) = false; erw [hd.kind]; rfl
 · cases e : s.heap.get? env.locals with
   | none => rfl
   | some o' => exact absurd (Heap.lt_size e) (Nat.not_lt.mpr x.toInCall.fresh)
 · cases e : s.heap.get? _ with
   | none => rfl
   | some o' => exact absurd (Heap.lt_size (hk₁ _ _ e)) (Nat.lt_irrefl _)
inductive GenItem (c : Cx) (A : Around) (S l0 : Addr) (tv : Value) (G L : Addr) (g₀ : Array GenState) (s : Shared) (r : Option Value) (s₁ : Shared) : Prop
 | mk (h₁ : Heap) (t₁ : Nat) (gs : GenState) (e : r = some tv) (es : s₁ = { s with heap := h₁, toks := t₁, gens := g₀.push gs }) (ht : s.toks <= t₁) (hk : ∀ b o, b ≠ L -> s.heap.get? b = some o -> h₁.get? b = some o) (hL : ∃ o, h₁.get? L = some o)
  (h1 : h₁.IsRevIter s.heap.objs.size S (-1)) (h2 : h₁.IsListIter (s.heap.objs.size + 1) l0 1)
  (next : ∀ (s2 : Shared) (l : List GenState), (∀ b, b = s.heap.objs.size \/ b = s.heap.objs.size + 1 \/ b = l0 -> ∀ o, h₁.get? b = some o -> s2.heap.get? b = some o) -> s2.heap.IsGen G g₀.size -> s2.heap.NoLimit -> s2.gens.toList = g₀.toList ++ gs :: l ->
   wpAny c.M A (pyNext (.ref G)) (fun r s₃ => ∃ h₃ g₃, r = none /\ s₃ = { s2 with heap := h₃, gens := g₃ } /\ g₃.toList = g₀.toList ++ .finished :: l /\ ∀ b o, b ≠ s.heap.objs.size -> b ≠ s.heap.objs.size + 1 -> s2.heap.get? b = some o -> h₃.get? b = some o) NoE s2) : GenItem c A S l0 tv G L g₀ s r s₁
theorem setGen_at {s : Shared} {g : Array GenState} {x y : GenState} {l : List GenState} (h : s.gens.toList = g.toList ++ x :: l) : (s.setGen g.size y).gens.toList = g.toList ++ y :: l := by
 show (s.gens.setIfInBounds g.size y).toList = _
 rw [Array.toList_setIfInBounds, h, <- Array.length_toList, List.set_append_right _ _ (Nat.le_refl _), Nat.sub_self, List.set_cons_zero]
theorem gen_get {s : Shared} {g : Array GenState} {x : GenState} {l : List GenState} (h : s.gens.toList = g.toList ++ x :: l) : s.gens[g.size]? = some x := by
 rw [<- Array.getElem?_toList, h, <- Array.length_toList, List.getElem?_append_right (Nat.le_refl _), Nat.sub_self]; rfl
theorem gen_next {p1 p2 p3 p4 p5 p6 p7 p8 p9 p10 : Pos} {env : Env} {S l0 l1 G : Addr} {tv : Value} {m : Str -> Option Value} {g₀ : Array GenState} (hn : c.hn) (hA : Room c n A) (hS : St c V s) (GE : GEnv env S s m) (L : GLists s.heap S l0 l1 tv) (hg : s.heap.IsGen G g₀.size) (hgs : s.gens = g₀.push (.fresh (.func (gAll p1 p2 p3 p4 p5 p6 p7 p8 p9 p10) env))) :
 wpAny c.M A (pyNext (.ref G)) (GenItem c A S l0 tv G env.locals g₀ s) NoE s := by
 have hl : s.heap.NoLimit := hS.good.lim.keeps hS.keep
 have h1 : s.gens[g₀.size]? = some (.fresh (.func (gAll p1 p2 p3 p4 p5 p6 p7 p8 p9 p10) env)) := gen_get (l := []) (by erw [hgs]; simp)
 refine wpAny_pyNext_gen (n := 1) (Y := gY S l0 env.locals tv s.heap.objs.size) (P := gP s.heap.objs.size) (hA.handled hn) hl hA.lim hg h1 ⟨rfl, ?_⟩ (fun v s₁ gs' hY => ?_) (fun s₁ hP h' hk => ?_)
 · exact gen_seg (s := s.setGen g₀.size .running) (hA.handled hn) ⟨GE.kind, GE.intr, GE.k1, GE.k2, GE.k3, GE.ns, GE.v1, GE.v2⟩ L
 · (refine x03 hY ?_; clear hY; rintro _ ⟨rfl, h₁, t₁, rfl, ht, hk, hL, hr, hi, hl0⟩ hκ)
   (refine x32 GE.ns ?_; intro oL _ _ hoL _)
   refine ⟨h₁, t₁, gs', rfl, ?_, ht, hk, hL _ hoL, hr, hi, fun s2 l hk₂ hg2 hl2 hgl => ?_⟩
   · have e1 : (s.gens.setIfInBounds g₀.size .running).setIfInBounds g₀.size gs' = g₀.push gs' := by
      rw [hgs]; apply Array.ext'; simp
     show ({ heap := h₁, gens := (s.gens.setIfInBounds g₀.size .running).setIfInBounds g₀.size gs', drawn := s.drawn, toks := t₁, os := s.os } : Shared) = _
     rw [e1]
   · have hgo := hκ (s2.setGen g₀.size .running) fun b hb o e => hk₂ b hb o e
     refine wpAny_pyNext_gen (n := 0) (Y := gY S l0 env.locals v s.heap.objs.size) (P := gP s.heap.objs.size) (hA.handled hn) hl2 hA.lim hg2 (gen_get hgl) hgo (fun _ _ _ q => (q.2.2 _ fun _ _ _ e => e).elim) (fun s₃ hP h' hk' => ?_)
     obtain ⟨_, h₃, rfl, hk₃⟩ := hP
     · refine ⟨h', _, rfl, rfl, ?_, fun b o b1 b2 e => hk' b o (hk₃ b o b1 b2 e)⟩
       exact setGen_at (x := .running) (s := { s2.setGen g₀.size .running with heap := h₃ }) (setGen_at hgl)
 · exact absurd hP.1 (by decide)
end
end
section
section
variable {c : Cx} {n : Nat} {sc : Scope} {env : Env} {V0 V1 : Addr -> Prop} {h0 : Heap} {Cs : List (Str × Addr)} {X X' X'' : List Addr} {ρ ρ1 : Sto} {s s' : Shared} {P : AF -> Sto -> Prop}
theorem Fm.weakV (F : Fm c sc env V0 h0 Cs X ρ s) (hv : ∀ a, V1 a -> V0 a) : Fm c sc env V1 h0 Cs X ρ s := by
 obtain ⟨m, fps, h1, h2, h3, h4, h6, h5⟩ := F.sto
 exact ⟨F.good, F.scope, F.kind, F.globals, F.builtins, F.base, F.keep, F.tok, fun a q => F.live0 a (hv a q), F.ccells, F.new, F.cells, F.cinj, m, fps, h1, h2, h3, h4, h6, h5.weak fun a q => q.imp (hv a) id⟩
theorem lotg_cls {A : Around} {E : Value -> Shared -> Prop} {it : Addr} {o : Obj} {T : String} {tgt : Expr} {v : Value} {Q : Unit -> Shared -> Prop} (h1 : s.heap.get? it = some o) (h2 : o.cls = .type T)
 (h5 : ["enumerate", "zip", "dict_itemiterator", "dict_reverseitemiterator", "odict_iterator", "itertools.zip_longest", "itertools.pairwise"].contains T = false) (hq : Q () s) : wpAny c.M A (letOwnedTupleGo tgt (.ref it) v) Q E s := by
 have key : ∀ a : Addr, wpAny c.M A (do
  let o <- load it
  match o.cls, o.data with
  | .type n, .fields vs =>
   if ["enumerate", "zip", "dict_itemiterator", "dict_reverseitemiterator", "odict_iterator", "itertools.zip_longest", "itertools.pairwise"].contains n && vs[0]? == some (rawInt a) then
    rule "for.unpacks-the-owned-tuple"
    updateField it 0 .none
  | _, _ => pure ()) Q E s := fun a => by
  refine wB (wpAny_load h1 ?_)
  erw [h2]
  split
  · rename_i heq _
    injection heq with heq
    subst heq
    erw [h5]; exact wP hq
  · exact wP hq
 unfold letOwnedTupleGo
 split
 · cases v <;> first | exact key _ | exact wP hq
 · cases v <;> first | exact key _ | exact wP hq
 · exact wP hq
structure EvGen (c : Cx) (n : Nat) (sc : Scope) (ρ : Sto) (e : Expr) (gb : List Stmt) (S : Addr) : Prop where
 run : ∀ A env V0 h0 Cs X s, Room c n A -> Fm c sc env V0 h0 Cs X ρ s -> wpAny c.M A (eval e env) (fun v s' => ∃ s₀, Gr s s₀ /\ GenMade gb S s₀ v s') NoE s
theorem Sx.forGen {p1 p2 p3 p4 p5 p6 p7 p8 p9 p10 : Pos} {tgt e : Expr} {body : List Stmt} {pos : Pos} {S l0 l1 : Addr} {tv : Value} (he : EvGen c n sc ρ e (gAll p1 p2 p3 p4 p5 p6 p7 p8 p9 p10) S) (hL : GLists c.base S l0 l1 tv) (ht : TgtR c sc tgt (.val tv) ρ ρ1)
 (hb : Tr c n sc ρ1 body fun af ρ' => af = .next /\ P .next ρ') (hs : ∀ (env : Env) x, foldedSetIterable e env x = pure x := by intro _ _; rfl) (hn : c.hn := by assumption) : Sx c n sc ρ (.For tgt e body [] pos) P := .mk fun A env V0 h0 Cs X s hA hO F => by
 refine wpAny_For (wM (he.run A env V0 h0 Cs X s hA F) (fun v₀ s₁ q₀ => ?_) fun _ _ q => q) (hs env)
 obtain ⟨s₀, g₀, G, ge, m, h', tk, rfl, rfl, htk, hk, GE, hLn, hGn, hg⟩ := q₀
 have F₀ := F.gr g₀
 refine wpAny_pyIter_gen (s := { s₀ with heap := h', toks := tk, gens := s₀.gens.push (.fresh (.func (gAll p1 p2 p3 p4 p5 p6 p7 p8 p9 p10) ge)) }) hg ?_
 (refine x33 (id GE.ns) ?_; intro oL esL epL hoL hdL _)
 have F₁ : Fm c sc env (fun b => V0 b \/ b = ge.locals) h0 Cs X ρ { s₀ with heap := h', toks := tk, gens := s₀.gens.push (.fresh (.func (gAll p1 p2 p3 p4 p5 p6 p7 p8 p9 p10) ge)) } :=
  (F₀.addV (s' := { s₀ with heap := h', toks := tk }) hLn ⟨hk, htk, .rfl, rfl⟩ ⟨oL, hoL⟩).sameH rfl (Nat.le_refl _)
 have hkb : Keeps c.base h' := F₁.base.trans F₁.keep
 have L1 : GLists h' S l0 l1 tv := hL.keep fun b o _ e _ => hkb b o e
 refine codeAny_mono (R := fun r s' => match r with | .ok f => SPost c sc env V0 h0 Cs X s P f s' | .error _ => False) ?_ (fun r s' q => by cases r with | ok f => exact q | error e => exact q.elim)
 refine code_for (fun k s' => match k with
  | 0 => wpAny c.M A (pyNext (.ref G)) (fun r s₃ => r = none /\ SPost c sc env V0 h0 Cs X s P .next s₃) NoE s'
  | _ + 1 => s' = { s₀ with heap := h', toks := tk, gens := s₀.gens.push (.fresh (.func (gAll p1 p2 p3 p4 p5 p6 p7 p8 p9 p10) ge)) }) ?_ 1 rfl
 intro k s' I
 cases k with
 | zero =>
  refine wM I (fun r s₃ q => ?_) fun _ _ q => q
  obtain ⟨rfl, q⟩ := q
  exact wpAny_execs_nil q
 | succ k =>
  cases I
  refine wM (gen_next hn hA (F₁.st true) GE L1 hg rfl) (fun r s2 q => ?_) fun _ _ q => q
  obtain ⟨h₂, t₂, gs, rfl, rfl, ht₂, hk₂, hLl, hr, hi, next⟩ := q
  (refine x34 (id hg) ?_; intro oG nmG qnG hoG hcG hdG hsG)
  have hGL : G ≠ ge.locals := fun q => by rw [q] at hoG; rw [show h'.get? ge.locals = some oL from hoL] at hoG; cases hoG; rw [hdL] at hdG; cases hdG
  have F₂ : Fm c sc env (fun b => V0 b \/ b = ge.locals) h0 Cs X ρ { s₀ with heap := h₂, toks := t₂, gens := s₀.gens.push gs } :=
   F₁.far (P := fun b => b = ge.locals) ⟨fun b o nb e => hk₂ b o nb e, ht₂⟩
    (.v0 F₁ (fun a q => .inr q) (fun a q => (by
     cases e : h0.get? a with
     | none => rfl
     | some o => have := F₀.keep a o e; rw [q, hLn] at this; cases this)) (fun a o q e w hw => (by
     rw [q] at e; rw [show h'.get? ge.locals = some oL from hoL] at e; cases e; rw [hdL] at hw; cases hw)) fun a q => q ▸ hLl)
  refine lotg_cls (hk₂ _ _ hGL hoG) hcG (by decide) ?_
  refine wM (ht.run A env _ h0 Cs X { s₀ with heap := h₂, toks := t₂, gens := s₀.gens.push gs } tv hA.zero (fun _ => hO.own) F₂ (.val _)) (fun _ s₃ q₃ => ?_) fun _ _ q => q
  (refine x12 q₃ ?_; clear q₃; intro X3 t3 F₃)
  refine wM (hb.run A env _ h0 Cs X3 s₃ hA hO F₃) (fun f s4 q₄ => ?_) fun _ _ q => q
  obtain ⟨X4, ρ4, af, t4, F4, hf, rfl, hp⟩ := q₄
  cases hf
  refine ⟨0, Nat.succ_pos _, ?_⟩
  have tt := t3.trans t4
  refine hideG fun GG KG => ?_
  (refine x12 tt.gens.ex ?_; intro l hlb hgl)
  have hlt : ∀ {b : Addr} {o : Obj}, h'.get? b = some o -> b ≠ h'.objs.size /\ b ≠ h'.objs.size + 1 := fun e => ⟨fun q => absurd (Heap.lt_size e) (by rw [q]; exact Nat.lt_irrefl _), fun q => absurd (Heap.lt_size e) (by rw [q]; exact Nat.not_lt.mpr (Nat.le_succ _))⟩
  have hXl : ∀ b ∈ X, ∃ o, s₀.heap.get? b = some o := fun b hb => let ⟨_, _, _, _, _, h4, _, _⟩ := F₀.sto; h4 b hb
  have hNX : ∀ b, b = h'.objs.size \/ b = h'.objs.size + 1 -> b ∉ X := fun b hb hx => by
   obtain ⟨o, e⟩ := hXl b hx
   exact hb.elim (hlt (hk _ _ e)).1 (hlt (hk _ _ e)).2
  have hGX : G ∉ X := fun q => by obtain ⟨o, e⟩ := hXl G q; rw [hGn] at e; cases e
  have hN1 : ∀ b, b = h'.objs.size \/ b = h'.objs.size + 1 -> ∃ o vs, h₂.get? b = some o /\ o.data = .fields vs /\ ∃ T, o.cls = .type T /\ T ≠ "range" := fun b hb => by
   rcases hb with rfl | rfl
   · (refine x13 hr ?_; clear hr; intro o e e1 e2); exact ⟨o, _, e, e2, _, e1, by decide⟩
   · (refine x13 hi ?_; clear hi; intro o e e1 e2); exact ⟨o, _, e, e2, _, e1, by decide⟩
  have h0n : ∀ b, b = h'.objs.size \/ b = h'.objs.size + 1 -> h0.get? b = none := fun b hb => by
   cases e : h0.get? b with
   | none => rfl
   | some o => exact absurd hb (not_or.mpr (hlt (hk _ _ (F₀.keep _ _ e))))
  refine KG (wM (next s4 l (fun b hb o e => ?_) ?_ (F4.good.lim.keeps (F4.base.trans F4.keep)) (by rw [hgl]; simp)) (fun r s5 q₅ => ?_) fun _ _ q => q)
  · refine tt.keep b o ?_ e
    rcases hb with hb | hb | hb
    · exact hNX b (.inl hb)
    · exact hNX b (.inr hb)
    · subst hb
      (refine x12 hL.l0 ?_; intro ol el _)
      exact fun q => by have := F.new _ q; rw [F.base _ _ el] at this; cases this
  · exact ⟨oG, nmG, qnG, tt.keep G oG hGX (hk₂ _ _ hGL hoG), hcG, hdG, hsG⟩
  (refine x24 q₅ ?_; clear q₅; rintro h₃ g₃ rfl rfl hg₃ hk₃)
  have hkeep : ∀ b o, h'.get? b = some o -> s4.heap.get? b = some o -> h₃.get? b = some o := fun b o e e4 => hk₃ b o (hlt e).1 (hlt e).2 e4
  have hs : ∀ b o, b ∉ X -> s₀.heap.get? b = some o -> h₃.get? b = some o := fun b o hb e => by
   have hbL : b ≠ ge.locals := fun q => by rw [q, hLn] at e; cases e
   exact hkeep b o (hk _ _ e) (tt.keep b o hb (hk₂ b o hbL (hk _ _ e)))
  refine ⟨rfl, X4, ρ4, .next, ⟨fun b o hb e => hs b o hb (g₀.keep _ _ e), ?_, ?_, ?_, ?_, ?_⟩, Fm.weakV (V0 := fun b => V0 b \/ b = ge.locals) (F4.far (P := fun b => b = h'.objs.size \/ b = h'.objs.size + 1) ⟨fun b o nb e => hk₃ b o (fun q => nb (.inl q)) (fun q => nb (.inr q)) e, Nat.le_refl _⟩ ⟨h0n, fun b hb q => ?_, fun b o hb e => ?_, fun b hb q => ?_⟩) (fun a q => .inl q), .next, hp⟩
  · exact Nat.le_trans g₀.tok (Nat.le_trans htk (Nat.le_trans ht₂ tt.tok))
  · refine GUp.trans (b := s₀.gens) ⟨.finished :: l, fun y hy => (mC.mp hy).elim (fun q => q ▸ rfl) (hlb y), hg₃⟩ g₀.gens
  · exact tt.os.trans g₀.os
  · intro b hb
    rcases tt.new b hb with q | q
    · exact .inl q
    · refine .inr ?_
      cases e : s.heap.get? b with
      | none => rfl
      | some o =>
       have e1 := g₀.keep _ _ e
       have hbL : b ≠ ge.locals := fun q => by rw [q, hLn] at e1; cases e1
       have := hk₂ b o hbL (hk _ _ e1)
       rw [show h₂.get? b = none from q] at this; cases this
  · intro b hb o e
    have e1 := hk _ _ (g₀.keep _ _ e)
    have hbL : b ≠ ge.locals := fun q => by have := g₀.keep _ _ e; rw [q, hLn] at this; cases this
    obtain ⟨o', e'⟩ := tt.live b hb o (hk₂ b o hbL e1)
    exact ⟨o', hk₃ b o' (hlt e1).1 (hlt e1).2 e'⟩
  · rcases tt.new b q with q | q
    · exact hNX b hb q
    · (refine x22 (hN1 b hb) ?_; intro o _ e _)
      rw [show h₂.get? b = none from q] at e; cases e
  · (refine x23 (hN1 b hb) ?_; intro o' vs e' d' r9; refine x12 r9 ?_; clear r9; intro T hT hTr)
    have := tt.keep b o' (hNX b hb) e'
    rw [e] at this; cases this
    refine ⟨fun w hw => (by rw [d'] at hw; cases hw), .inr fun sh => ?_⟩
    rcases sh with ⟨_, _, q⟩ | ⟨_, _, q⟩ | ⟨q, _⟩
    · rw [d'] at q; cases q
    · rw [d'] at q; cases q
    · rw [hT] at q; cases q; exact hTr rfl
  · exfalso
    obtain ⟨⟨o, e⟩, _⟩ := F₁.live0 b q
    exact absurd hb (not_or.mpr (hlt e))
end
end
section
noncomputable abbrev listObj (vs : Array Value) (n : Nat) : Obj := { cls := .type "list", data := .seq vs n }
section
variable {prog : Program} {w : World} {A : Around} {E : Value -> Shared -> Prop} {s : Shared} {K : Frag} {x C dx : Addr} {m : Str -> Option Value} {k : Nat} {name : Str}
theorem get_meth {f : Addr} {pl : Sem Bool} {Q : Value × List Value -> Shared -> Prop} (X : K.In s.heap) (O : ClsOk K C) (I : Inst s.heap x C dx m k) (hf : findIn K (.ref C) name = some (some (.ref f))) (ht : typeIn K (.ref f) = some (.type "function")) (hv : m name = none)
 (h : Q (.ref f, [.ref x]) s) : wpAny (model prog w) A (getMethod (.ref x) name pl) Q E s := by
 (refine x12 I.inst ?_; intro o I' hl)
 refine method_fn X I' O.ga O.gk hf ht ?_ h
 show (lookIn name o).map _ = _
 rw [hl name, hv]; rfl
theorem get_methField {v : Value} {pl : Sem Bool} {Q : Value × List Value -> Shared -> Prop} (X : K.In s.heap) (O : ClsOk K C) (I : Inst s.heap x C dx m k) (hf : findIn K (.ref C) name = some none) (hv : m name = some v) (hh : handedIn v = true)
 (h : Q (v, []) { s with toks := s.toks + 1 }) : wpAny (model prog w) A (getMethod (.ref x) name pl) Q E s := by
 (refine x12 I.inst ?_; intro o I' hl)
 exact method_usual X I' O.ga O.gk hf rfl (get_field X O I hf hv hh h)
end
theorem sig_append : ∃ sig, Manifest.signature? "list.append" = some sig /\ ∀ a b : Value, Bind.checkArgs "list.append" { sig with full := toString (Bind.lastOf "list") ++ toString "." ++ toString (Bind.lastOf "list.append") } ⟨[a, b], []⟩ = pure () := by
 erw [signature?_of (id := "list.append") (n := ['d', 'n', 'e', 'p', 'p', 'a']) (o := ['t', 's', 'i', 'l']) (by kernel_rfl) PySem.F.owner_list]
 exact ⟨_, rfl, fun a b => by kernel_rfl⟩
theorem kind_append : builtinKind "list.append" = some .method := by decide +kernel
section
variable {prog : Program} {w : World} {A : Around} {E : Value -> Shared -> Prop} {s : Shared}
noncomputable abbrev boundObj (id : String) (a : Addr) : Obj := { cls := .type "builtin_function_or_method", data := .fields #[.builtin id, .ref a] }
theorem check_append {pa : Addr} {vs : Array Value} {nn : Nat} {x : Value} {Q : Unit -> Shared -> Prop} (ho : s.heap.get? pa = some { cls := .type "list", data := .seq vs nn }) (h : Q () s) :
 wpAny (model prog w) A (checkBoundCall "list.append" ⟨[.ref pa, x], []⟩) Q E s := by
 have hT : s.TypeIs (.ref pa) "list" := ⟨_, ho, rfl⟩
 (refine x12 sig_append ?_; intro sig hs hc)
 unfold checkBoundCall
 erw [hs, kind_append]
 dsimp only
 rw [if_neg (by decide)]
 refine wB (wpAny_isInstance (b := false) hT (by rw [isSubtype_type]; kernel_rfl) ?_)
 rw [if_neg (by decide +kernel)]
 refine wB ?_
 unfold isType
 refine wB (wpAny_load ho ?_)
 refine wP ?_
 dsimp only
 rw [if_neg (by decide)]
 refine wB (wpAny_typeOf hT ?_)
 dsimp only
 rw [hc]
 exact wP h
theorem bound_append {ba pa : Addr} {items : Array Value} {nn : Nat} {x : Value} {Q : Value -> Shared -> Prop} (hb : s.heap.get? ba = some (boundObj "list.append" pa)) (ho : s.heap.get? pa = some { cls := .type "list", data := .seq items nn })
 (hQ : ∀ h' n', h'.get? pa = some { cls := .type "list", data := .seq (items.push x) n' } -> Heap.SameBut pa s.heap h' -> Q .none { s with heap := h' }) (hsz : items.size <= 16777216) :
 wpAny (model prog w) A (call (.ref ba) [x]) Q E s := by
 obtain ⟨n', hd'⟩ := Obj.data_mapSeq (o := { cls := .type "list", data := .seq items nn }) rfl (·.push x)
 refine wpAny_call (codeAny_of_tree ?_)
 show wpAny _ _ (callAny (.ref ba) _) _ _ _
 unfold callAny
 refine wB (wpAny_load hb ?_)
 dsimp only
 rw [if_pos (by decide)]
 show wpAny _ _ (if (Value.type "builtin_function_or_method" != Value.type "method") = true then (do checkBoundCall "list.append" ⟨[.ref pa, x], []⟩; again (.builtin "list.append" ⟨[.ref pa, x], []⟩)) else again (.call (.builtin "list.append") ⟨[.ref pa, x], []⟩)) _ _ _
 rw [if_pos (by decide)]
 refine wB (check_append ho (wP ⟨Code.quiet_builtin _ (by decide +kernel), codeAny_builtin entry_list_append ?_⟩))
 show wpAny _ _ (updateSeq pa (·.push x) >>= fun _ => ret .none) _ _ s
 refine wB ?_
 refine wpAny_updateSeq ho rfl (wP (hQ _ n' ?_ (Heap.SameBut.update ..))) (by rw [sizeLine_eq]; exact hsz)
 erw [Heap.get?_update_self _ ho (Obj.isFreed_of_seq hd')]
 exact congrArg some (obj_eq (Obj.cls_mapSeq ..) ⟨(Obj.dict_mapSeq ..).1, (Obj.dict_mapSeq ..).2⟩ hd')
theorem callWith_bound {pos : Pos} {id : String} {ba pa : Addr} {args : List (Bool × Sem Value)} {Q : Value -> Shared -> Prop} (hplain : args.any (·.1) = false)
 (h : wpAny (model prog w) A (evalArgs (.ref ba) true args []) (fun a s₁ => s₁.heap.get? ba = some (boundObj id pa) /\ wpAny (model prog w) A (call (.ref ba) a.pos a.kw) Q E s₁) E s) :
 wpAny (model prog w) A (callWith pos (.ref ba) [] args []) Q E s := by
 unfold callWith
 refine wB (wH (wM h (fun a s₁ h₁ => wB (wZ ?_)) fun _ _ x => x))
 obtain ⟨hb, h₁⟩ := h₁
 simp only [hplain, List.any_nil, Bool.or_false]
 unfold keeperOf
 refine wB (wB (wpAny_load hb ?_))
 dsimp only
 rw [if_pos (by decide)]
 refine wP ?_
 show wpAny _ _ (do let r <- call (.ref ba) ([] ++ a.pos) a.kw; holding [r] point; pure r) _ _ _
 exact wB (wM h₁ (fun r s2 hr => wB (wH (wpAny_point (wP hr)))) fun _ _ x => x)
theorem Call_meth {env : Env} {o : Expr} {name : Str} {apos pos : Pos} {args : List Expr} {Q : Value -> Shared -> Prop} (hbase : attributeBase o name env (eval o env) = eval o env)
 (hp : args.all plainE = true) (hlen : decide (args.length < 30) = true) (hline : (apos.endLine == pos.line) = true)
 (h : wpAny (model prog w) A (eval o env) (fun ov s₁ => ∀ pl, wpAny (model prog w) A (getMethod ov name pl) (fun r s2 => wpAny (model prog w) A (callWith pos r.1 r.2 (backTo pos (starEach args env)) []) Q E s2) E s₁) E s) :
 wpAny (model prog w) A (eval (.Call (.Attribute o name apos) args [] pos) env) Q E s := by
 rw [arm_eval_Call, hbase]
 refine wB (wM h (fun ov s₁ h₁ => wB (wZ ?_)) fun _ _ x => x)
 have hf : methodCallForm (args.length + ([] : List Keyword).length) (backTo pos (starEach args env)) (backToKw pos (keywordEach [] env)) = true := by
  unfold methodCallForm
  have h2 := noStar_all (env := env) (pos := pos) hp
  have h3 : (backTo pos (starEach args env)).all (fun x => !x.1) = true := by
   rw [List.all_eq_not_any_not]; simpa using h2
  erw [h3]
  exact hlen
 unfold methodCall
 erw [hf]
 refine wB (wH (wM (h₁ _) (fun r s2 h₂ => ?_) fun _ _ x => x))
 unfold methodCallPos
 erw [hline]
 exact wB (wP h₂)
end
theorem slot_md_get : PySem.Slot "method_descriptor" "__get__" "method_descriptor.__get__" :=
 .of (owner := "method_descriptor") (n := "__get__") (by rw [typeLookup_type, builtinLookup_eq_fast]; kernel_rfl) (by decide +kernel) (by decide +kernel) (by decide +kernel)
  (by first | exact .inl (by decide +kernel) | exact .inr (by decide +kernel)) (by rw [isSubtype_type]; kernel_rfl)
theorem entry_md_get : entryFor table "method_descriptor.__get__" = some Builtin.«method_descriptor.__get__» := entryFor_of_tree (by kernel_rfl)
theorem args_md_get (a b c : Value) : argsOk "method_descriptor.__get__" ⟨[a, b, c], []⟩ := by unfold argsOk; kernel_rfl
theorem md_set_none : typeLookup (.type "method_descriptor") "__set__" = pure none := by rw [typeLookup_type, builtinLookup_eq_fast]; kernel_rfl
theorem md_del_none : typeLookup (.type "method_descriptor") "__delete__" = pure none := by rw [typeLookup_type, builtinLookup_eq_fast]; kernel_rfl
theorem cut_append : "list.append".cutAt '.' = ["list", "append"] := by decide +kernel
theorem sub_append : isSubtype (.type "list") (.type (".".intercalate ("list.append".cutAt '.').dropLast)) = pure true := by
 rw [cut_append, isSubtype_type]; kernel_rfl
section
variable {prog : Program} {w : World} {A : Around} {E : Value -> Shared -> Prop} {h : Heap} {g : Array GenState} {d : Drawn} {t : Nat} {os : OsState} {a : Addr} {o : Obj}
theorem append_get {R : Result -> Shared -> Prop} (hx : h.get? a = some o) (hc : o.cls = .type "list") (hq : R (.ok (.ret (.ref h.objs.size))) ⟨h.push (boundObj "list.append" a), g, d, t, os⟩) :
 codeAny (model prog w) A (.call (.builtin "method_descriptor.__get__") ⟨[.builtin "list.append", .ref a, .type "list"], []⟩) R ⟨h, g, d, t, os⟩ := by
 have hT : (⟨h, g, d, t, os⟩ : Shared).TypeIs (.ref a) "list" := ⟨_, hx, hc⟩
 have hT5 : (⟨h, g, d, t, os⟩ : Shared).TypeIs (.builtin "list.append") "method_descriptor" := PySem.F.type_list_append
 refine codeAny_call_builtin slot_md_get.plain entry_md_get (slot_md_get.check _ _ _ _ _ _ _ _ hT5 (args_md_get _ _ _) ?_)
 have f8 := sub_append
 repeat (any_goals (first | assumption | wp_step))
theorem append_entry {tk : Tok} {xs : Array Value} {k : Nat} {Q : Fin -> Shared -> Prop} (hx : h.get? a = some { cls := .type "list", dict := none, data := .seq xs k, slots := #[] }) (hq : Q (.done (.ret (.ref h.objs.size))) ⟨h.push (boundObj "list.append" a), g, d, t, os⟩) :
 wpAny (model prog w) A (Builtin.«object.__getattribute__» ⟨[.ref a, .str "append" tk], []⟩) Q E ⟨h, g, d, t, os⟩ := by
 have hT : (⟨h, g, d, t, os⟩ : Shared).TypeIs (.ref a) "list" := ⟨_, hx, rfl⟩
 have hT5 : (⟨h, g, d, t, os⟩ : Shared).TypeIs (.builtin "list.append") "method_descriptor" := PySem.F.type_list_append
 have f5 := PySem.F.type_list_append
 have f4 := PySem.F.slot_list_append.lookup
 have f6 := slot_md_get.lookup
 have f7 := md_set_none
 have f8 := md_del_none
 repeat (any_goals (first | assumption | wp_step))
 refine append_get hx rfl ?_
 repeat (any_goals (first | assumption | wp_step))
theorem getAttr_append {expr : Bool} {xs : Array Value} {k : Nat} {Q : Value -> Shared -> Prop} (hx : h.get? a = some { cls := .type "list", dict := none, data := .seq xs k, slots := #[] })
 (hq : Q (.ref h.objs.size) ⟨h.push (boundObj "list.append" a), g, d, t + 1, os⟩) : wpAny (model prog w) A (getAttr (.ref a) "append" expr) Q E ⟨h, g, d, t, os⟩ := by
 have hT : ∀ tk', (⟨h, g, d, tk', os⟩ : Shared).TypeIs (.ref a) "list" := fun _ => ⟨_, hx, rfl⟩
 have f3 := PySem.F.slot_list_getattribute.lookup
 have f4 := PySem.F.slot_list_getattribute.bind (.ref a)
 have f5 := am_list_getattr_none
 cases expr <;> unfold getAttr getAttrBy <;>
 repeat (any_goals (first | assumption | exact hT _ | ((with_reducible show wpAny _ _ (call (Value.builtin "list.__getattribute__") _ _) _ _ _); refine wpAny_call_entry PySem.F.slot_list_getattribute (hT _) am_entry_list_getattribute (append_entry hx ⟨_, rfl, wP hq⟩) (PySem.F.args_list_getattribute_2 _ _)) | wp_step))
end
end
section
structure StpF (fr fp : List Addr) (s : Shared) (fp' : List Addr) (s' : Shared) : Prop where
 keep : ∀ b o, b ∉ fp -> b ∉ fr -> s.heap.get? b = some o -> s'.heap.get? b = some o
 up : ∀ b o, b ∈ fr -> b ∉ fp -> s.heap.get? b = some o -> ∃ sl, s'.heap.get? b = some { o with slots := sl }
 tok : s.toks <= s'.toks
 gens : GUp s'.gens s.gens
 os : s'.os = s.os
 new : ∀ b ∈ fp', b ∈ fp \/ s.heap.get? b = none
 live : ∀ b ∈ fp, ∀ o, s.heap.get? b = some o -> ∃ o', s'.heap.get? b = some o'
theorem StpF.of {fr fp fp' : List Addr} {s s' : Shared} (t : Stp fp s fp' s') : StpF fr fp s fp' s' :=
 ⟨fun b o h _ e => t.keep b o h e, fun b o _ h e => ⟨o.slots, t.keep b o h e⟩, t.tok, t.gens, t.os, t.new, t.live⟩
theorem StpF.alive {fr fp fp' : List Addr} {s s' : Shared} (t : StpF fr fp s fp' s') {b : Addr} {o : Obj} (e : s.heap.get? b = some o) : ∃ o', s'.heap.get? b = some o' := by
 by_cases h1 : b ∈ fp
 · exact t.live b h1 o e
 · by_cases h2 : b ∈ fr
   · obtain ⟨sl, e'⟩ := t.up b o h2 h1 e; exact ⟨_, e'⟩
   · exact ⟨o, t.keep b o h1 h2 e⟩
section
variable {c : Cx} {n : Nat} {sc : Scope} {env : Env} {V0 : Addr -> Prop} {h0 : Heap} {Cs : List (Str × Addr)} {X : List Addr} {ρ : Sto} {s : Shared} {A : Around} {x : String} {R R' : Res} {fp fp' fps' fr : List Addr}
structure OpR (c : Cx) (env : Env) (V0 : Addr -> Prop) (Cs : List (Str × Addr)) (X : List Addr) (ρ : Sto) (x : String) (R : Res) (fp fps' : List Addr) (s : Shared) : Prop where
 ns : ∃ m, s.heap.Ns env.locals m /\ Loc env s m x R.v /\ StoR c env (Vol V0 X) s m (delS x ρ) fps'
 p : R.P fp s.heap
 nd : (env.locals :: (Cs.map (·.2) ++ (fp ++ fps'))).Nodup
 sub : ∀ b ∈ env.locals :: (Cs.map (·.2) ++ (fp ++ fps')), b ∈ X
theorem Fm.opR (F : Fm c sc env V0 h0 Cs X ρ s) (h : ρ.lookup x = some (.res R)) : ∃ fp fps', OpR c env V0 Cs X ρ x R fp fps' s := by
 obtain ⟨m, fps, h1, h2, h3, h4, h6, h5⟩ := F.sto
 (refine x44 (h5.take h) ?_; intro v fp fps' rest l rx r hp)
 obtain ⟨rfl, hP⟩ := rx.inv
 · have hx1 : (env.locals :: (Cs.map (·.2) ++ fps)).Nodup := h2 ▸ h3
   have hpm : (rest ++ (env.locals :: (Cs.map (·.2) ++ (fp ++ fps')))).Perm (env.locals :: (Cs.map (·.2) ++ fps)) := by
    refine List.perm_middle.trans (List.Perm.cons _ ?_)
    exact (List.perm_append_comm_assoc rest _ _).trans (hp.append_left _)
   exact ⟨fp, fps', ⟨m, h1, l, r⟩, hP, (List.nodup_append.mp (hpm.nodup_iff.mpr hx1)).2.1, fun b hb => h2 ▸ hpm.subset (mR _ hb)⟩
theorem OpR.gr {s' : Shared} (O : OpR c env V0 Cs X ρ x R fp fps' s) (g : Gr s s') : OpR c env V0 Cs X ρ x R fp fps' s' := by
 (refine x13 O.ns ?_; intro m h1 h2 h3)
 exact ⟨⟨m, h1.keeps g.keep, h2.calm (fun _ => rfl) fun _ _ _ _ e _ => g.keep _ _ e, h3.gr g⟩, R.keep _ _ _ O.p fun a _ o e => g.keep _ _ e, O.nd, O.sub⟩
theorem OpR.fpX (O : OpR c env V0 Cs X ρ x R fp fps' s) : ∀ a ∈ fp, a ∈ X := fun a ha => O.sub a (.tail _ (mR _ (mL _ ha)))
theorem OpR.fpN (O : OpR c env V0 Cs X ρ x R fp fps' s) : fp.Nodup := (List.nodup_append.mp (List.nodup_append.mp (List.nodup_cons.mp O.nd).2).2.1).1
theorem OpR.load {E : Value -> Shared -> Prop} {Q : Value -> Shared -> Prop} {p : Pos} (F : Fm c sc env V0 h0 Cs X ρ s) (O : OpR c env V0 Cs X ρ x R fp fps' s) (hx : x ≠ "__debug__") (h : Q R.v s) :
 wpAny c.M A (eval (.Name (oS x) p) env) Q E s := by
 (refine x13 O.ns ?_; intro m h1 h2 _)
 exact wpAny_Name (h2.load (by rw [F.scope]; exact F.kind) h1 h) (ofString_ne hx)
theorem OpR.close {s' : Shared} (F : Fm c sc env V0 h0 Cs X ρ s) (O : OpR c env V0 Cs X ρ x R fp fps' s) (hv : R'.v = R.v) (t : StpF fr fp s fp' s') (hfr : ∀ b ∈ fr, b = env.locals) (hp : R'.P fp' s'.heap) (hn : fp'.Nodup) :
 ∃ X', Stp X s X' s' /\ Fm c sc env V0 h0 Cs X' (setS ρ x (.res R')) s' := by
 (refine x13 O.ns ?_; intro m h1 h2 h3)
 obtain ⟨m0, fps0, _, hX0, _, hlv, hcl, _⟩ := F.sto
 have hLX : env.locals ∈ X := O.sub _ (.head _)
 have hnd := List.nodup_cons.mp O.nd
 have hnd2 := List.nodup_append.mp hnd.2
 have hnd3 := List.nodup_append.mp hnd2.2.1
 have hLfp : env.locals ∉ fp := fun q => hnd.1 (mR _ (mL _ q))
 have hfpX := O.fpX
 have hcalm : ∀ b o, ¬ Vol V0 X b -> s.heap.get? b = some o -> s'.heap.get? b = some o := fun b o nb e =>
  t.keep b o (fun q => nb (.inr (hfpX b q))) (fun q => nb (.inr (hfr b q ▸ hLX))) e
 have hcm : Calm (Vol V0 X) s s' := ⟨t.tok, fun b o nb e _ => hcalm b o nb e⟩
 have hofs : ∀ b o, b ∉ fp -> b ≠ env.locals -> s.heap.get? b = some o -> s'.heap.get? b = some o := fun b o h1 h2 e => t.keep b o h1 (fun q => h2 (hfr b q)) e
 have hfresh : ∀ b ∈ fp', b ∉ fp -> b ∉ X := fun b hb hnb q => by
  rcases t.new b hb with q' | q'
  · exact hnb q'
  · obtain ⟨o, e⟩ := hlv b q; rw [q'] at e; cases e
 have hfpq : ∀ b ∈ fp', ∀ b', b' ∈ env.locals :: (Cs.map (·.2) ++ fps') -> b ≠ b' := fun b hb b' hb' q => by
  subst q
  have hbX : b ∈ X := O.sub b (by
   rcases mC.mp hb' with q | q
   · exact q ▸ .head _
   · refine .tail _ ?_
     rcases mA.mp q with q | q
     · exact mL _ q
     · exact mR _ (mR _ q))
  by_cases hbf : b ∈ fp
  · rcases mC.mp hb' with q | q
    · exact hLfp (q ▸ hbf)
    · rcases mA.mp q with q | q
      · exact hnd2.2.2 b q b (mL _ hbf) rfl
      · exact hnd3.2.2 b hbf b q rfl
  · exact hfresh b hb hbf hbX
 have hXn : (env.locals :: (Cs.map (·.2) ++ (fp' ++ fps'))).Nodup := by
  refine List.nodup_cons.mpr ⟨fun q => ?_, List.nodup_append.mpr ⟨hnd2.1, List.nodup_append.mpr ⟨hn, hnd3.2.1, fun a ha b hb e => ?_⟩, fun a ha b hb e => ?_⟩⟩
  · rcases mA.mp q with q | q
    · exact hnd.1 (mL _ q)
    · rcases mA.mp q with q | q
      · exact hfpq _ q _ (.head _) rfl
      · exact hnd.1 (mR _ (mR _ q))
  · exact hfpq a ha b (.tail _ (mR _ hb)) e
  · rcases mA.mp hb with q | q
    · exact hfpq b q a (.tail _ (mL _ ha)) e.symm
    · exact hnd2.2.2 a ha b (mR _ q) e
 have hsub : ∀ b ∈ env.locals :: (Cs.map (·.2) ++ (fp' ++ fps')), b ∈ X \/ (b ∈ fp' /\ s.heap.get? b = Option.none) := fun b hb => by
  rcases mC.mp hb with q | q
  · exact .inl (q ▸ hLX)
  · rcases mA.mp q with q | q
    · exact .inl (O.sub b (.tail _ (mL _ q)))
    · rcases mA.mp q with q | q
      · rcases t.new b q with q' | q'
        · exact .inl (hfpX b q')
        · exact .inr ⟨q, q'⟩
      · exact .inl (O.sub b (.tail _ (mR _ (mR _ q))))
 have hns : s'.heap.Ns env.locals m := by
  (refine x33 h1 ?_; clear h1; intro o es ep ho hd r)
  by_cases q : env.locals ∈ fr
  · obtain ⟨sl, e⟩ := t.up _ o q hLfp ho; exact ⟨_, es, ep, e, hd, r⟩
  · exact ⟨o, es, ep, t.keep _ o hLfp q ho, hd, r⟩
 have hcell : ∀ b o w, s.heap.get? b = some o -> o.data = .cell w -> s'.heap.get? b = some o := fun b o w e hw => by
  refine hofs b o (fun q => (let ⟨o₂, e₂, h₂⟩ := R.live _ _ O.p b q; h₂ w (by rw [e] at e₂; cases e₂; exact hw))) (fun q => ?_) e
  (refine x33 h1 ?_; clear h1; intro o' es ep ho hd _)
  rw [q, ho] at e; cases e; rw [hd] at hw; cases hw
 have h30 : ∀ a o, h0.get? a = some o -> a ∉ X := fun a o e q => by rw [F.new a q] at e; cases e
 refine ⟨_, ⟨fun b o hb e => hofs b o (fun q => hb (hfpX b q)) (fun q => hb (q ▸ hLX)) e, t.tok, t.gens, t.os, fun b hb => (hsub b hb).imp id And.right, fun b _ o e => t.alive e⟩,
  ⟨F.good, F.scope, F.kind, F.globals, F.builtins, F.base, fun b o e => hofs b o (fun q => h30 b o e (hfpX b q)) (fun q => h30 b o e (q ▸ hLX)) (F.keep b o e), fun e => F.tok (Nat.le_zero.mp (e ▸ t.tok)), (fun b q => ?_), F.ccells, fun b hb => ?_, F.cells, F.cinj,
   ⟨m, _, hns, rfl, hXn, fun b hb => ?_, fun p hp => ?_, .cons (v := R'.v) (fp := fp') ?_ (.res hp) ?_⟩⟩⟩
 · obtain ⟨⟨o, e⟩, hx⟩ := F.live0 b q
   exact ⟨t.alive e, fun q' => (hsub b q').elim hx fun q'' => by rw [q''.2] at e; cases e⟩
 · rcases hsub b hb with q | q
   · exact F.new b q
   · cases e : h0.get? b with
     | none => rfl
     | some o => have := F.keep b o e; rw [q.2] at this; cases this
 · rcases hsub b hb with q | q
   · obtain ⟨o, e⟩ := hlv b q; exact t.alive e
   · exact let ⟨o₂, e₂, _⟩ := R'.live _ _ hp b q.1; ⟨o₂, e₂⟩
 · (refine x22 (hcl p hp) ?_; intro v o e d)
   exact ⟨v, o, hcell _ o _ e d, d⟩
 · rw [hv]; exact h2.calm (fun _ => rfl) fun b o w _ e hw => hcell b o w e hw
 · have h3' : StoR c env (fun a => Vol V0 X a \/ (a ∈ fp' /\ s.heap.get? a = Option.none)) s m (delS x ρ) fps' := h3.ext fun a q => q.2
   refine StoR.weak (fun b q => ?_) (h3'.change ⟨t.tok, fun b o nb e _ => hcalm b o (fun q => nb (.inl q)) e⟩ (fun b hb o e => hofs b o (fun q => hnd3.2.2 b q b hb rfl) (fun q => hnd.1 (q ▸ mR _ (mR _ hb))) e) (fun _ _ _ => rfl) fun p hp b o w _ e hw => hcell b o w e hw)
   rcases q with q | q
   · exact .inl (.inl q)
   · rcases hsub b q with q' | q'
     · exact .inl (.inr q')
     · exact .inr q'
end
theorem StpF.one {fr fp : List Addr} {a : Addr} {s : Shared} {h' : Heap} {tk : Nat} (ha : a ∈ fp) (hs : Heap.SameBut a s.heap h') (hl : ∃ o, h'.get? a = some o) (ht : s.toks <= tk) : StpF fr fp s fp { s with heap := h', toks := tk } :=
 .of ⟨fun b o hb e => (hs.2 b fun q => hb (q ▸ ha)).trans e, ht, .rfl, rfl, fun b hb => .inl hb, fun b hb o e => by
  by_cases q : b = a
  · exact q ▸ hl
  · exact ⟨o, (hs.2 b q).trans e⟩⟩
section
variable {c : Cx} {n : Nat} {sc : Scope} {ρ : Sto}
theorem Fm.left {env V h0 X X' s₁ s'} {s : Shared} {fp : List Addr} {x₀ : String} {R' : Res} {ρ' : Sto} (g : Gr s s₁) (hXc : ∀ a ∈ X, s.heap.get? a = none \/ a ∈ fp) (hfX : ∀ a ∈ fp, a ∈ X) (hfl : ∀ a ∈ fp, ∃ o, s.heap.get? a = some o)
 (hkeep : ∀ b o, b ∉ fp -> s.heap.get? b = some o -> s'.heap.get? b = some o) (t : Stp X s₁ X' s') (F : Fm c sc env V h0 env.cells X' ρ' s') (hs : SubS [(x₀, .res R')] ρ') :
 ∃ fp', StpF [] fp s fp' s' /\ R'.P fp' s'.heap /\ fp'.Nodup := by
 (refine x12 (Ent.sub (c := c) (sc := sc) hs env V h0 env.cells X' s' F) ?_; intro X'' hsub F'')
 obtain ⟨m, fps, h1, h2, h3, h4, h6, h5⟩ := F''.sto
 cases h5 with
 | cons l r rs =>
  cases rs
  rename_i fp'
  obtain ⟨_, hP⟩ := r.inv
  · have hfp' : ∀ a ∈ fp', a ∈ X'' := fun a ha => h2 ▸ .tail _ (mR _ (by simpa using ha))
    refine ⟨fp', ⟨fun b o h _ e => hkeep b o h e, fun b o h => (nomatch h), Nat.le_trans g.tok t.tok, t.gens.trans g.gens, t.os.trans g.os, fun b hb => ?_, fun b hb o e => ?_⟩, hP, ?_⟩
    · rcases t.new b (hsub b (hfp' b hb)) with q | q
      · exact (hXc b q).symm
      · refine .inr ?_
        cases e : s.heap.get? b with
        | none => rfl
        | some o => rw [g.keep _ _ e] at q; cases q
    · exact t.live b (hfX b hb) o (g.keep _ _ e)
    · have := (List.nodup_append.mp (List.nodup_cons.mp (h2 ▸ h3)).2).2.1
      simpa using this
end
end
section
noncomputable def IR (C x dx : Addr) (k : Nat) (fl : List (String × Value)) (objs : List (Addr × Obj)) : Res where
 v := .ref x
 P fp h := fp = x :: dx :: objs.map (·.1) /\ (∃ m, Inst h x C dx m k /\ ∀ y : String, m (oS y) = fl.lookup y) /\ ∀ p ∈ objs, h.get? p.1 = some p.2 /\ ∀ v, p.2.data ≠ .cell v
 live fp h q a ha := by
  (refine x03 q ?_; clear q; rintro rfl ⟨m, ⟨i1, ⟨es, ep, i2, _⟩⟩, _⟩ ho)
  simp only [mC, List.mem_map] at ha
  rcases ha with rfl | rfl | ⟨p, hp, rfl⟩
  · exact ⟨_, i1, fun _ q => nomatch q⟩
  · exact ⟨_, i2, fun _ q => nomatch q⟩
  · exact ⟨_, ho p hp⟩
 keep fp h h' q hk := by
  (refine x03 q ?_; clear q; rintro rfl ⟨m, ⟨i1, i2⟩, hm⟩ ho)
  exact ⟨rfl, ⟨m, ⟨hk x (by exact .head _) _ i1, i2.keeps (hk dx (by exact .tail _ (.head _)))⟩, hm⟩, fun p hp => ⟨hk p.1 (by simp; exact .inr (.inr ⟨p.2, hp⟩)) _ (ho p hp).1, (ho p hp).2⟩⟩
inductive Fixed (c : Cx) : D -> Value -> Prop
 | none : Fixed c .none .none
 | bool (b) : Fixed c (.bool b) (.bool b)
 | int (i t) : Fixed c (.int i) (.int i t)
 | str (x t) : Fixed c (.str x) (.str x t)
 | bytes (b t) : Fixed c (.bytes b) (.bytes (b.map UInt8.ofNat).toArray t)
 | val (v) : Fixed c (.val v) v
theorem Rep.fixed {c : Cx} {V : Addr -> Prop} {s : Shared} {d : D} {v : Value} (r : Rep c V s d v) (h : d.flat = true) : Fixed c d v := by
 cases r <;> first | (cases h; done) | constructor
section
variable {c : Cx} {n : Nat} {sc : Scope} {ρ : Sto}
structure EvV (c : Cx) (n : Nat) (sc : Scope) (ρ : Sto) (e : Expr) (Pv : Value -> Prop) : Prop where
 run : ∀ A env V0 h0 Cs X s, Room c n A -> Fm c sc env V0 h0 Cs X ρ s -> wpAny c.M A (eval e env) (fun v s' => Gr s s' /\ Pv v) (fun _ _ => False) s
theorem EvV.of {k : Bool} {e : Expr} {d : D} (h : Ev c n sc k ρ e d) (hf : d.flat = true) : EvV c n sc ρ e (Fixed c d) := .mk fun A env V0 h0 Cs X s hA F => wM (h.run A env V0 h0 Cs X s hA F) (fun _ _ q => ⟨q.1, q.2.fixed hf⟩) fun _ _ q => q
theorem EvV.of' {k : Bool} {e : Expr} {d : D} (h : Ev c n sc k ρ e d) : EvV c n sc ρ e fun _ => True := .mk fun A env V0 h0 Cs X s hA F => wM (h.run A env V0 h0 Cs X s hA F) (fun _ _ q => ⟨q.1, trivial⟩) fun _ _ q => q
structure EvNs (c : Cx) (n : Nat) (sc : Scope) (ρ : Sto) (e : Expr) (Po : Addr -> List (Addr × Obj) -> Prop) : Prop where
 run : ∀ A env V0 h0 Cs X s, Room c n A -> Fm c sc env V0 h0 Cs X ρ s ->
  wpAny c.M A (eval e env) (fun v s' => Gr s s' /\ ∃ a os, v = .ref a /\ (∀ p ∈ os, s.heap.get? p.1 = none /\ s'.heap.get? p.1 = some p.2 /\ ∀ v, p.2.data ≠ .cell v) /\ (os.map (·.1)).Nodup /\ Po a os) (fun _ _ => False) s
theorem gr_none {s s' : Shared} (g : Gr s s') {a : Addr} (h : s'.heap.get? a = none) : s.heap.get? a = none := by
 cases e : s.heap.get? a with
 | none => rfl
 | some o => rw [g.keep _ _ e] at h; cases h
theorem EvNs.nil {pos : Pos} : EvNs c n sc ρ (.List [] pos) (fun a os => os = [(a, listObj #[] 0)]) := .mk fun A env V0 h0 Cs X s hA F => by
 refine wpAny_List (wM ((EvL.nil (c := c) (n := n) (sc := sc) (k := true) (ρ := ρ)).run A env V0 h0 Cs X s pos hA F) (fun vs s₁ q => ?_) fun _ _ q => q)
 obtain ⟨g, r⟩ := q
 cases r
 refine ⟨Nat.zero_le _, g.trans (.push _), s₁.heap.objs.size, _, rfl, fun p hp => ?_, ?_, rfl⟩
 · cases mSz.mp hp
   exact ⟨gr_none g (get_size _), Heap.get?_push_size _ rfl, fun v q => nomatch q⟩
 · simp
theorem EvNs.one {e : Expr} {pos : Pos} {d : D} (h : Ev c n sc true ρ e d) (hf : d.flat = true) (hp : plainE e = true := by rfl) : EvNs c n sc ρ (.List [e] pos) (fun a os => ∃ v, Fixed c d v /\ os = [(a, listObj #[v] 0)]) := .mk fun A env V0 h0 Cs X s hA F => by
 refine wpAny_List (wM ((EvL.cons (c := c) (n := n) (sc := sc) (k := true) (ρ := ρ) h .nil hp).run A env V0 h0 Cs X s pos hA F) (fun vs s₁ q => ?_) fun _ _ q => q)
 obtain ⟨g, r⟩ := q
 replace r := r.o1
 (refine x12 r ?_; clear r; rintro _ rfl r)
 refine ⟨by rw [sizeLine_eq]; simp, g.trans (.push _), s₁.heap.objs.size, _, rfl, fun p hp => ?_, ?_, _, r.fixed hf, rfl⟩
 · cases mSz.mp hp
   exact ⟨gr_none g (get_size _), Heap.get?_push_size _ rfl, fun v q => nomatch q⟩
 · simp
section
variable {K : Frag} {C xa dx : Addr} {k : Nat} {fl : List (String × Value)} {objs : List (Addr × Obj)} {x y : String} {env : Env} {V0 : Addr -> Prop} {h0 : Heap} {Cs : List (Str × Addr)} {X : List Addr} {s : Shared}
theorem fl_upd {m : Str -> Option Value} {v : Value} (hm : ∀ z : String, m (oS z) = fl.lookup z) (z : String) : upd m (oS y) v (oS z) = ((y, v) :: fl).lookup z := by
 unfold upd
 by_cases q : z = y
 · subst q; erw [if_pos rfl]; simp
 · rw [if_neg fun e => q (ofString_inj e), hm, List.lookup_cons, show (z == y) = false from by simpa using q]
theorem Sx.iSet {e : Expr} {Pv : Value -> Prop} {xp ap pos : Pos} (XK : K.In c.base) (OK : ClsOk K C) (hx : ρ.lookup x = some (.res (IR C xa dx k fl objs))) (he : EvV c n sc ρ e Pv) (hty : takerIn K C (oS y) = some none) (hk : k <= 100000) (hxd : x ≠ "__debug__" := by decide)
 (hsw : ∀ env : Env, swapsWith e (some (.Attribute (.Name (oS x) xp) (oS y) ap)) pos.line env = pure false := by intro _; rfl) :
 Sx c n sc ρ (.Assign [.Attribute (.Name (oS x) xp) (oS y) ap] e pos) fun af ρ' => af = .next /\ ∃ v, Pv v /\ ρ' = setS ρ x (.res (IR C xa dx (k + 1) ((y, v) :: fl) objs)) := .mk fun A env V0 h0 Cs X s hA hO F => by
 refine plainObj_wpAny_Assign_Attribute (wM (he.run A env V0 h0 Cs X s hA F) (fun v s₁ q₁ => ?_) fun _ _ q => q.elim) (hsw env)
 obtain ⟨g₁, r₁⟩ := q₁
 have F₁ := F.gr g₁
 (refine x21 (F₁.opR hx) ?_; intro fp fps' O)
 refine O.load F₁ hxd ?_
 have hnd := O.fpN
 (refine x03 O.p ?_; rintro rfl ⟨m, I, hm⟩ ho)
 refine wT (Nat.le_refl _) (set_field (XK.keeps (F₁.base.trans F₁.keep)) OK I hty hk fun h' tk hn hs htk => ?_)
 have hnd' := List.nodup_cons.mp hnd
 have hxdx : xa ≠ dx := fun q => hnd'.1 (q ▸ .head _)
 have hP' : (IR C xa dx (k + 1) ((y, v) :: fl) objs).P (xa :: dx :: objs.map (·.1)) h' :=
  ⟨rfl, ⟨_, ⟨(hs.2 _ hxdx).trans I.at', hn⟩, fl_upd hm⟩, fun p hp => ⟨(hs.2 _ fun q => (List.nodup_cons.mp hnd'.2).1 (q ▸ List.mem_map_of_mem hp)).trans (ho p hp).1, (ho p hp).2⟩⟩
 (refine x22 hn ?_; clear hn; intro es ep hda _)
 (refine x12 (O.close (s' := { s₁ with heap := h', toks := tk }) F₁ (R' := IR C xa dx (k + 1) ((y, v) :: fl) objs) rfl (StpF.one (fr := []) (by exact .tail _ (.head _)) hs ⟨_, hda⟩ htk) (fun b hb => nomatch hb) hP' hnd) ?_; intro X' t' F')
 exact ⟨X', _, .next, (Stp.of_gr g₁).trans t', F', .next, rfl, v, r₁, rfl⟩
theorem Sx.iNews {e : Expr} {Po : Addr -> List (Addr × Obj) -> Prop} {xp ap pos : Pos} (XK : K.In c.base) (OK : ClsOk K C) (hx : ρ.lookup x = some (.res (IR C xa dx k fl objs))) (he : EvNs c n sc ρ e Po) (hty : takerIn K C (oS y) = some none) (hk : k <= 100000) (hxd : x ≠ "__debug__" := by decide)
 (hsw : ∀ env : Env, swapsWith e (some (.Attribute (.Name (oS x) xp) (oS y) ap)) pos.line env = pure false := by intro _; rfl) :
 Sx c n sc ρ (.Assign [.Attribute (.Name (oS x) xp) (oS y) ap] e pos) fun af ρ' => af = .next /\ ∃ a os, Po a os /\ ρ' = setS ρ x (.res (IR C xa dx (k + 1) ((y, .ref a) :: fl) (os ++ objs))) := .mk fun A env V0 h0 Cs X s hA hO F => by
 (refine x21 (F.opR hx) ?_; intro fp fps' O)
 refine plainObj_wpAny_Assign_Attribute (wM (he.run A env V0 h0 Cs X s hA F) (fun v s₁ q₁ => ?_) fun _ _ q => q.elim) (hsw env)
 (refine x02 q₁ ?_; clear q₁; intro g₁ r9; refine x24 r9 ?_; clear r9; rintro a os rfl hos hosn hPo)
 have F₁ := F.gr g₁
 have O1 := O.gr g₁
 refine O1.load F₁ hxd ?_
 have hnd := O.fpN
 (refine x03 O1.p ?_; rintro rfl ⟨m, I, hm⟩ ho)
 refine wT (Nat.le_refl _) (set_field (XK.keeps (F₁.base.trans F₁.keep)) OK I hty hk fun h' tk hn hs htk => ?_)
 have hnd' := List.nodup_cons.mp hnd
 have hxdx : xa ≠ dx := fun q => hnd'.1 (q ▸ .head _)
 have hfl := (IR C xa dx k fl objs).live _ _ O.p
 have haf : ∀ p ∈ os, p.1 ∉ xa :: dx :: objs.map (·.1) := fun p hp q => by (refine x12 (hfl p.1 q) ?_; intro o' e _); rw [(hos p hp).1] at e; cases e
 have hP' : (IR C xa dx (k + 1) ((y, .ref a) :: fl) (os ++ objs)).P (xa :: dx :: (os ++ objs).map (·.1)) h' := by
  refine ⟨rfl, ⟨_, ⟨(hs.2 _ hxdx).trans I.at', hn⟩, fl_upd hm⟩, fun p hp => ?_⟩
  rcases mA.mp hp with hp | hp
  · exact ⟨(hs.2 _ fun q => haf p hp (q ▸ .tail _ (.head _))).trans (hos p hp).2.1, (hos p hp).2.2⟩
  · exact ⟨(hs.2 _ fun q => (List.nodup_cons.mp hnd'.2).1 (q ▸ List.mem_map_of_mem hp)).trans (ho p hp).1, (ho p hp).2⟩
 have hmem : ∀ b, b ∈ os.map (·.1) -> s.heap.get? b = none /\ b ∉ xa :: dx :: objs.map (·.1) := fun b hb => by
  (refine x12 (List.mem_map.mp hb) ?_; rintro p hp rfl)
  exact ⟨(hos p hp).1, haf p hp⟩
 have hn' : (xa :: dx :: (os ++ objs).map (·.1)).Nodup := by
  erw [List.map_append]
  refine List.nodup_cons.mpr ⟨fun q => ?_, List.nodup_cons.mpr ⟨fun q => ?_, List.nodup_append.mpr ⟨hosn, (List.nodup_cons.mp hnd'.2).2, fun a ha b hb e => (hmem a ha).2 (.tail _ (.tail _ (e ▸ hb)))⟩⟩⟩
  · rcases mC.mp q with q | q
    · exact hxdx q
    · rcases mA.mp q with q | q
      · exact (hmem _ q).2 (.head _)
      · exact hnd'.1 (.tail _ q)
  · rcases mA.mp q with q | q
    · exact (hmem _ q).2 (.tail _ (.head _))
    · exact (List.nodup_cons.mp hnd'.2).1 q
 (refine x22 hn ?_; clear hn; intro es ep hda _)
 have t : StpF [] (xa :: dx :: objs.map (·.1)) s (xa :: dx :: (os ++ objs).map (·.1)) { s₁ with heap := h', toks := tk } := by
  refine ⟨fun b ob hb _ e => (hs.2 b fun q => hb (q ▸ .tail _ (.head _))).trans (g₁.keep _ _ e), (fun b o hb => (nomatch hb)), Nat.le_trans g₁.tok htk, g₁.gens, g₁.os, fun b hb => ?_, fun b hb ob e => ?_⟩
  · rw [List.map_append] at hb
    simp only [mC, mA] at hb ⊢
    rcases hb with q | q | q | q
    · exact .inl (.inl q)
    · exact .inl (.inr (.inl q))
    · exact .inr (hmem b q).1
    · exact .inl (.inr (.inr q))
  · by_cases q : b = dx
    · exact ⟨_, q ▸ hda⟩
    · exact ⟨ob, (hs.2 b q).trans (g₁.keep _ _ e)⟩
 (refine x12 (O.close (s' := { s₁ with heap := h', toks := tk }) F (R' := IR C xa dx (k + 1) ((y, .ref a) :: fl) (os ++ objs)) rfl t (fun b hb => nomatch hb) hP' hn') ?_; intro X' t' F')
 exact ⟨X', _, .next, t', F', .next, rfl, a, os, hPo, rfl⟩
theorem IR.get {v : Value} (XK : K.In c.base) (OK : ClsOk K C) (hf : findIn K (.ref C) (oS y) = some none) (hv : fl.lookup y = some v) (hh : handedIn v = true) (A : Around) (s : Shared) (fp : List Addr) (hb : Keeps c.base s.heap) (hP : (IR C xa dx k fl objs).P fp s.heap) :
 wpAny c.M A (getAttr (IR C xa dx k fl objs).v (oS y) true) (fun v' s' => Gr s s' /\ v' = v) (fun _ _ => False) s := by
 (refine x03 hP ?_; clear hP; rintro rfl ⟨m, I, hm⟩ ho)
 exact get_field (XK.keeps hb) OK I hf ((hm y).trans hv) hh ⟨Gr.toks (Nat.le_succ _), rfl⟩
theorem Sx.iApp {e : Expr} {a : Addr} {vs : Array Value} {nn : Nat} {xp fpos ap pos epos : Pos} (XK : K.In c.base) (OK : ClsOk K C) (hx : ρ.lookup x = some (.res (IR C xa dx k fl ((a, listObj vs nn) :: objs)))) (he : EvV c n sc ρ e fun _ => True) (hf : findIn K (.ref C) (oS y) = some none) (hv : fl.lookup y = some (.ref a)) (hz : vs.size <= 100)
 (hp : plainE e = true := by rfl) (hline : (ap.endLine == pos.line) = true := by rfl) (hxd : x ≠ "__debug__" := by decide)
 (hbase : ∀ env : Env, attributeBase (.Attribute (.Name (oS x) xp) (oS y) fpos) (oS "append") env (eval (.Attribute (.Name (oS x) xp) (oS y) fpos) env) = eval (.Attribute (.Name (oS x) xp) (oS y) fpos) env := by intro _; rfl)
 (hsw : ∀ env : Env, swapsWith (.Call (.Attribute (.Attribute (.Name (oS x) xp) (oS y) fpos) (oS "append") ap) [e] [] pos) none epos.line env = pure false := by intro _; rfl) :
 Sx c n sc ρ (.Expr (.Call (.Attribute (.Attribute (.Name (oS x) xp) (oS y) fpos) (oS "append") ap) [e] [] pos) epos) fun af ρ' => af = .next /\ ∃ v n', ρ' = setS ρ x (.res (IR C xa dx k fl ((a, listObj (vs.push v) n') :: objs))) := .mk fun A env V0 h0 Cs X s hA hO F => by
 (refine x21 (F.opR hx) ?_; intro fp fps' O)
 have hi : interactive env = false := by
  unfold interactive
  erw [F.scope, F.kind]; rfl
 refine wpAny_Expr_any ?_ hi (hsw env)
 refine wpAny_Call_method (T := "list") (id := "list.append") (hbase env) ?_ hline PySem.F.plainAttrs_list PySem.F.slot_list_append PySem.F.type_list_append ?_
 · erw [starEach_cons hp]; rfl
 refine Attribute_name (O.load F hxd (wM (IR.get XK OK hf hv rfl A s fp (F.base.trans F.keep) O.p) (fun lv s₁ q₁ => ?_) fun _ _ q => q.elim))
 obtain ⟨g₁, rfl⟩ := q₁
 have ha₁ := ((O.gr g₁).p.2.2 _ (.head _)).1
 refine ⟨⟨_, ha₁, rfl⟩, fun b hb => by cases hb; exact ⟨_, ha₁, rfl⟩, (Callee.builtin (c := c) "list.append").wp (first := [.ref a]) (by simp [hp]) ?_⟩
 refine wI (wM (he.run A env V0 h0 Cs X s₁ hA (F.gr g₁)) (fun v s2 q₂ => wN ?_) fun _ _ q => q.elim) (starEach_cons hp)
 have g := g₁.trans q₂.1
 have O2 := O.gr g
 have F₂ := F.gr g
 have hnd := O.fpN
 refine ⟨F₂.base.trans F₂.keep, ?_⟩
 (refine x03 O2.p ?_; rintro rfl hI ho)
 refine append_wp (ho _ (.head _)).1 rfl ⟨rfl, rfl⟩ rfl (fun h' o' n' ho' hc' hd' hdt' hs' => ?_) (by exact lt4 (by assumption) rfl)
 have ho'' : h'.get? a = some (listObj (vs.push v) n') := by rw [ho']; exact congrArg some (obj_eq hc' hd' hdt')
 have hnd' := hnd
 simp only [List.map_cons, List.nodup_cons, mC, not_or] at hnd'
 have hP' : (IR C xa dx k fl ((a, listObj (vs.push v) n') :: objs)).P (xa :: dx :: a :: objs.map (·.1)) h' := by
  (refine x12 hI ?_; clear hI; rintro m ⟨i1, i2⟩ hm)
  refine ⟨rfl, ⟨m, ⟨(hs'.2 _ hnd'.1.2.1).trans i1, i2.keeps fun o e => (hs'.2 _ hnd'.2.1.1).trans e⟩, hm⟩, fun p hp => ?_⟩
  rcases mC.mp hp with rfl | hp
  · exact ⟨ho'', fun v q => nomatch q⟩
  · exact ⟨(hs'.2 _ fun q => hnd'.2.2.1 (q ▸ List.mem_map_of_mem hp)).trans (ho p (.tail _ hp)).1, (ho p (.tail _ hp)).2⟩
 (refine x12 (O2.close (s' := { s2 with heap := h' }) F₂ (R' := IR C xa dx k fl ((a, listObj (vs.push v) n') :: objs)) rfl (StpF.one (fr := []) (a := a) (by exact .tail _ (.tail _ (.head _))) hs' ⟨_, ho''⟩ (Nat.le_refl _)) (fun b hb => nomatch hb) hP' hnd) ?_; intro X' t' F')
 exact ⟨X', _, .next, (Stp.of_gr g).trans t', F', .next, rfl, v, n', rfl⟩
end
theorem EvV.emptyDict {pos : Pos} : EvV c n sc ρ (.Dict [] [] pos) fun _ => True := .mk fun A env V0 h0 Cs X s hA F => by
 rw [eval_Dict_empty]
 refine wB (wZ ?_)
 unfold newDict
 exact wB (wpAny_alloc (wP ⟨.push _, trivial⟩))
theorem EvV.listItems {na : Addr} {x : String} {p1 p2 p3 p4 p5 : Pos} {kvs : List (Str × Value)} {ep : Nat} (hg : c.mg (oS x) = some (.ref na)) (hk : sc.names.lookup (oS x) = some .globalImplicit) (hD : c.base.DictAt (strKind c.prog c.w) na kvs ep) (hl : kvs.length <= 100) (hsys : (na == sysModules) = false)
 (hb : c.mg (oS "list") = none /\ c.mb (oS "list") = some (.type "list")) (hkl : sc.names.lookup (oS "list") = some .globalImplicit) (hn : c.hn) (hline : (p3.endLine == p4.line) = true) (hx : x ≠ "__debug__" := by decide) :
 EvV c n sc ρ (.Call (.Name (oS "list") p1) [.Call (.Attribute (.Name (oS x) p2) (oS "items") p3) [] [] p4] [] p5) (fun _ => True) := .mk fun A env V0 h0 Cs X s hA F => by
 have he : eval (.Call (.Name (oS "list") p1) [.Call (.Attribute (.Name (oS x) p2) (oS "items") p3) [] [] p4] [] p5) env = (do callWith p5 (<- eval (.Name (oS "list") p1) env) [] (backTo p5 (starEach [.Call (.Attribute (.Name (oS x) p2) (oS "items") p3) [] [] p4] env)) (backToKw p5 (keywordEach [] env))) := rfl
 erw [he]
 refine wB (wM ((Ev.blt (n := n) (k := true) (ρ := ρ) hb.1 hb.2 hkl).run A env V0 h0 Cs X s hA F) (fun fv s₁ q₁ => ?_) fun _ _ q => q.elim)
 obtain ⟨g₁, r₁⟩ := q₁
 cases r₁.inv
 refine (Callee.type (c := c) "list").wp rfl (wI ?_ (starEach_cons rfl))
 refine wpAny_Call_method (T := "dict") (id := "dict.items") rfl rfl hline PySem.F.plainAttrs_dict PySem.F.slot_dict_items PySem.F.type_dict_items ?_
 refine wM ((Ev.glob (n := n) (k := true) (ρ := ρ) hg hk hx).run A env V0 h0 Cs X s₁ hA (F.gr g₁)) (fun mv s2 q₂ => ?_) fun _ _ q => q.elim
 obtain ⟨g2', r₂⟩ := q₂
 cases r₂.inv
 have g₂ := g₁.trans g2'
 have F₂ := F.gr g₂
 (refine x26 hD ?_; clear hD; intro o es ho hx' hd hks hps hnd)
 have ho₂ := F₂.keep _ _ (F₂.base _ _ ho)
 have hDO : s2.heap.DictOf (strKind c.prog c.w) na kvs := ⟨o, es, ep, ho₂, hx', hd, hks, hps, hnd⟩
 refine ⟨hDO.typeIs, fun b hb => by cases hb; exact ⟨o, ho₂, hx'.2.1⟩, (Callee.builtin (c := c) "dict.items").wp (first := [.ref na]) rfl ?_⟩
 refine wN ⟨F₂.base.trans F₂.keep, ?_⟩
 refine call_meetsIn PySem.F.slot_dict_items hDO.typeIs PySem.F.entry_dict_items (PySem.F.args_dict_items_1 _) (meets_dict_items (strKind c.prog c.w) na hsys) ⟨⟨kvs, hDO⟩, ?_⟩
 refine wN ⟨?_, ?_⟩
 · exact fun b ob e => Heap.get?_push_of_some _ (F₂.keep _ _ (F₂.base _ _ e))
 · have hDA : s2.heap.DictAt (strKind c.prog c.w) na kvs ep := ⟨o, es, ho₂, hx', hd, hks, hps, hnd⟩
   have g₃ : Gr s2 { s2 with heap := s2.heap.push { cls := .type "dict_items", data := .fields #[.ref na] } } := .push _
   refine wM (wp_gr (s := { s2 with heap := s2.heap.push { cls := .type "dict_items", data := .fields #[.ref na] } }) (P := fun _ _ => True) (g₂.trans g₃) (wp_end (kdx_call (s := { s2 with heap := s2.heap.push { cls := .type "dict_items", data := .fields #[.ref na] } }) (knd := strKind c.prog c.w) (kvs := kvs) (ep := ep) (hA.handled hn) ⟨_, Heap.get?_push_size _ rfl, rfl, rfl⟩ (hDA.push _) (by rw [sizeLine_eq]; exact lt4 (by assumption) rfl) fun h' tk acc cc as hk hS hl hG hacc => ?_))) (fun _ _ q => ⟨q.1, trivial⟩) fun _ _ q => q
   exact ⟨hk, rfl, rfl, fun _ => trivial⟩
end
section
variable {c : Cx} {n : Nat} {sc : Scope} {ρ : Sto} {P : AF -> Sto -> Prop}
theorem Tr.stepX {st : Stmt} {rest : List Stmt} {Q : Sto -> Prop} (h : Sx c n sc ρ st fun af ρ' => af = .next /\ Q ρ') (k : ∀ ρ', Q ρ' -> Tr c n sc ρ' rest P) : Tr c n sc ρ (st :: rest) P :=
 .cons h (fun ρ' q => k ρ' q.2) fun af ρ' ho q => absurd q.1 ho
end
end
section
noncomputable abbrev xmlU : List Nat := cs "http://www.w3.org/XML/1998/namespace"
noncomputable abbrev pairObj (u v : Value) : Obj := { cls := .type "tuple", data := .seq #[u, v] 0 }
section
variable {c : Cx} {n : Nat} {sc : Scope} {ρ : Sto} {P : AF -> Sto -> Prop}
theorem EvNs.decl {e1 e2 : Expr} {k : Nat} {p1 p2 p3 : Pos} {a b : List Nat} (h1 : Ev c n sc true ρ e1 (sd a)) (h2 : Ev c n sc true ρ e2 (sd b)) (hp1 : plainE e1 = true := by rfl) (hp2 : plainE e2 = true := by rfl) :
 EvNs c n sc ρ (.List [.List [.Tuple [e1, e2] k p1] p2] p3) (fun da os => ∃ l0 t t1 t2, os = [(da, listObj #[.ref l0] 0), (l0, listObj #[.ref t] 0), (t, pairObj (.str (S a) t1) (.str (S b) t2))]) := .mk fun A env V0 h0 Cs X s hA F => by
 refine wpAny_List (wI (wpAny_List (wI (wpAny_Tuple (wM ((EvL.cons (c := c) (n := n) (sc := sc) (k := true) (ρ := ρ) h1 (.cons h2 .nil hp2) hp1).run A env V0 h0 Cs X s p1 hA F) (fun vs s₁ q => ?_) fun _ _ q => q)) (starEach_cons rfl))) (starEach_cons rfl))
 obtain ⟨g, r⟩ := q
 replace r := r.o2
 (refine x23 r ?_; clear r; rintro _ _ rfl r1 r2)
 obtain ⟨t1, rfl⟩ := r1.inv
 obtain ⟨t2, rfl⟩ := r2.inv
 have hsz : ∀ (h : Heap) (o : Obj), (h.push o).objs.size = h.objs.size + 1 := fun h o => by simp [Heap.push]
 refine ⟨by rw [sizeLine_eq]; simp, wN ⟨by rw [sizeLine_eq]; simp, wN ⟨by erw [sizeLine_eq]; simp, ?_⟩⟩⟩
 have g1 : Gr s₁ { s₁ with heap := s₁.heap.push (pairObj (.str (S a) t1) (.str (S b) t2)) } := .push _
 have g2 : Gr s₁ { s₁ with heap := (s₁.heap.push (pairObj (.str (S a) t1) (.str (S b) t2))).push (listObj #[.ref s₁.heap.objs.size] 0) } := g1.trans (.push (s := { s₁ with heap := s₁.heap.push (pairObj (.str (S a) t1) (.str (S b) t2)) }) _)
 have g3 := g2.trans (Gr.push (s := { s₁ with heap := (s₁.heap.push (pairObj (.str (S a) t1) (.str (S b) t2))).push (listObj #[.ref s₁.heap.objs.size] 0) }) (listObj #[.ref (s₁.heap.push (pairObj (.str (S a) t1) (.str (S b) t2))).objs.size] 0))
 refine ⟨g.trans g3, _, _, rfl, fun p hp => ?_, ?_, (s₁.heap.push (pairObj (.str (S a) t1) (.str (S b) t2))).objs.size, s₁.heap.objs.size, t1, t2, rfl⟩
 · simp only [mC, List.not_mem_nil, or_false] at hp
   rcases hp with rfl | rfl | rfl
   · exact ⟨gr_none g (gr_none g2 (get_size _)), Heap.get?_push_size _ rfl, fun v q => nomatch q⟩
   · exact ⟨gr_none g (gr_none g1 (get_size _)), Heap.get?_push_of_some _ (Heap.get?_push_size _ rfl), fun v q => nomatch q⟩
   · exact ⟨gr_none g (get_size _), Heap.get?_push_of_some _ (Heap.get?_push_of_some _ (Heap.get?_push_size _ rfl)), fun v q => nomatch q⟩
 · simp [hsz]; exact Nat.ne_of_gt (Nat.lt_succ_of_lt (Nat.lt_succ_self _))
end
noncomputable def initNames : List String := ["_write", "_data", "_with_comments", "_strip_text", "_exclude_attrs", "_exclude_tags", "_rewrite_prefixes", "_qname_aware_tags", "_find_qname_aware_attrs", "_declared_ns_stack", "_ns_stack", "_prefix_map", "_preserve_space", "_pending_start", "_root_seen", "_root_done", "_ignored_depth"]
noncomputable def initPars : List String := ["write", "with_comments", "strip_text", "rewrite_prefixes", "qname_aware_tags", "qname_aware_attrs", "exclude_attrs", "exclude_tags"]
noncomputable def wMethods : List String := ["_iter_namespaces", "_qname", "start", "_start", "comment", "pi"]
structure WF (ba la da sa : Addr) (m : Str -> Option Value) : Prop where
 write : m (oS "_write") = some (.ref ba)
 data : m (oS "_data") = some (.ref la)
 com : m (oS "_with_comments") = some (.bool true)
 ea : m (oS "_exclude_attrs") = some .none
 et : m (oS "_exclude_tags") = some .none
 rw : m (oS "_rewrite_prefixes") = some (.bool false)
 qt : m (oS "_qname_aware_tags") = some .none
 qa : m (oS "_find_qname_aware_attrs") = some .none
 decl : m (oS "_declared_ns_stack") = some (.ref da)
 sp : m (oS "_preserve_space") = some (.ref sa)
 seen : m (oS "_root_seen") = some (.bool false)
 done : m (oS "_root_done") = some (.bool false)
 depth : ∃ t, m (oS "_ignored_depth") = some (.int 0 t)
 meths : ∀ x ∈ wMethods, m (oS x) = none
inductive Inited (C xa dx ba : Addr) (R' : Res) : Prop
 | mk (fl : List (String × Value)) (na la da sa l0 t : Addr) (v : Array Value) (n1 : Nat) (t1 t2 : Tok) (e : R' = IR C xa dx 17 fl [(sa, listObj #[.bool false] 0), (na, listObj v n1), (da, listObj #[.ref l0] 0), (l0, listObj #[.ref t] 0), (t, pairObj (.str (S xmlU) t1) (.str (S (cs "xml")) t2)), (la, listObj #[] 0)])
  (hf : ∀ m : Str -> Option Value, (∀ y, m (oS y) = fl.lookup y) -> WF ba la da sa m) : Inited C xa dx ba R'
noncomputable abbrev selfS (C xa dx : Addr) (k : Nat) (fl : List (String × Value)) (objs : List (Addr × Obj)) (ρ : Sto) : Sto := ("self", .res (IR C xa dx k fl objs)) :: ρ
section
variable {c : Cx} {n : Nat} {sc : Scope} {K : Frag} {C xa dx : Addr} {k : Nat} {fl : List (String × Value)} {objs : List (Addr × Obj)} {y : String} {ρ : Sto} {P : AF -> Sto -> Prop} {e t : Expr} {xp ap pos fpos epos p1 : Pos} {rest : List Stmt} {Q : AF -> Sto -> Prop} {v0 : Value} {st : Stmt} {oe : List Stmt}
theorem selfS_set {R : Res} {R' : Res} (hρ : delS "self" ρ = ρ) : setS (("self", .res R) :: ρ) "self" (.res R') = ("self", .res R') :: ρ := by
 unfold setS; rw [delS, if_pos rfl, hρ]
theorem EvV.det {e : Expr} {Pv Pw : Value -> Prop} (h : EvV c n sc ρ e Pv) (q : ∀ v, Pv v -> Pw v) : EvV c n sc ρ e Pw := .mk fun A env V0 h0 Cs X s hA F => wM (h.run A env V0 h0 Cs X s hA F) (fun _ _ r => ⟨r.1, q _ r.2⟩) fun _ _ q => q
theorem EvV.val {d : D} (h : Ev c n sc true ρ e d) (hf : d.flat = true) (q : ∀ v, Fixed c d v -> v = v0) : EvV c n sc ρ e (· = v0) := (EvV.of h hf).det q
theorem fix_none (v : Value) (h : Fixed c .none v) : v = .none := by cases h; rfl
theorem fix_bool {b : Bool} (v : Value) (h : Fixed c (.bool b) v) : v = .bool b := by cases h; rfl
theorem fix_val {w : Value} (v : Value) (h : Fixed c (.val w) v) : v = w := by cases h; rfl
theorem Sn.iD (XK : K.In c.base) (OK : ClsOk K C) (hρ : delS "self" ρ = ρ) (he : EvV c n sc (selfS C xa dx k fl objs ρ) e (· = v0)) (hty : takerIn K C (oS y) = some none) (hk : k <= 100000)
 (hsw : ∀ env : Env, swapsWith e (some (.Attribute (.Name (oS "self") xp) (oS y) ap)) pos.line env = pure false := by intro _; rfl) :
 Sn c n sc (selfS C xa dx k fl objs ρ) (.Assign [.Attribute (.Name (oS "self") xp) (oS y) ap] e pos) (selfS C xa dx (k + 1) ((y, v0) :: fl) objs ρ) :=
 (Sx.iSet XK OK rfl he hty hk (by decide) hsw).mono fun af ρ' q => by obtain ⟨rfl, v, rfl, rfl⟩ := q; exact ⟨rfl, selfS_set hρ⟩
theorem Tr.iV {Pv : Value -> Prop} (XK : K.In c.base) (OK : ClsOk K C) (hρ : delS "self" ρ = ρ) (he : EvV c n sc (selfS C xa dx k fl objs ρ) e Pv) (hty : takerIn K C (oS y) = some none) (hk : k <= 100000)
 (next : ∀ v, Pv v -> Tr c n sc (selfS C xa dx (k + 1) ((y, v) :: fl) objs ρ) rest P)
 (hsw : ∀ env : Env, swapsWith e (some (.Attribute (.Name (oS "self") xp) (oS y) ap)) pos.line env = pure false := by intro _; rfl) :
 Tr c n sc (selfS C xa dx k fl objs ρ) (.Assign [.Attribute (.Name (oS "self") xp) (oS y) ap] e pos :: rest) P :=
 .stepX (Sx.iSet XK OK rfl he hty hk (by decide) hsw) fun ρ' q => by (refine x12 q ?_; clear q; rintro v h rfl); erw [selfS_set hρ]; exact next v h
theorem Tr.iN {Po : Addr -> List (Addr × Obj) -> Prop} (XK : K.In c.base) (OK : ClsOk K C) (hρ : delS "self" ρ = ρ) (he : EvNs c n sc (selfS C xa dx k fl objs ρ) e Po) (hty : takerIn K C (oS y) = some none) (hk : k <= 100000)
 (next : ∀ a os, Po a os -> Tr c n sc (selfS C xa dx (k + 1) ((y, .ref a) :: fl) (os ++ objs) ρ) rest P)
 (hsw : ∀ env : Env, swapsWith e (some (.Attribute (.Name (oS "self") xp) (oS y) ap)) pos.line env = pure false := by intro _; rfl) :
 Tr c n sc (selfS C xa dx k fl objs ρ) (.Assign [.Attribute (.Name (oS "self") xp) (oS y) ap] e pos :: rest) P :=
 .stepX (Sx.iNews XK OK rfl he hty hk (by decide) hsw) fun ρ' q => by (refine x22 q ?_; clear q; rintro a os h rfl); erw [selfS_set hρ]; exact next a os h
theorem Tr.iNil {p1 : Pos} (XK : K.In c.base) (OK : ClsOk K C) (hρ : delS "self" ρ = ρ) (hty : takerIn K C (oS y) = some none) (hk : k <= 100000)
 (next : ∀ a, Tr c n sc (selfS C xa dx (k + 1) ((y, .ref a) :: fl) ((a, listObj #[] 0) :: objs) ρ) rest P)
 (hsw : ∀ env : Env, swapsWith (.List [] p1) (some (.Attribute (.Name (oS "self") xp) (oS y) ap)) pos.line env = pure false := by intro _; rfl) :
 Tr c n sc (selfS C xa dx k fl objs ρ) (.Assign [.Attribute (.Name (oS "self") xp) (oS y) ap] (.List [] p1) pos :: rest) P :=
 .iN XK OK hρ .nil hty hk (fun a os q => q ▸ next a) hsw
theorem Sx.iA {a : Addr} {vs : Array Value} {nn : Nat} (XK : K.In c.base) (OK : ClsOk K C) (hρ : delS "self" ρ = ρ) (he : EvV c n sc (selfS C xa dx k fl ((a, listObj vs nn) :: objs) ρ) e fun _ => True) (hf : findIn K (.ref C) (oS y) = some none) (hv : fl.lookup y = some (.ref a)) (hz : vs.size <= 100)
 (hp : plainE e = true := by rfl) (hline : (ap.endLine == pos.line) = true := by rfl)
 (hbase : ∀ env : Env, attributeBase (.Attribute (.Name (oS "self") xp) (oS y) fpos) (oS "append") env (eval (.Attribute (.Name (oS "self") xp) (oS y) fpos) env) = eval (.Attribute (.Name (oS "self") xp) (oS y) fpos) env := by intro _; rfl)
 (hsw : ∀ env : Env, swapsWith (.Call (.Attribute (.Attribute (.Name (oS "self") xp) (oS y) fpos) (oS "append") ap) [e] [] pos) none epos.line env = pure false := by intro _; rfl) :
 Sx c n sc (selfS C xa dx k fl ((a, listObj vs nn) :: objs) ρ) (.Expr (.Call (.Attribute (.Attribute (.Name (oS "self") xp) (oS y) fpos) (oS "append") ap) [e] [] pos) epos) fun af ρ' => af = .next /\ ∃ v n', ρ' = selfS C xa dx k fl ((a, listObj (vs.push v) n') :: objs) ρ :=
 (Sx.iApp XK OK rfl he hf hv hz hp hline (by decide) hbase hsw).mono fun af ρ' q => by obtain ⟨rfl, v, n', rfl⟩ := q; exact ⟨rfl, v, n', selfS_set hρ⟩
theorem Tr.nextA {a : Addr} {vs : Array Value} {ρ1 : Sto} (h : Sx c n sc ρ st fun af ρ' => af = .next /\ ∃ v n', ρ' = selfS C xa dx k fl ((a, listObj (vs.push v) n') :: objs) ρ1) (next : ∀ v n', Tr c n sc (selfS C xa dx k fl ((a, listObj (vs.push v) n') :: objs) ρ1) rest P) : Tr c n sc ρ (st :: rest) P :=
 .stepX h fun ρ' q => by (refine x21 q ?_; clear q; rintro v n' rfl); exact next v n'
theorem Sx.els (h : Tst c n sc ρ t false) (hs : Sx c n sc ρ st Q) : Sx c n sc ρ (.If t oe [st] pos) Q := .ite h (fun q => nomatch q) fun _ => .last hs
theorem Sx.thn (h : Tst c n sc ρ t true) (hs : Sx c n sc ρ st Q) : Sx c n sc ρ (.If t [st] oe pos) Q := .ite h (fun _ => .last hs) fun q => nomatch q
end
section
variable {c : Cx} {n : Nat} {K : Frag} {C : Addr}
theorem init_tr {xa dx ba na : Addr} {kvs : List (Str × Value)} {ep : Nat} (hn : c.hn) (XK : K.In c.base) (OK : ClsOk K C) (hfl : ∀ y ∈ initNames, findIn K (.ref C) (oS y) = some none)
 (hg : c.mg (oS "_namespace_map") = some (.ref na)) (hD : c.base.DictAt (strKind c.prog c.w) na kvs ep) (hl : kvs.length <= 100) (hsys : (na == sysModules) = false)
 (hb : c.mg (oS "list") = none /\ c.mb (oS "list") = some (.type "list")) :
 Tr c n (msc 0) (("self", .res (IR C xa dx 0 [] [])) :: stoOf initPars [.val (.ref ba), .bool true, .bool false, .bool false, .none, .none, .none, .none]) (mbd 0)
  fun af ρ' => (∀ d', af ≠ .ret d') /\ ∃ R', Inited C xa dx ba R' /\ SubS [("self", .res R')] ρ' := by
 have ht : ∀ y ∈ initNames, takerIn K C (oS y) = some none := fun y hy => by unfold takerIn; erw [hfl y hy]; rfl
 have hρ : delS "self" (stoOf initPars [.val (.ref ba), .bool true, .bool false, .bool false, .none, .none, .none, .none]) = stoOf initPars [.val (.ref ba), .bool true, .bool false, .bool false, .none, .none, .none, .none] := rfl
 refine .step (.iD XK OK hρ (.val (.name rfl) rfl fix_val) (ht "_write" (by decide)) (by decide)) ?_
 refine .iNil XK OK hρ (ht "_data" (by decide)) (by decide) fun la => ?_
 refine .step (.iD XK OK hρ (.val (.name rfl) rfl fix_bool) (ht "_with_comments" (by decide)) (by decide)) ?_
 refine .step (.iD XK OK hρ (.val (.name rfl) rfl fix_bool) (ht "_strip_text" (by decide)) (by decide)) ?_
 refine .step (.iD XK OK hρ (.val (d := .none) (.ite (.val (.name rfl) TruR.none) (fun q => nomatch q) fun _ => .none) rfl fix_none) (ht "_exclude_attrs" (by decide)) (by decide)) ?_
 refine .step (.iD XK OK hρ (.val (d := .none) (.ite (.val (.name rfl) TruR.none) (fun q => nomatch q) fun _ => .none) rfl fix_none) (ht "_exclude_tags" (by decide)) (by decide)) ?_
 refine .step (.iD XK OK hρ (.val (.name rfl) rfl fix_bool) (ht "_rewrite_prefixes" (by decide)) (by decide)) ?_
 refine .step (.els (.val (.name rfl) TruR.none) (Sn.iD XK OK hρ (.val .none rfl fix_none) (ht "_qname_aware_tags" (by decide)) (by decide))) ?_
 refine .step (.els (.val (.name rfl) TruR.none) (Sn.iD XK OK hρ (.val .none rfl fix_none) (ht "_find_qname_aware_attrs" (by decide)) (by decide))) ?_
 refine .iN XK OK hρ (.decl .lit .lit) (ht "_declared_ns_stack" (by decide)) (by decide) fun da _ h => ?_
 (refine x41 h ?_; clear h; rintro l0 t t1 t2 rfl)
 refine .iNil XK OK hρ (ht "_ns_stack" (by decide)) (by decide) fun na' => ?_
 refine .nextA (.thn (.not (b := false) (.val (.name rfl) TruR.bool)) (.iA XK OK hρ (.listItems hg rfl hD hl hsys hb rfl hn rfl) (hfl "_ns_stack" (by decide)) rfl (by decide))) fun v9 n9 => ?_
 refine .nextA (.iA XK OK hρ (.of' (k := true) (.list .nil (by rw [sizeLine_eq]; simp))) (hfl "_ns_stack" (by decide)) rfl (by simp)) fun v10 n10 => ?_
 refine .iV XK OK hρ .emptyDict (ht "_prefix_map" (by decide)) (by decide) fun v11 _ => ?_
 refine .iN XK OK hρ (.one .bool rfl) (ht "_preserve_space" (by decide)) (by decide) fun sa _ h => ?_
 (refine x12 h ?_; clear h; rintro v12 h12 rfl)
 cases fix_bool _ h12
 refine .step (.iD XK OK hρ (.val .none rfl fix_none) (ht "_pending_start" (by decide)) (by decide)) ?_
 refine .step (.iD XK OK hρ (.val .bool rfl fix_bool) (ht "_root_seen" (by decide)) (by decide)) ?_
 refine .step (.iD XK OK hρ (.val .bool rfl fix_bool) (ht "_root_done" (by decide)) (by decide)) ?_
 refine .iV XK OK hρ (.of (k := true) .int rfl) (ht "_ignored_depth" (by decide)) (by decide) fun v16 h16 => ?_
 cases h16 with
 | int _ tk =>
 refine .nil ⟨(fun _ q => (nomatch q)), _, ⟨_, na', la, da, sa, l0, t, _, _, t1, t2, rfl, fun m hm => ?_⟩, .cons rfl .nil⟩
 refine ⟨hm _, hm _, hm _, hm _, hm _, hm _, hm _, hm _, hm _, hm _, hm _, hm _, ⟨tk, hm _⟩, fun x hx => (hm x).trans ?_⟩
 simp only [wMethods, mC, List.not_mem_nil, or_false] at hx
 rcases hx with rfl | rfl | rfl | rfl | rfl | rfl <;> rfl
end
end
section
section
variable {c : Cx} {n : Nat} {sc : Scope} {ρ : Sto} {K : Frag} {C : Addr}
theorem runE {Ok : Res -> Prop} {a : Addr} {x₀ : String} {ps : List String} {body : List Stmt} {ds : List D} {R : Res} {args : Args} {vs : List Value} (hd : IsDefB c a sc (x₀ :: ps) body args (R.v :: vs)) (hnl : ¬ c.lsc sc) (hl : ps.length = ds.length)
 (h : Tr c n sc ((x₀, .res R) :: stoOf ps ds) body fun af ρ' => (∀ d', af ≠ .ret d') /\ ∃ R', Ok R' /\ SubS [(x₀, .res R')] ρ') {A : Around} {V : Addr -> Prop} {s : Shared} {fp : List Addr} (hA : Room c (n + 1) A) (hS : St c V s) (hfV : ∀ a ∈ fp, ¬ V a) (hfn : fp.Nodup) (hfb : ∀ a ∈ fp, c.base.get? a = none) (hP : R.P fp s.heap) (r : RepL c (fun a => V a \/ a ∈ fp) s ds vs) :
 codeAny c.M A (.call (.ref a) args) (fun r s' => match r with | .ok (.ret v) => s.toks <= s'.toks -> v = .none /\ ∃ R' fp', Ok R' /\ StpF [] fp s fp' s' /\ R'.P fp' s'.heap /\ fp'.Nodup | .ok _ => False | .error e => s.toks <= s'.toks -> False) s := by
 have r0 : RepSL c (fun a => V a \/ a ∈ fp) s (.res R :: ds.map .val) (R.v :: vs) (fp ++ []) := .cons (.res hP) r.slots
 rw [List.append_nil] at r0
 refine fn_enterSC (fp := fp) (sls := .res R :: ds.map .val) (Q := fun v s' => v = .none /\ ∃ R' fp', Ok R' /\ StpF [] fp s fp' s' /\ R'.P fp' s'.heap /\ fp'.Nodup) (E := fun _ _ => False) hd (by simp [hl]) hA hS hfV hfn hfb r0 fun env X s₁ hf hnl' g F hO hXc hfX => ?_
 have F₁ : Fm c sc env V (hideAll s.heap fp) env.cells X ((x₀, .res R) :: stoOf ps ds) s₁ := by
  have := F
  rw [List.zip_cons_cons, stoOf_zip] at this
  exact this
 refine wM (h.run (A.deeper env) env V _ env.cells X s₁ (hA.deeper env) ⟨hO, fun q => absurd q hnl⟩ F₁) (fun f s' q _ => ?_) fun _ _ q => q.elim
 obtain ⟨X', ρ', af, t, F', hfl, hp, R', hok, hs⟩ := q
 (refine x13 (Fm.left g hXc hfX (fun a ha => let ⟨o, e, _⟩ := R.live _ _ hP a ha; ⟨o, e⟩) (fun b o hb e => F'.keep b o (hideAll_get _ e hb)) t F' hs) ?_; intro fp' ht hP' hn')
 refine ⟨?_, R', fp', hok, ht, hP', hn'⟩
 cases hfl with
 | ret r' => exact absurd rfl (hp _)
 | _ => rfl
noncomputable abbrev kwC : List (Str × Value) := [(oS "with_comments", .bool true)]
structure KC (c : Cx) (K : Frag) (C f na : Addr) (kvs : List (Str × Value)) (ep : Nat) : Prop where
 hn : c.hn
 XK : K.In c.base
 OK : ClsOk K C
 flds : ∀ y ∈ initNames, findIn K (.ref C) (oS y) = some none
 makes : makesIn K C = true
 keeps : keepIn K (.ref C) = true
 init : findIn K (.ref C) "__init__" = some (some (.ref f))
 fn : typeIn K (.ref f) = some (.type "function")
 nl : ¬ c.lsc (msc 0)
 hd : ∀ xa ba, IsDefB c f (msc 0) ("self" :: initPars) (mbd 0) ⟨[.ref xa, .ref ba], kwC⟩ [.ref xa, .ref ba, .bool true, .bool false, .bool false, .none, .none, .none, .none]
 g : c.mg (oS "_namespace_map") = some (.ref na)
 D : c.base.DictAt (strKind c.prog c.w) na kvs ep
 l : kvs.length <= 100
 sys : (na == sysModules) = false
 blist : c.mg (oS "list") = none /\ c.mb (oS "list") = some (.type "list")
structure WA where
 wa : Addr
 dx : Addr
 la : Addr
 da : Addr
 sa : Addr
 l0 : Addr
 ta : Addr
 ba : Addr
 oa : Addr
 t1 : Tok
 t2 : Tok
noncomputable abbrev WA.fp (W : WA) : List Addr := [W.wa, W.dx, W.sa, W.da, W.l0, W.ta, W.la]
structure WSt (C : Addr) (W : WA) (h : Heap) : Prop where
 inst : ∃ m, Inst h W.wa C W.dx m 17 /\ WF W.ba W.la W.da W.sa m
 ba : h.get? W.ba = some (boundObj "list.append" W.oa)
 l0 : h.get? W.l0 = some (listObj #[.ref W.ta] 0)
 ta : h.get? W.ta = some (pairObj (.str (S xmlU) W.t1) (.str (S (cs "xml")) W.t2))
 la : h.get? W.la = some (listObj #[] 0)
theorem WSt.keeps {W : WA} {h h' : Heap} (x : WSt C W h) (k : Keeps h h') : WSt C W h' :=
 let ⟨⟨m, ⟨i1, i2⟩, wf⟩, b, l, t, a⟩ := x; ⟨⟨m, ⟨k _ _ i1, i2.keeps fun o e => k _ o e⟩, wf⟩, k _ _ b, k _ _ l, k _ _ t, k _ _ a⟩
inductive Made (C ba oa : Addr) (s : Shared) (v : Value) (s' : Shared) : Prop
 | mk (W : WA) (e : v = .ref W.wa) (g : Gr s s') (eb : W.ba = ba) (eo : W.oa = oa) (st : WSt C W s'.heap) (hda : s'.heap.get? W.da = some (listObj #[.ref W.l0] 0)) (hsa : s'.heap.get? W.sa = some (listObj #[.bool false] 0)) (nd : W.fp.Nodup) (nw : ∀ a ∈ W.fp, s.heap.get? a = none) : Made C ba oa s v s'
theorem make_run {f na ba oa : Addr} {kvs : List (Str × Value)} {ep : Nat} (Y : KC c K C f na kvs ep) {A : Around} {V : Addr -> Prop} {s : Shared} (hA : Room c (n + 2) A) (hS : St c V s) (hba : s.heap.get? ba = some (boundObj "list.append" oa)) :
 wpAny c.M A (call (.ref C) [.ref ba] kwC) (Made C ba oa s) (fun _ _ => False) s := by
 obtain ⟨h, g, d, t, os⟩ := s
 refine wT (Nat.le_refl _) (wpAny_call ?_)
 have hX := Y.XK.keeps hS.keep
 have hA' : Room c (n + 1) (A.under (.builtin "type.__call__" ⟨.ref C :: [.ref ba], kwC⟩)) := by
  refine ⟨fun q => hA.handled q, ?_, ?_, hA.guards⟩
  · have := hA.depth
    show A.depth + 1 + (n + 1) < 900
    omega
  · have := hA.units
    show A.units + 1 + 10 * (n + 1) + 100 < cLine
    omega
 refine make_core (makes_of hX Y.makes) (looks_findIn hX Y.init) (fun self => bind_fn hX self Y.fn) (.inl rfl) ?_
 have hk : Keeps h ((h.push emptyDict).push (instObj C h.objs.size)) := fun b o e => Heap.get?_push_of_some _ (Heap.get?_push_of_some _ e)
 have hdx : ((h.push emptyDict).push (instObj C h.objs.size)).get? h.objs.size = some emptyDict := Heap.get?_push_of_some _ (Heap.get?_push_size _ rfl)
 have hx : ((h.push emptyDict).push (instObj C h.objs.size)).get? (h.objs.size + 1) = some (instObj C h.objs.size) := by
  have := Heap.get?_push_size (h := h.push emptyDict) (o := instObj C h.objs.size) rfl
  rwa [Heap.size_push] at this
 have hnx : h.get? (h.objs.size + 1) = none := by
  cases e : h.get? (h.objs.size + 1) with
  | none => rfl
  | some o => exact absurd (Heap.lt_size e) (Nat.not_lt.mpr (Nat.le_succ _))
 have g₁ : Gr ⟨h, g, d, t, os⟩ ⟨(h.push emptyDict).push (instObj C h.objs.size), g, d, t, os⟩ := ⟨hk, Nat.le_refl _, .rfl, rfl⟩
 have hfresh : ∀ a ∈ [h.objs.size + 1, h.objs.size], h.get? a = none := fun a ha => by
  simp only [mC, List.not_mem_nil, or_false] at ha
  rcases ha with rfl | rfl
  · exact hnx
  · exact get_size h
 refine codeAny_with_toks (n := t) (Nat.le_refl _) (codeAny_mono (runE (Ok := Inited C (h.objs.size + 1) h.objs.size ba) (R := IR C (h.objs.size + 1) h.objs.size 0 [] []) (V := V) (fp := [h.objs.size + 1, h.objs.size]) (Y.hd _ ba) Y.nl rfl
  (init_tr Y.hn Y.XK Y.OK Y.flds Y.g Y.D Y.l Y.sys Y.blist) hA' (hS.gr g₁) (fun a ha q => ?_) (by simp) (fun a ha => ?_) ?_ ?_) fun r' s' q ht => ?_)
 · obtain ⟨o, e⟩ := hS.live a q
   have := hfresh a ha
   rw [show h.get? a = some o from e] at this; cases this
 · cases e : c.base.get? a with
   | none => rfl
   | some o =>
    have e' := hS.keep _ _ e
    rw [show h.get? a = none from hfresh a ha] at e'; cases e'
 · exact ⟨rfl, ⟨fun _ => none, ⟨hx, ⟨#[], 0, hdx, fun e he => by simp at he, fun _ => rfl, Nat.le_refl _⟩⟩, fun _ => rfl⟩, fun p hp => nomatch hp⟩
 · exact .cons (.val _) (.cons (.bool _) (.cons (.bool _) (.cons (.bool _) (.cons .none (.cons .none (.cons .none (.cons .none .nil)))))))
 · cases r' with
   | error e => exact fun _ => q ht
   | ok fl =>
   cases fl with
   | ret v =>
    (refine x02 (q ht) ?_; rintro rfl r9; refine x24 r9 ?_; clear r9; rintro R' fp' ⟨fl, na', la, da, sa, l0, ta, vn, n1, t1, t2, rfl, hf⟩ hst hP hnd)
    (refine x03 hP ?_; clear hP; rintro rfl ⟨m, I, hm⟩ ho)
    simp only [List.map_cons, List.map_nil] at hnd hst
    have ho' : ∀ b o, (b, o) ∈ [(sa, listObj #[.bool false] 0), (na', listObj vn n1), (da, listObj #[.ref l0] 0), (l0, listObj #[.ref ta] 0), (ta, pairObj (.str (S xmlU) t1) (.str (S (cs "xml")) t2)), (la, listObj #[] 0)] -> s'.heap.get? b = some o := fun b o hb => (ho (b, o) hb).1
    refine ⟨rfl, fun _ => ⟨⟨h.objs.size + 1, h.objs.size, la, da, sa, l0, ta, ba, oa, t1, t2⟩, rfl, ⟨fun a o e => hst.keep a o (fun q => ?_) (fun q => nomatch q) (hk _ _ e), ht, hst.gens, hst.os⟩, rfl, rfl, ⟨⟨m, I, hf m hm⟩, ?_, ho' l0 _ (.tail _ (.tail _ (.tail _ (.head _)))), ho' ta _ (.tail _ (.tail _ (.tail _ (.tail _ (.head _))))), ho' la _ (.tail _ (.tail _ (.tail _ (.tail _ (.tail _ (.head _))))))⟩, ho' da _ (.tail _ (.tail _ (.head _))), ho' sa _ (.head _), ?_, ?_⟩⟩
    · have := hfresh a q
      rw [show h.get? a = some o from e] at this; cases this
    · refine hst.keep ba _ (fun q => ?_) (fun q => nomatch q) (hk _ _ hba)
      have := hfresh ba q
      rw [show h.get? ba = some _ from hba] at this; cases this
    · refine List.Sublist.nodup ?_ hnd
      show List.Sublist [h.objs.size + 1, h.objs.size, sa, da, l0, ta, la] [h.objs.size + 1, h.objs.size, sa, na', da, l0, ta, la]
      exact .cons_cons _ (.cons_cons _ (.cons_cons _ (.cons _ (List.Sublist.refl _))))
    · intro a ha
      have hin : a ∈ [h.objs.size + 1, h.objs.size, sa, na', da, l0, ta, la] := (show List.Sublist [h.objs.size + 1, h.objs.size, sa, da, l0, ta, la] [h.objs.size + 1, h.objs.size, sa, na', da, l0, ta, la] from .cons_cons _ (.cons_cons _ (.cons_cons _ (.cons _ (List.Sublist.refl _))))).subset ha
      rcases hst.new a hin with q | q
      · exact hfresh a q
      · cases e : h.get? a with
        | none => rfl
        | some o => rw [hk _ _ e] at q; cases q
   | _ => exact q.elim
end
end
section
noncomputable abbrev setObj (es : Array (Int × Value)) (ep : Nat) (t : SetTable) : Obj := { cls := .type "set", data := .set es ep t }
structure Tb (t : SetTable) (n : Nat) : Prop where
 size : t.place.size = n
 dum : t.dummies = #[]
 mask : 7 <= t.mask
theorem Tb.fits {t : SetTable} {n : Nat} (x : Tb t n) (hn : n <= 3) : t.fits n = true := by
 have h2 : t.fill = n := by unfold SetTable.fill; rw [x.dum, x.size]; rfl
 have := x.mask
 simp [SetTable.fits, x.size, h2]
 omega
theorem Tb.notFull {t : SetTable} {n : Nat} (x : Tb t n) (hn : n <= 3) : t.tooFull = false := by
 have h2 : t.fill = n := by unfold SetTable.fill; rw [x.dum, x.size]; rfl
 have := x.mask
 simp [SetTable.tooFull, h2]
 omega
theorem Tb.room {t : SetTable} {n : Nat} (x : Tb t n) (hn : n <= 3) : t.roomFor 1 = none := by
 have h2 : t.fill = n := by unfold SetTable.fill; rw [x.dum, x.size]; rfl
 have := x.mask
 unfold SetTable.roomFor
 rw [h2, if_neg (by omega)]
theorem insertAt_size {α : Type} (xs : Array α) (p : Nat) (x : α) : (SetTable.insertAt xs p x).size = xs.size + 1 := by
 rw [<- Array.length_toList, (SetTable.insertAt_perm xs p x).length_eq]; simp
theorem layNew_tb {t : SetTable} {es : Array (Int × Value)} {h : Int} {x : Value} {n : Nat} (T : Tb t n) (hn : n <= 2) (he : es.size = n) : Tb (layNew t es h x).2.1 (n + 1) := by
 unfold layNew
 split
 · rename_i slot wd _
   have h1 : (t.put slot).1.dummies = #[] := by
    unfold SetTable.put
    dsimp only
    erw [T.dum]; rfl
   have T' : Tb (t.put slot).1 (n + 1) := ⟨(insertAt_size _ _ _).trans (by rw [T.size]), h1, T.mask⟩
   dsimp only
   unfold SetTable.orStandIn
   rw [if_pos (by rw [insertAt_size, he]; exact T'.fits (by omega))]
   exact T'
 · rename_i hnone
   refine ⟨?_, rfl, ?_⟩
   · simp [SetTable.standIn, he]
   · show 7 <= 4 * (es.size + 1) + 4
     omega
section
variable {prog : Program} {w : World} {A : Around} {E : Value -> Shared -> Prop} {s : Shared}
theorem tb_off {t : SetTable} {n : Nat} (T : Tb t n) : Tb { t with plain := false } n := ⟨T.size, T.dum, T.mask⟩
theorem set_put {a : Addr} {es : Array (Int × Value)} {ep : Nat} {t : SetTable} {y : Str} {tk : Tok} {n : Nat} {Q : Bool -> Shared -> Prop} (ho : s.heap.get? a = some (setObj es ep t)) (T : Tb t n) (hn : n <= 2) (hel : ElemsOf (strKind prog w) es.toList) (he : es.size = n)
 (hnew : es.toList.findIdx? (fun e => (strKind prog w).is y e.2) = none)
 (h : ∀ h' es1 t1, Heap.SameBut a s.heap h' -> h'.get? a = some (setObj es1 (ep + 1) t1) -> Tb t1 (n + 1) -> t1.plain = false -> es1.toList.Perm (es.toList ++ [((strKind prog w).hash y, .str y tk)]) -> Q true { s with heap := h' }) :
 wpAny (model prog w) A (setAddHashed a (.str y tk) ((strKind prog w).hash y)) Q E s := by
 have hf : t.fits es.size = true := he ▸ T.fits (by exact lt4 (by assumption) rfl)
 have hkey : (strKind prog w).is y (.str y tk) = true := strKind_is prog w y tk
 have hb : es.size < scanBound := by rw [he]; show n < 4096; omega
 unfold setAddHashed setAddHashedIn
 refine wH (wB (wpAny_setState_of ho rfl hf ?_))
 dsimp only
 rw [byScan_of rfl hb hel]
 simp only [↓reduceIte]
 unfold setAddByScan
 refine wB (wB (wpAny_rule (wB (wpAny_setScan_of hkey ho rfl hf hel ?_))))
 erw [hnew]
 dsimp only
 have hp := layNew_perm t es ((strKind prog w).hash y) (.str y tk)
 have hT := layNew_tb (h := (strKind prog w).hash y) (x := .str y tk) T hn he
 generalize layNew t es ((strKind prog w).hash y) (.str y tk) = L at hp hT ⊢
 obtain ⟨es1, t1, wd, gave⟩ := L
 dsimp only at hp hT ⊢
 rw [Array.toList_push] at hp
 have hz1 : es1.size <= sizeLine := by
  rw [<- Array.length_toList, hp.length_eq, List.length_append, Array.length_toList, he, sizeLine_eq]
  show n + 1 <= _
  omega
 have fin : ∀ (g : Bool -> Sem Unit) (t2 : SetTable), Tb t2 (n + 1) -> t2.plain = false -> wpAny (model prog w) A (do
  storeSet a es1 t2
  if (!wd && t2.tooFull) = true then do
   g (relayAll t2 es1 (SetTable.grown es1.size)).2.2
   storeSet a (relayAll t2 es1 (SetTable.grown es1.size)).1 (relayAll t2 es1 (SetTable.grown es1.size)).2.1
   pure (some true)
   else pure (some true)) (fun a_1 s' => wpAny (model prog w) A (match a_1 with | some added => pure added | none => setAddHashedIn a (.str y tk) ((strKind prog w).hash y) 99999) Q E s') E s := fun g t2 T2 hp2 => by
  rw [T2.notFull (by omega), Bool.and_false, if_neg Bool.false_ne_true]
  refine wB (wpAny_storeSet_of ho rfl (wP (wP (h _ es1 t2 (.update _ _ _) ?_ T2 hp2 hp))) hz1)
  have := Heap.get?_update_self (Obj.putSet es1 t2) ho (by rw [putSet_of es1 t2 rfl]; rfl)
  rw [putSet_of es1 t2 rfl] at this; exact this
 have hgw : ∀ {Q' : Unit -> Shared -> Prop}, Q' () s -> wpAny (model prog w) A (match gave with | true => rule "set.scan.the-table-gave-way" | false => pure ()) Q' E s := fun hq => by
  cases gave <;> first | exact wP hq | exact wpAny_rule hq
 refine wB (hgw ?_)
 split
 · refine wB ?_
   rw [hashByValue_scannable 8 rfl]
   refine wP ?_
   exact fin _ _ (tb_off hT) rfl
 · rename_i hpl
   refine wB (wP ?_)
   simp only [↓reduceIte]
   exact fin _ _ hT (by simpa using hpl)
end
end
section
theorem owner_si : Manifest.owners.lookup (String.ofList ['r', 'o', 't', 'a', 'r', 'e', 't', 'i', '_', 't', 'e', 's'].reverse) = some Manifest.sig_set_iterator := by kernel_rfl
theorem slot_si_next : PySem.Slot "set_iterator" "__next__" "set_iterator.__next__" :=
 .of (owner := "set_iterator") (n := "__next__") (by rw [typeLookup_type, builtinLookup_eq_fast]; kernel_rfl) (by decide +kernel) (by decide +kernel) (by decide +kernel)
  (by first | exact .inl (by decide +kernel) | exact .inr (by decide +kernel)) (by rw [isSubtype_type]; kernel_rfl)
theorem entry_si_next : entryFor table "set_iterator.__next__" = some Builtin.«set_iterator.__next__» := entryFor_of_tree (by kernel_rfl)
theorem args_si_next (a : Value) : argsOk "set_iterator.__next__" ⟨[a], []⟩ := by
 unfold argsOk; erw [signature?_of (id := "set_iterator.__next__") (n := ['_', '_', 't', 'x', 'e', 'n', '_', '_']) (o := ['r', 'o', 't', 'a', 'r', 'e', 't', 'i', '_', 't', 'e', 's']) (by kernel_rfl) owner_si]; kernel_rfl
theorem entry_set_iter : entryFor table "set.__iter__" = some Builtin.«frozenset.__iter__» :=
 entryFor_alias (id' := "frozenset.__iter__") (by kernel_rfl) (by first | rfl | decide +kernel | (unfold String.splitOn; simp +decide [String.splitOnAux])) (by decide +kernel) (by kernel_rfl)
section
variable {prog : Program} {w : World} {A : Around} {E : Value -> Shared -> Prop} {s : Shared}
theorem hint_set {r : Addr} {Q : Bool -> Shared -> Prop} (hT : s.TypeIs (.ref r) "set") (h : Q false s) : wpAny (model prog w) A (Builtin.List.listLengthHint (.ref r)) Q E s := by
 unfold Builtin.List.listLengthHint
 refine wB (wpAny_specialOf hT PySem.F.slot_set_len.lookup ?_)
 generalize hid : ("set.__len__" : String) = id0
 wp_delta
 erw [show splitId id0 = some ("set", "__len__") from by subst hid; decide +kernel]
 subst hid
 refine wB (wpAny_isInstance (T := "set") (b := true) hT (by rw [isSubtype_type]; kernel_rfl) ?_)
 refine wpAny_ite_split (fun hab => absurd hab (by decide)) (fun _ => ?_)
 refine wpAny_ite_split (fun _ => ?_) (fun hab => absurd (by decide +kernel) hab)
 refine wB (wpAny_typeOf hT ?_)
 exact wP h
inductive Two {α : Type} (a b : α) : List α -> Prop
 | ab : Two a b [a, b]
 | ba : Two a b [b, a]
theorem draw_two {α : Type} {a b : α} {Q : List α -> Shared -> Prop} (h : ∀ l d, Two a b l -> Q l { s with drawn := d }) : wpAny (model prog w) A (drawOrder 2 [a, b]) Q E s := by
 have key : ∀ (i : Nat) (d : Drawn), i < 2 -> wpAny (model prog w) A (match ([a, b] : List α)[i]? with
  | some x => do return x :: (<- drawOrder 1 (([a, b] : List α).eraseIdx i))
  | none => unsupported "internal:drawOrder") Q E { s with drawn := d } := fun i d hi => by
  have one : ∀ (x y : α), Two a b [x, y] -> wpAny (model prog w) A (do return x :: (<- drawOrder 1 [y])) Q E { s with drawn := d } := fun x y t => by
   refine wB ?_
   intro Γ p hΓ
   show Sem.wp _ _ (Sem.choose .order 1 _) _ _ _ _
   rw [Sem.wp_choose]
   refine ⟨by decide, ?_⟩
   rw [Nat.mod_one]
   have hx : wpAny (model prog w) A (do let l <- (pure [] : Sem (List α)); pure (y :: l)) (fun a s' => wpAny (model prog w) A (pure (x :: a)) Q E s') E { s with drawn := d.bump .order } :=
    wB (wP (wP (wP (h _ _ t))))
   exact hx Γ p hΓ
  rcases Nat.lt_succ_iff_lt_or_eq.mp hi with hi | rfl
  · cases Nat.lt_one_iff.mp hi; exact one a b .ab
  · exact one b a .ba
 intro Γ p hΓ
 show Sem.wp _ _ (Sem.choose .order 2 _) _ _ _ _
 rw [Sem.wp_choose]
 refine ⟨by decide, ?_⟩
 exact key _ _ (Nat.mod_lt _ (by decide)) Γ p hΓ
noncomputable abbrev siObj (first : Value) (i : Int) (sa : Addr) (ep : Nat) : Obj := { cls := .type "set_iterator", data := .fields #[first, rawInt i, .ref sa, rawInt 2, rawInt ep] }
theorem stop_here {A1 : Around} {Q : Option Value -> Shared -> Prop} (hh : A1.handled = none) (hQ : ∀ h', Keeps s.heap h' -> Q none { s with heap := h' }) :
 wpAny (model prog w) A1 (do raiseNew (<- newExc (.type "StopIteration") []) : Sem PySem.Fin) (fun _ _ => False) (fun e s' => wpAny (model prog w) A (do if <- isInstance e (.type "StopIteration") then pure (none : Option Value) else throw e) Q E s') s := by
 refine wB ?_
 simp only [newExc, newTuple]
 refine wB (wpAny_newObj_type ?_ (by size_fits))
 refine wB (m := firstArgMember _ _) (wpAny_of_eq (a := Value.none) (by first | rfl | (simp only [firstArgMember]; rfl)) ?_)
 refine wpAny_newObj_type ?_ (by size_fits)
 simp only [raiseNew]
 refine wB (wpAny_handled ?_)
 erw [hh]
 refine wB (wP (wpAny_throw ?_))
 refine wB (wpAny_isInstance (T := "StopIteration") (b := true) ⟨_, Heap.get?_push_size _ rfl, rfl⟩ isSubtype_stop ?_)
 exact wP (hQ _ fun b o e => Heap.get?_push_of_some _ (Heap.get?_push_of_some _ e))
theorem si_next {I sa T : Addr} {i p : Nat} {ep : Nat} {es : Array (Int × Value)} {t : SetTable} {hx : Int} {x : Value} {places : Array Value} {oT : Obj} {nT : Nat} {Q : Option Value -> Shared -> Prop} (hI : s.heap.get? I = some (siObj (.ref T) i sa ep)) (hT : s.heap.get? T = some oT) (hTd : oT.data = .seq places nT) (hp : places[i]? = some (rawInt p))
 (hs : s.heap.get? sa = some (setObj es ep t)) (hf : t.fits es.size = true) (hz : es.size = 2) (hx : es[p]? = some (hx, x)) (hQ : ∀ h', h'.get? I = some (siObj (.ref T) ((i : Int) + 1) sa ep) -> Heap.SameBut I s.heap h' -> Q (some x) { s with heap := h' }) :
 wpAny (model prog w) A (pyNext (.ref I)) Q E s := by
 have hty : s.TypeIs (.ref I) "set_iterator" := ⟨_, hI, rfl⟩
 unfold pyNext
 refine wB (wpAny_attempt (wpAny_callSpecial?_slot (name := oS "__next__") hty slot_si_next (wpAny_call_entry slot_si_next hty entry_si_next ?_ (args_si_next _))))
 unfold Builtin.«set_iterator.__next__»
 refine wB (wpAny_of_eq (a := (Value.ref I, [])) rfl ?_)
 dsimp only
 refine wB (wpAny_fieldsOf hI rfl ?_)
 dsimp only
 refine wB (wpAny_setEntries_of hs rfl hf ?_)
 rw [if_neg (by rw [hz]; decide)]
 dsimp only
 refine wB (wpAny_seqItems hT hTd ?_)
 dsimp only
 rw [Int.toNat_natCast, hp]
 show wpAny (model prog w) A.in1 (setNextDrawn sa ((p : Int).toNat) (((ep : Int)).toNat) >>= fun x => setField (.ref I) 1 (rawInt ((i : Int) + 1)) >>= fun _ => ret x) _ _ _
 rw [Int.toNat_natCast, Int.toNat_natCast]
 unfold setNextDrawn
 refine wB (wB (wpAny_setState_of hs rfl hf ?_))
 dsimp only
 rw [if_neg (by simp)]
 erw [hx]
 dsimp only
 refine wP (wB (wpAny_setField hI rfl (by simp) (wP ⟨x, rfl, wP (hQ _ ?_ (Heap.SameBut.update ..))⟩)))
 rw [Heap.get?_update_self _ hI rfl]; rfl
theorem si_stop {I sa T : Addr} {i : Nat} {ep : Nat} {es : Array (Int × Value)} {t : SetTable} {places : Array Value} {oT : Obj} {nT : Nat} {Q : Option Value -> Shared -> Prop} (hh : A.handled = none) (hI : s.heap.get? I = some (siObj (.ref T) i sa ep)) (hT : s.heap.get? T = some oT) (hTd : oT.data = .seq places nT) (hp : places[i]? = none)
 (hs : s.heap.get? sa = some (setObj es ep t)) (hf : t.fits es.size = true) (hz : es.size = 2) (hQ : ∀ h', Heap.ExtBut I s.heap h' -> Q none { s with heap := h' }) :
 wpAny (model prog w) A (pyNext (.ref I)) Q E s := by
 have hty : s.TypeIs (.ref I) "set_iterator" := ⟨_, hI, rfl⟩
 unfold pyNext
 refine wB (wpAny_attempt (wpAny_callSpecial?_slot (name := oS "__next__") hty slot_si_next (wpAny_call_entry slot_si_next hty entry_si_next ?_ (args_si_next _))))
 unfold Builtin.«set_iterator.__next__»
 refine wB (wpAny_of_eq (a := (Value.ref I, [])) rfl ?_)
 dsimp only
 refine wB (wpAny_fieldsOf hI rfl ?_)
 dsimp only
 refine wB (wpAny_setEntries_of hs rfl hf ?_)
 rw [if_neg (by rw [hz]; decide)]
 dsimp only
 refine wB (wpAny_seqItems hT hTd ?_)
 dsimp only
 rw [Int.toNat_natCast, hp]
 dsimp only
 refine wB (wpAny_setField hI rfl (by simp) ?_)
 have h1 := Heap.get?_update_self (Obj.mapFields (·.setIfInBounds 0 (rawInt 0))) hI rfl
 refine wB (wpAny_setField h1 rfl (by simp) ?_)
 have hs2 := (Heap.SameBut.update s.heap I (Obj.mapFields (·.setIfInBounds 0 (rawInt 0)))).trans (Heap.SameBut.update _ I (Obj.mapFields (·.setIfInBounds 2 Value.none)))
 refine wM (stop_here (A := A) (E := E) (Q := Q) (A1 := A.in1) hh fun h' hk => hQ h' fun b o nb e => hk b o (hs2.extBut b o nb e)) (fun _ _ q => q.elim) fun _ _ q => q
end
end
section
section
variable {prog : Program} {w : World} {A : Around} {E : Value -> Shared -> Prop} {s : Shared}
noncomputable abbrev byT (w : World) : Prop := w.params.followText "set-order" = true
theorem byText_wp {Q : Bool -> Shared -> Prop} (h : Q (w.params.followText "set-order") s) : wpAny (model prog w) A setsByText Q E s := by
 unfold setsByText
 exact wB (wpAny_askSetting (wP h))
theorem setNextT {sa : Addr} {i ep : Nat} {es : Array (Int × Value)} {t : SetTable} {Q : Option (Value × Nat) -> Shared -> Prop} (hb : byT w) (hs : s.heap.get? sa = some (setObj es ep t)) (hf : t.fits es.size = true)
 (h : Q (((pickOrder (w.params.setOrder sa ep) es)[i]?).map fun e => (e.2, 0)) s) : wpAny (model prog w) A (setNext sa 0 i ep) Q E s := by
 unfold setNext
 refine wB (wpAny_setState_of hs rfl hf ?_)
 dsimp only
 refine wB (byText_wp ?_)
 erw [show w.params.followText "set-order" = true from hb, if_pos rfl]
 rw [if_neg (by simp)]
 refine wB ?_
 unfold setWalk
 refine wB (wpAny_setState_of hs rfl hf ?_)
 dsimp only
 refine wB (byText_wp ?_)
 erw [show w.params.followText "set-order" = true from hb, if_pos rfl]
 refine wB (wpAny_askSetting (wP (wP h)))
theorem pick_two (next : Nat -> Nat) (a b : Int × Value) : Two a b (pickOrder next #[a, b]).toList := by
 have h0 : next 0 % 2 = 0 \/ next 0 % 2 = 1 := by omega
 unfold pickOrder
 show Two a b (pickOrder.go next 2 0 [a, b] #[]).toList
 unfold pickOrder.go
 rcases h0 with h0 | h0
 · simp only [List.length_cons, List.length_nil, Nat.zero_add, Nat.reduceAdd, h0]
   unfold pickOrder.go
   simp [Nat.mod_one]
   unfold pickOrder.go
   exact .ab
 · simp only [List.length_cons, List.length_nil, Nat.zero_add, Nat.reduceAdd, h0]
   unfold pickOrder.go
   simp [Nat.mod_one]
   unfold pickOrder.go
   exact .ba
theorem si_nextT {I sa : Addr} {i : Nat} {ep : Nat} {es : Array (Int × Value)} {t : SetTable} {hx : Int} {x : Value} {Q : Option Value -> Shared -> Prop} (hb : byT w) (hI : s.heap.get? I = some (siObj (rawInt 0) i sa ep))
 (hs : s.heap.get? sa = some (setObj es ep t)) (hf : t.fits es.size = true) (hz : es.size = 2) (hx : (pickOrder (w.params.setOrder sa ep) es)[i]? = some (hx, x)) (hQ : ∀ h', h'.get? I = some (siObj (rawInt 0) ((i : Int) + 1) sa ep) -> Heap.SameBut I s.heap h' -> Q (some x) { s with heap := h' }) :
 wpAny (model prog w) A (pyNext (.ref I)) Q E s := by
 have hty : s.TypeIs (.ref I) "set_iterator" := ⟨_, hI, rfl⟩
 unfold pyNext
 refine wB (wpAny_attempt (wpAny_callSpecial?_slot (name := oS "__next__") hty slot_si_next (wpAny_call_entry slot_si_next hty entry_si_next ?_ (args_si_next _))))
 unfold Builtin.«set_iterator.__next__»
 refine wB (wpAny_of_eq (a := (Value.ref I, [])) rfl ?_)
 dsimp only
 refine wB (wpAny_fieldsOf hI rfl ?_)
 dsimp only
 refine wB (wpAny_setEntries_of hs rfl hf ?_)
 rw [if_neg (by rw [hz]; decide)]
 dsimp only [rawInt]
 rw [Int.toNat_natCast, Int.toNat_natCast]
 refine wB (setNextT hb hs hf ?_)
 erw [hx]
 dsimp only [Option.map]
 refine wB (wpAny_setField hI rfl (by simp) ?_)
 have h1 := Heap.get?_update_self (Obj.mapFields (·.setIfInBounds 0 (Value.int ((0 : Nat) : Int) 0))) hI rfl
 refine wB (wpAny_setField h1 rfl (by simp) (wP ⟨x, rfl, wP (hQ _ ?_ ((Heap.SameBut.update ..).trans (Heap.SameBut.update ..)))⟩))
 exact (Heap.get?_update_self _ h1 rfl).trans rfl
theorem si_stopT {I sa : Addr} {i : Nat} {ep : Nat} {es : Array (Int × Value)} {t : SetTable} {Q : Option Value -> Shared -> Prop} (hb : byT w) (hh : A.handled = none) (hI : s.heap.get? I = some (siObj (rawInt 0) i sa ep))
 (hs : s.heap.get? sa = some (setObj es ep t)) (hf : t.fits es.size = true) (hz : es.size = 2) (hx : (pickOrder (w.params.setOrder sa ep) es)[i]? = none) (hQ : ∀ h', Heap.ExtBut I s.heap h' -> Q none { s with heap := h' }) :
 wpAny (model prog w) A (pyNext (.ref I)) Q E s := by
 have hty : s.TypeIs (.ref I) "set_iterator" := ⟨_, hI, rfl⟩
 unfold pyNext
 refine wB (wpAny_attempt (wpAny_callSpecial?_slot (name := oS "__next__") hty slot_si_next (wpAny_call_entry slot_si_next hty entry_si_next ?_ (args_si_next _))))
 unfold Builtin.«set_iterator.__next__»
 refine wB (wpAny_of_eq (a := (Value.ref I, [])) rfl ?_)
 dsimp only
 refine wB (wpAny_fieldsOf hI rfl ?_)
 dsimp only
 refine wB (wpAny_setEntries_of hs rfl hf ?_)
 rw [if_neg (by rw [hz]; decide)]
 dsimp only [rawInt]
 rw [Int.toNat_natCast, Int.toNat_natCast]
 refine wB (setNextT hb hs hf ?_)
 erw [hx]
 dsimp only [Option.map]
 refine wB (wpAny_setField hI rfl (by simp) ?_)
 have hs2 := Heap.SameBut.update s.heap I (Obj.mapFields (·.setIfInBounds 2 Value.none))
 refine wM (stop_here (A := A) (E := E) (Q := Q) (A1 := A.in1) hh fun h' hk => hQ h' fun b o nb e => hk b o (hs2.extBut b o nb e)) (fun _ _ q => q.elim) fun _ _ q => q
end
end
section
theorem slot_si_iter : PySem.Slot "set_iterator" "__iter__" "set_iterator.__iter__" :=
 .of (owner := "set_iterator") (n := "__iter__") (by rw [typeLookup_type, builtinLookup_eq_fast]; kernel_rfl) (by decide +kernel) (by decide +kernel) (by decide +kernel)
  (by first | exact .inl (by decide +kernel) | exact .inr (by decide +kernel)) (by rw [isSubtype_type]; kernel_rfl)
theorem args_si_iter (a : Value) : argsOk "set_iterator.__iter__" ⟨[a], []⟩ := by
 unfold argsOk; erw [signature?_of (id := "set_iterator.__iter__") (n := ['_', '_', 'r', 'e', 't', 'i', '_', '_']) (o := ['r', 'o', 't', 'a', 'r', 'e', 't', 'i', '_', 't', 'e', 's']) (by kernel_rfl) owner_si]; kernel_rfl
theorem entry_si_iter : entryFor table "set_iterator.__iter__" = some Builtin.«dict_keyiterator.__iter__» :=
 entryFor_alias (id' := "dict_keyiterator.__iter__") (by kernel_rfl) (by first | rfl | decide +kernel | (unfold String.splitOn; simp +decide [String.splitOnAux])) (by decide +kernel) (by kernel_rfl)
section
variable {prog : Program} {w : World} {A : Around} {E : Value -> Shared -> Prop} {s : Shared}
theorem si_self {I : Addr} {Q : Value -> Shared -> Prop} (hty : s.TypeIs (.ref I) "set_iterator") (h : Q (.ref I) s) : wpAny (model prog w) A (pyIter (.ref I)) Q E s := by
 refine wpAny_pyIter_slot hty slot_si_iter (wpAny_call_entry slot_si_iter hty entry_si_iter ?_ (args_si_iter _))
 show wpAny _ _ (ret (.ref I)) _ _ s
 exact wP ⟨_, rfl, "set_iterator", _, hty, slot_si_next.lookup, h⟩
inductive SetIt (prog : Program) (w : World) (sa : Addr) (e0 e1 : Int × Value) (h0 : Heap) (I : Addr) (vs : List Value) (h' : Heap) : Prop
 | mk (fp : List Addr) (St : Nat -> Heap -> Prop) (two : Two e0.2 e1.2 vs) (nw : h0.get? I = none) (hfp : ∀ b ∈ fp, b = sa \/ h0.get? b = none) (W : ∀ A : Around, A.handled = none -> Walks prog w A I fp [I] 2 (fun i v => vs[i]? = some v) St) (st : St 0 h') : SetIt prog w sa e0 e1 h0 I vs h'
theorem two_map {α β : Type} (f : α -> β) {a b : α} {l : List α} (h : Two a b l) : Two (f a) (f b) (l.map f) := by cases h <;> constructor
theorem two_len {α : Type} {a b : α} {l : List α} (h : Two a b l) : l.length = 2 := by cases h <;> rfl
theorem set_walkT {sa I : Addr} {e0 e1 : Int × Value} {ep : Nat} {t : SetTable} {vs : List Value} (hb : byT w) (hf : t.fits 2 = true) (hI : I ≠ sa) (hv : vs = (pickOrder (w.params.setOrder sa ep) #[e0, e1]).toList.map (·.2)) (hh : A.handled = none) :
 Walks prog w A I [I, sa] [I] 2 (fun i v => vs[i]? = some v) (fun i h => h.get? I = some (siObj (rawInt 0) i sa ep) /\ h.get? sa = some (setObj #[e0, e1] ep t)) where
 sub := fun b hb => by simp at hb; simp [hb]
 frame := fun _ _ _ x hk => ⟨hk I (by exact .head _) _ x.1, hk sa (by exact .tail _ (.head _)) _ x.2⟩
 item := fun i s Q E hi x hQ => by
  have hl : (pickOrder (w.params.setOrder sa ep) #[e0, e1]).toList.length = 2 := two_len (pick_two _ _ _)
  have hi' : i < (pickOrder (w.params.setOrder sa ep) #[e0, e1]).size := by erw [<- Array.length_toList, hl]; exact hi
  have hg := Array.getElem?_eq_getElem hi'
  refine si_nextT (hx := ((pickOrder (w.params.setOrder sa ep) #[e0, e1])[i]).1) (x := ((pickOrder (w.params.setOrder sa ep) #[e0, e1])[i]).2) hb x.1 x.2 hf rfl hg fun h' h1 hs => ?_
  refine hQ _ h' s.toks ?_ ⟨h1, (hs.2 sa hI.symm).trans x.2⟩ fun b o nb e => (hs.2 b fun q => nb (by simp [q])).trans e
  erw [hv, List.getElem?_map, Array.getElem?_toList, hg]; rfl
 done := fun s Q E x hQ => by
  have hl : (pickOrder (w.params.setOrder sa ep) #[e0, e1]).toList.length = 2 := two_len (pick_two _ _ _)
  refine si_stopT (es := #[e0, e1]) (i := 2) hb hh x.1 x.2 hf rfl (Array.getElem?_eq_none (by erw [<- Array.length_toList, hl]; exact Nat.le_refl _)) fun h' he => hQ h' s.toks fun b o nb e => he b o (fun q => nb (by simp [q])) e
 self := fun i s Q E x hQ => si_self ⟨_, x.1, rfl⟩ hQ
theorem set_walkD {sa I T : Addr} {e0 e1 : Int × Value} {ep : Nat} {t : SetTable} {l : List Nat} {oT : Obj} {nT : Nat} (hf : t.fits 2 = true) (hI : I ≠ sa) (hIT : I ≠ T) (hl : Two 0 1 l) (hTd : oT.data = .seq (l.map fun i : Nat => rawInt i).toArray nT) (hh : A.handled = none) :
 Walks prog w A I [I, sa, T] [I] 2 (fun i v => (l.map fun i => (if i = 0 then e0 else e1).2)[i]? = some v) (fun i h => h.get? I = some (siObj (.ref T) i sa ep) /\ h.get? sa = some (setObj #[e0, e1] ep t) /\ h.get? T = some oT) where
 sub := fun b hb => by simp at hb; simp [hb]
 frame := fun _ _ _ x hk => ⟨hk I (by exact .head _) _ x.1, hk sa (by exact .tail _ (.head _)) _ x.2.1, hk T (by exact .tail _ (.tail _ (.head _))) _ x.2.2⟩
 item := fun i s Q E hi x hQ => by
  have hi' : i < l.length := by rw [two_len hl]; exact hi
  have hg := List.getElem?_eq_getElem hi'
  have hv : l[i] = 0 \/ l[i] = 1 := by
   have hm := List.getElem_mem hi'
   revert hm
   generalize l[i] = x
   intro hm
   cases hl <;> simp at hm <;> omega
  have hxe : (#[e0, e1] : Array (Int × Value))[l[i]]? = some ((if l[i] = 0 then e0 else e1).1, (if l[i] = 0 then e0 else e1).2) := by
   rcases hv with h | h <;> erw [h] <;> rfl
  refine si_next (p := l[i]) x.1 x.2.2 hTd (by erw [<- Array.getElem?_toList, List.toList_toArray, List.getElem?_map, hg]; rfl) x.2.1 hf rfl hxe fun h' h1 hs => ?_
  refine hQ _ h' s.toks ?_ ⟨h1, (hs.2 sa hI.symm).trans x.2.1, (hs.2 T hIT.symm).trans x.2.2⟩ fun b o nb e => (hs.2 b fun q => nb (by simp [q])).trans e
  erw [List.getElem?_map, hg]; rfl
 done := fun s Q E x hQ => by
  refine si_stop (es := #[e0, e1]) (i := 2) hh x.1 x.2.2 hTd (Array.getElem?_eq_none (by simp [two_len hl])) x.2.1 hf rfl fun h' he => hQ h' s.toks fun b o nb e => he b o (fun q => nb (by simp [q])) e
 self := fun i s Q E x hQ => si_self ⟨_, x.1, rfl⟩ hQ
theorem set_iter_wp {sa : Addr} {e0 e1 : Int × Value} {ep : Nat} {t : SetTable} {Q : Value -> Shared -> Prop} (hs : s.heap.get? sa = some (setObj #[e0, e1] ep t)) (T : Tb t 2) (hpl : t.plain = false)
 (h : ∀ h' d I vs, Keeps s.heap h' -> SetIt prog w sa e0 e1 s.heap I vs h' -> Q (.ref I) { s with heap := h', drawn := d }) : wpAny (model prog w) A (pyIter (.ref sa)) Q E s := by
 have hf : t.fits 2 = true := T.fits (by decide)
 have hty : s.TypeIs (.ref sa) "set" := ⟨_, hs, rfl⟩
 have hne : ∀ {b : Addr} {o : Obj}, s.heap.get? b = some o -> s.heap.objs.size ≠ b := fun e q => absurd (Heap.lt_size e) (by rw [q]; exact Nat.lt_irrefl _)
 have hsz : ∀ (h : Heap) (o : Obj), (h.push o).objs.size = h.objs.size + 1 := fun h o => by simp [Heap.push]
 refine wpAny_pyIter_slot hty PySem.F.slot_set_iter (wpAny_call_entry PySem.F.slot_set_iter hty entry_set_iter ?_ (PySem.F.args_set_iter_1 _))
 unfold Builtin.«frozenset.__iter__»
 refine wB (wpAny_of_eq (a := sa) rfl ?_)
 refine wB (wB (wpAny_setEntries_of hs rfl hf (wP ?_)))
 unfold setDrawn
 refine wB (wB (wpAny_setState_of hs rfl hf ?_))
 dsimp only
 refine wB (byText_wp (wP ?_))
 obtain ⟨mask, place, dummies, finger, led, moves, plain⟩ := t
 subst hpl
 by_cases hb : w.params.followText "set-order" = true
 · rw [hb, if_neg (by simp)]
   refine wB (wP ?_)
   refine wB (wpAny_setEpoch_of hs rfl hf ?_)
   refine wB (wpAny_newObj_type (wP ⟨_, rfl, "set_iterator", _, ⟨_, Heap.get?_push_size _ rfl, rfl⟩, slot_si_next.lookup, h _ s.drawn _ _ (fun b o e => Heap.get?_push_of_some _ e) ⟨_, _, two_map (·.2) (pick_two (w.params.setOrder sa ep) e0 e1), get_size _, fun b hb => ?_, fun A' hh => set_walkT hb hf (hne hs) rfl hh, Heap.get?_push_size _ rfl, Heap.get?_push_of_some _ hs⟩⟩) (by size_fits))
   simp only [mC, List.not_mem_nil, or_false] at hb
   rcases hb with rfl | rfl
   · exact .inr (get_size _)
   · exact .inl rfl
 · have hb' : w.params.followText "set-order" = false := by simpa using hb
   rw [hb', if_pos (by rfl)]
   refine wB (m := drawOrder 2 [0, 1]) (draw_two fun l d hl => ?_)
   refine wB (wpAny_newTuple ?_ (by rw [List.length_map, two_len hl, sizeLine_eq]; decide))
   have hs1 : (s.heap.push { cls := .type "tuple", data := .seq (l.map fun i : Nat => rawInt i).toArray }).get? sa = some _ := Heap.get?_push_of_some _ hs
   refine wB (wpAny_setEpoch_of (s := { s with heap := s.heap.push { cls := .type "tuple", data := .seq (l.map fun i : Nat => rawInt i).toArray }, drawn := d }) hs1 rfl hf ?_)
   have hv : Two e0.2 e1.2 (l.map fun i => (if i = 0 then e0 else e1).2) := two_map (fun i : Nat => (if i = 0 then e0 else e1).2) hl
   have hI : s.heap.get? (s.heap.objs.size + 1) = none := by
    cases e : s.heap.get? (s.heap.objs.size + 1) with
    | none => rfl
    | some o => exact absurd (Heap.lt_size e) (Nat.not_lt.mpr (Nat.le_succ _))
   have hz := hsz s.heap { cls := .type "tuple", data := .seq (l.map fun i : Nat => rawInt i).toArray }
   refine wB (wpAny_newObj_type (wP ⟨_, rfl, "set_iterator", _, ⟨_, Heap.get?_push_size _ rfl, rfl⟩, slot_si_next.lookup, ?_⟩) (by size_fits))
   dsimp only
   have hg := Heap.get?_push_size (s.heap.push { cls := .type "tuple", data := .seq (l.map fun i : Nat => rawInt i).toArray }) (o := siObj (.ref s.heap.objs.size) 0 sa ep) rfl
   rw [hz] at hg ⊢
   refine h _ d _ _ (fun b o e => Heap.get?_push_of_some _ (Heap.get?_push_of_some _ e)) ⟨[s.heap.objs.size + 1, sa, s.heap.objs.size], _, hv, hI, fun b hb => ?_, fun A' hh => set_walkD (T := s.heap.objs.size) hf (fun q => ?_) (Nat.succ_ne_self _) hl rfl hh, hg, Heap.get?_push_of_some _ hs1, Heap.get?_push_of_some _ (Heap.get?_push_size _ rfl)⟩
   · simp only [mC, List.not_mem_nil, or_false] at hb
     rcases hb with rfl | rfl | rfl
     · exact .inr hI
     · exact .inl rfl
     · exact .inr (get_size _)
   · rw [q, hs] at hI; cases hI
end
end
section
section
variable {prog : Program} {w : World} {A : Around} {E : Value -> Shared -> Prop} {s : Shared}
theorem items_two {α β : Value} {vs : List Value} {acc : Array Value} (h : Two α β vs) (hi : ItemsOf (fun i v => vs[i]? = some v) acc 2) : acc.toList = vs := by
 obtain ⟨h1, h2⟩ := hi
 refine List.ext_getElem (by rw [Array.length_toList, h1, two_len h]) fun i hi1 hi2 => ?_
 have : vs[i]? = some acc.toList[i] := h2 i acc.toList[i] (by erw [<- Array.getElem?_toList]; exact List.getElem?_eq_getElem hi1)
 rw [List.getElem?_eq_getElem hi2] at this
 exact (Option.some.inj this).symm
theorem collect_set {sa : Addr} {e0 e1 : Int × Value} {ep : Nat} {t : SetTable} {Q : List Value -> Shared -> Prop} (hh : A.handled = none) (hs : s.heap.get? sa = some (setObj #[e0, e1] ep t)) (T : Tb t 2) (hpl : t.plain = false)
 (h : ∀ h' tk d vs, Keeps s.heap h' -> Two e0.2 e1.2 vs -> Q vs { s with heap := h', toks := tk, drawn := d }) : wpAny (model prog w) A (collect (.ref sa)) Q E s := by
 unfold collect
 refine wB (wpAny_runValue (codeAny_builtin entry_proto_collect' ?_))
 show wpAny _ _ (do again (.builtin "list.__iadd__" ⟨[<- newList [], .ref sa], []⟩)) _ _ s
 refine wB (wpAny_newList (wP ⟨Code.quiet_builtin _ (by decide +kernel), codeAny_builtin entry_list_iadd' ?_⟩))
 show wpAny _ _ (Builtin.List.listExtendWith (.ref s.heap.objs.size) (.ref sa) (.ref s.heap.objs.size)) _ _ { s with heap := s.heap.push (seqObj "list" #[] 0) }
 have hne : s.heap.objs.size ≠ sa := fun q => absurd (Heap.lt_size hs) (by rw [q]; exact Nat.lt_irrefl _)
 have hs1 : (s.heap.push (seqObj "list" #[] 0)).get? sa = some _ := Heap.get?_push_of_some _ hs
 have hS1 : (s.heap.push (seqObj "list" #[] 0)).get? s.heap.objs.size = some (seqObj "list" #[] 0) := Heap.get?_push_size _ rfl
 unfold Builtin.List.listExtendWith
 refine wB (wpAny_typeOf (T := "set") ⟨_, hs1, rfl⟩ ?_)
 have h1 : Builtin.List.listSameRef (.ref s.heap.objs.size) (.ref sa) = false := by simp [Builtin.List.listSameRef, hne]
 rw [h1, if_neg (by decide)]
 refine wB (set_iter_wp (s := { s with heap := s.heap.push (seqObj "list" #[] 0) }) hs1 T hpl fun h₂ d I vs hk₂ it => ?_)
 obtain ⟨fp, St, two, nw, hfp, W, st⟩ := it
 refine wB (wH (hint_set ⟨_, hk₂ _ _ hs1, rfl⟩ ?_))
 have hSf : s.heap.objs.size ∉ fp := fun q => by
  rcases hfp _ q with q | q
  · exact hne q
  · rw [hS1] at q; cases q
 have hS2 := hk₂ _ _ hS1
 have key : ∀ (R : Result -> Shared -> Prop) (h : Heap) (c₁ tk : Nat), St 0 h -> (∀ b o, b ≠ s.heap.objs.size -> h₂.get? b = some o -> h.get? b = some o) -> h.get? s.heap.objs.size = some { cls := .type "list", data := .seq #[] c₁ } ->
  (∀ h' tk' acc' c', Keeps s.heap h' -> h'.get? s.heap.objs.size = some { cls := .type "list", data := .seq acc' c' } -> acc'.toList = vs -> R (.ok (.ret (.ref s.heap.objs.size))) { s with heap := h', toks := tk', drawn := d }) ->
  codeAny (model prog w) A (.builtin "list.extend.loop" ⟨[.ref s.heap.objs.size, .ref I, .ref s.heap.objs.size], []⟩) R { s with heap := h, toks := tk, drawn := d } := by
  intro R h c₁ tk hst hk hS₁ hR
  refine codeAny_extend_loopS (W A.in1 hh).toS (by rw [sizeLine_eq]; decide) s.heap.objs.size hSf _ 2 0 { s with heap := h, toks := tk, drawn := d } #[] c₁ rfl (Nat.zero_le _) hst hS₁ (ItemsOf.nil _) fun s' acc' c' hm hS' hacc => ?_
  rw [Moved.eq_with hm]
  refine hR s'.heap s'.toks acc' c' (fun b o e => hm.heap b o (fun hmem => ?_) (hk b o (fun q => absurd (Heap.lt_size e) (by rw [q]; exact Nat.lt_irrefl _)) (hk₂ _ _ (Heap.get?_push_of_some _ e)))) hS' (items_two two hacc)
  rcases mC.mp hmem with e' | hmem
  · exact absurd (Heap.lt_size e) (by rw [e']; exact Nat.lt_irrefl _)
  · rw [mSz.mp hmem] at e
    have := Heap.get?_push_of_some (seqObj "list" #[] 0) e
    rw [nw] at this; cases this
 have out : ∀ (h' : Heap) (tk' c' : Nat) (acc' : Array Value), Keeps s.heap h' -> h'.get? s.heap.objs.size = some { cls := .type "list", data := .seq acc' c' } -> acc'.toList = vs -> wpAny (model prog w) A (do
  let o <- load s.heap.objs.size
  match o.data with
  | .seq xs _ => pure xs.toList
  | _ => unsupported "internal:collect") Q E { s with heap := h', toks := tk', drawn := d } := fun h' tk' c' acc' hk hS hv =>
  wB (wpAny_load hS (wP (hv ▸ h h' tk' d _ hk (hv ▸ two))))
 refine wpAny_ite_split (fun _ => ?_) (fun _ => wP ⟨plainId_quiet PySem.F.plain_extend_loop _, key _ h₂ 0 s.toks st (fun _ _ _ e => e) hS2 fun h' tk' acc' c' hk hS hv => out h' tk' c' acc' hk hS hv⟩)
 refine wB (wpAny_rule ?_)
 refine wB ?_
 show wpAny _ _ (updateSeq s.heap.objs.size (·.push .none) >>= fun _ => updateSeq s.heap.objs.size (·.pop)) _ _ _
 refine wB (wpAny_updateSeq hS2 rfl ?_)
 have hS₂ := Heap.get?_update_self (Obj.mapSeq (·.push Value.none)) hS2 rfl
 refine wpAny_updateSeq (hz := by seq_fits) hS₂ rfl ?_
 have hS₃ := Heap.get?_update_self (Obj.mapSeq (·.pop)) hS₂ rfl
 refine wP ⟨plainId_quiet PySem.F.plain_extend_loop _, key _ _ _ s.toks ?_ (fun b o hb e => ?_) hS₃ fun h' tk' acc' c' hk hS hv => out h' tk' c' acc' hk hS hv⟩
 · refine (W A hh).frame 0 _ _ st fun b hb o e => ?_
   have hbS : b ≠ s.heap.objs.size := fun h => hSf (h ▸ hb)
   exact (Heap.get?_update_other _ _ (Ne.symm hbS)).trans ((Heap.get?_update_other _ _ (Ne.symm hbS)).trans e)
 · exact (Heap.get?_update_other _ _ (Ne.symm hb)).trans ((Heap.get?_update_other _ _ (Ne.symm hb)).trans e)
end
end
section
inductive SetTwo (h : Heap) (sa : Addr) (x y : Str) : Prop
 | mk (e0 e1 : Int × Value) (ep : Nat) (t : SetTable) (tx ty : Tok) (ho : h.get? sa = some (setObj #[e0, e1] ep t)) (T : Tb t 2) (pl : t.plain = false) (two : Two (Value.str x tx) (.str y ty) [e0.2, e1.2]) : SetTwo h sa x y
theorem perm_two {α β : Type} (f : α -> β) {l : List α} {a b : α} (h : l.Perm [a, b]) : ∃ c d, l = [c, d] /\ Two (f a) (f b) [f c, f d] := by
 match l, h with
 | [c, d], h =>
  refine ⟨c, d, rfl, ?_⟩
  have h1 : c ∈ [a, b] := h.subset (.head _)
  simp only [mC, List.not_mem_nil, or_false] at h1
  rcases h1 with rfl | rfl
  · have h2 := List.Perm.cons_inv h
    rw [List.perm_singleton] at h2
    cases h2; exact .ab
  · have h2 : [c, d].Perm [c, a] := h.trans (List.Perm.swap ..)
    have h3 := List.Perm.cons_inv h2
    rw [List.perm_singleton] at h3
    cases h3; exact .ba
 | [], h => exact absurd h.length_eq (by simp)
 | [_], h => exact absurd h.length_eq (by simp)
 | _ :: _ :: _ :: _, h => exact absurd h.length_eq (by simp)
section
variable {prog : Program} {w : World} {A : Around} {E : Value -> Shared -> Prop} {s : Shared}
noncomputable abbrev hX (prog : Program) (w : World) (x : Str) : Int := (strKind prog w).hash x
theorem set_first {sa : Addr} {x : Str} {tk : Tok} {led : Bool} {Q : Bool -> Shared -> Prop} (ho : s.heap.get? sa = some (setObj #[] 0 (.fresh 0 0 led)))
 (h : ∀ h' t1, Heap.SameBut sa s.heap h' -> h'.get? sa = some (setObj #[(hX prog w x, .str x tk)] 1 t1) -> Tb t1 1 -> Q true { s with heap := h' }) :
 wpAny (model prog w) A (setAddHashed sa (.str x tk) (hX prog w x)) Q E s := by
 refine set_put (n := 0) ho ⟨rfl, rfl, Nat.le_refl _⟩ (by decide) (fun e he => by simp at he) rfl rfl fun h' es1 t1 hs h1 T _ hp => ?_
 have : es1 = #[(hX prog w x, .str x tk)] := by
  apply Array.ext'
  simpa using hp
 exact h h' t1 hs (this ▸ h1) T
theorem set_second {sa : Addr} {x y : Str} {tx ty : Tok} {t : SetTable} {ep : Nat} {Q : Bool -> Shared -> Prop} (hxy : x ≠ y) (ho : s.heap.get? sa = some (setObj #[(hX prog w x, .str x tx)] ep t)) (T : Tb t 1)
 (h : ∀ h', Heap.SameBut sa s.heap h' -> SetTwo h' sa x y -> Q true { s with heap := h' }) :
 wpAny (model prog w) A (setAddHashed sa (.str y ty) (hX prog w y)) Q E s := by
 have hk := strKind_is prog w x tx
 refine set_put (n := 1) ho T (by decide) (fun e he => by simp at he; subst he; exact ⟨⟨x, hk, rfl⟩, rfl⟩) rfl ?_ fun h' es1 t1 hs h1 T1 hpl hp => ?_
 · simp [List.findIdx?_cons]
   have := KeyKind.is_eq_decide hk y
   rw [this]; simpa using fun q => hxy q.symm
 · (refine x22 (perm_two (·.2) hp) ?_; intro c d hl tw)
   have he : es1 = #[c, d] := by apply Array.ext'; exact hl
   exact h h' hs ⟨c, d, _, t1, tx, ty, he ▸ h1, T1, hpl, tw⟩
theorem loop_dict {R : Result -> Shared -> Prop} {sa d I : Addr} {x y : Str} {tx : Tok} {t : SetTable} {ep1 ep : Nat} {v : Value} (hh : A.handled = none) (hxy : x ≠ y) (ho : s.heap.get? sa = some (setObj #[(hX prog w x, .str x tx)] ep1 t)) (T : Tb t 1) (hsI : sa ≠ I) (hsd : sa ≠ d) (hdI : d ≠ I)
 (hI : s.heap.IsKeyIter I d 0 1 ep) (hd : s.heap.DictAt (strKind prog w) d [(y, v)] ep)
 (hR : ∀ h' tk, SetTwo h' sa x y -> (∀ b o, b ≠ sa -> b ≠ I -> s.heap.get? b = some o -> h'.get? b = some o) -> R (.ok (.ret .none)) { s with heap := h', toks := tk }) :
 codeAny (model prog w) A (.builtin "set.update.loop" ⟨[.ref sa, .ref I], []⟩) R s := by
 have W := Walks.dictKeys (prog := prog) (w := w) (A := A.in1) (knd := strKind prog w) hh I d hdI [(y, v)] ep
 refine codeAny_builtin PyProof.Rows.F.entry_set_update_loop ?_
 erw [Around.under_plainId PyProof.Rows.F.plain_set_update_loop _]
 show wpAny _ A.in1 (pyNext (.ref I) >>= _) _ _ s
 refine wB (W.item 0 s _ _ Nat.one_pos ⟨hI, hd⟩ fun kv h₁ tk1 hP st1 hk₁ => ?_)
 (refine x22 hP ?_; clear hP; intro k' x' hk' hkey)
 cases hk'
 obtain ⟨ty, rfl⟩ : ∃ ty, kv = .str y ty := by
  cases kv <;> first | (cases hkey; done) | skip
  rename_i z tz
  have := (strKind prog w).strs y z tz (.str y 0) hkey
  rw [strKind_is] at this
  have hz : (Value.str y 0).isStr z = true := this.symm
  have hz2 : y = z := by simpa [Value.isStr] using hz
  exact ⟨tz, by rw [hz2]⟩
 show wpAny _ A.in1 (holding [Value.str y ty] (setAdd sa (.str y ty)) >>= _) _ _ _
 refine wB (wH ?_)
 unfold setAdd
 refine wH ?_
 refine wB ((strKind prog w).pyHash (k := y) (strKind_is _ _ _ _) ?_)
 have ho₁ := hk₁ sa _ (by simpa using hsI) ho
 refine set_second (s := { s with heap := h₁, toks := tk1 + 1 }) hxy ho₁ T fun h₂ hs₂ S₂ => ?_
 refine wP ⟨plainId_quiet PyProof.Rows.F.plain_set_update_loop _, codeAny_builtin PyProof.Rows.F.entry_set_update_loop ?_⟩
 erw [Around.under_plainId PyProof.Rows.F.plain_set_update_loop _]
 show wpAny _ A.in1 (pyNext (.ref I) >>= _) _ _ _
 have st2 := W.frame 1 h₁ h₂ st1 fun b hb o e => (hs₂.2 b (by
  simp only [mC, List.not_mem_nil, or_false] at hb
  rcases hb with rfl | rfl
  · exact hsI.symm
  · exact hsd.symm)).trans e
 refine wB (W.done { s with heap := h₂, toks := tk1 + 1 } _ _ st2 fun h₃ tk3 hk₃ => ?_)
 show wpAny _ A.in1 (ret Value.none) _ _ _
 refine wP (hR h₃ tk3 ?_ fun b o b1 b2 e => hk₃ b o (by simpa using b2) ((hs₂.2 b b1).trans (hk₁ b o (by simpa using b2) e)))
 obtain ⟨e0, e1, ep', t', tx', ty', h1, h2, h3, h4⟩ := S₂
 exact ⟨e0, e1, ep', t', tx', ty', hk₃ sa _ (by simpa using hsI) h1, h2, h3, h4⟩
theorem star_dict {sa d : Addr} {x y : Str} {tx : Tok} {t : SetTable} {ep1 ep : Nat} {v : Value} {Q : Unit -> Shared -> Prop} (hh : A.handled = none) (hsm : (d == sysModules) = false) (hxy : x ≠ y) (ho : s.heap.get? sa = some (setObj #[(hX prog w x, .str x tx)] ep1 t)) (T : Tb t 1)
 (hd : s.heap.DictAt (strKind prog w) d [(y, v)] ep) (h : ∀ h' tk, SetTwo h' sa x y -> (∀ b o, b ≠ sa -> s.heap.get? b = some o -> h'.get? b = some o) -> Q () { s with heap := h', toks := tk }) :
 wpAny (model prog w) A (setDisplayStar sa (.ref d)) Q E s := by
 (refine x26 (id hd) ?_; intro od es hod hex hdat hks hps hnd)
 have hTd : s.TypeIs (.ref d) "dict" := ⟨od, hod, hex.1⟩
 have hsd : sa ≠ d := fun q => by rw [<- q, ho] at hod; cases hod; cases hdat
 unfold setDisplayStar
 refine wB (wpAny_isInstance (T := "dict") (b := false) hTd (by rw [isSubtype_type]; kernel_rfl) ?_)
 rw [if_neg (by decide)]
 refine wB (wpAny_isInstance (T := "dict") (b := false) hTd (by rw [isSubtype_type]; kernel_rfl) ?_)
 refine wB (wpAny_askSetting ?_)
 dsimp only
 by_cases hb : (model prog w).w.params.followText "set-display-star-reads-storage" = true
 · erw [if_pos hb]
   dsimp only
   have hsz : ∀ {b : Addr} {o : Obj}, s.heap.get? b = some o -> b ≠ s.heap.objs.size := fun e q => absurd (Heap.lt_size e) (by rw [q]; exact Nat.lt_irrefl _)
   refine wB (wpAny_pyIter_dict hsm hd ?_)
   refine wB (wpAny_runValue (loop_dict (s := { s with heap := s.heap.push { cls := .type "dict_keyiterator", data := .fields #[.ref d, .int 0 0, .int ([(y, v)].length : Nat) 0, .int ep 0] } }) hh hxy (Heap.get?_push_of_some _ ho) T (hsz ho) hsd (hsz hod) ⟨_, Heap.get?_push_size _ rfl, rfl, rfl⟩ (hd.push _) fun h' tk S2 hk => ?_))
   exact wP (h h' tk S2 fun b o nb e => hk b o nb (hsz e) (Heap.get?_push_of_some _ e))
 erw [if_neg hb]
 dsimp only
 rw [if_neg (by decide)]
 refine wB (wpAny_typeOf hTd ?_)
 rw [if_pos (by decide)]
 refine wB (wpAny_rule ?_)
 rw [hsm, if_neg (by decide)]
 obtain ⟨e, he, hke, hhe⟩ : ∃ e, es = #[e] /\ (∃ ty, e.key = .str y ty) /\ e.hash = hX prog w y := by
  obtain ⟨es⟩ := es
  cases hps with
  | cons hk hv rs =>
   cases rs
   rename_i e
   (refine x12 (hks e (by simp)) ?_; intro k2 h1 h2)
   have hkk := (strKind prog w).inj _ _ _ h1 hk
   refine ⟨e, rfl, ?_, by rw [h2, hkk]⟩
   cases hke : e.key <;> rw [hke] at hk <;> first | (cases hk; done) | skip
   rename_i z tz
   have := (strKind prog w).strs y z tz (.str y 0) hk
   rw [strKind_is] at this
   have hz : (Value.str y 0).isStr z = true := this.symm
   have hz2 : y = z := by simpa [Value.isStr] using hz
   exact ⟨tz, by rw [hz2]⟩
 subst he
 obtain ⟨ty, hke⟩ := hke
 refine wB (wpAny_dictEpoch hod hdat ?_)
 refine wB (wpAny_dictEntries hod hdat ?_)
 unfold setRoomFor
 refine wB (wB (wpAny_setState_of ho rfl (T.fits (by decide)) ?_))
 dsimp only
 erw [show (#[e] : Array DictEntry).size = 1 from rfl, T.room (by decide)]
 dsimp only
 refine wP ?_
 rw [Std.Legacy.Range.forIn_eq_forIn_range']
 erw [show List.range' ([:1] : Std.Legacy.Range).start ([:1] : Std.Legacy.Range).size ([:1] : Std.Legacy.Range).step = [0] from rfl]
 rw [List.forIn_cons]
 refine wB (wB (wB (wpAny_dictEntries hod hdat ?_)))
 erw [show (#[e] : Array DictEntry)[0]? = some e from rfl]
 dsimp only
 refine wB (wH ?_)
 erw [hke, hhe]
 refine wB (set_second hxy ho T fun h' hs S2 => wP ?_)
 refine wB (wpAny_dictEpoch (s := { s with heap := h' }) ((hs.2 d hsd.symm).trans hod) hdat ?_)
 rw [if_neg (by simp)]
 refine wP ?_
 dsimp only
 rw [List.forIn_nil]
 exact wP (wP (h h' s.toks S2 fun b o nb e => (hs.2 b nb).trans e))
end
end
section
theorem Rep.dictA {c : Cx} {V : Addr -> Prop} {s : Shared} {y : List Nat} {d : D} {v : Value} (r : Rep c V s (.dict [(y, d)]) v) : ∃ a dv ep, v = .ref a /\ (a == sysModules) = false /\ s.heap.DictAt (strKind c.prog c.w) a [(S y, dv)] ep /\ Rep c V s d dv := by
 obtain ⟨a, kvv, ep, rfl, hsm, hd, hk, hr⟩ := r.dictO (by simp)
 (refine x12 (List.map_eq_singleton_iff.mp hk) ?_; rintro ⟨k, dv⟩ rfl hp)
 cases hp
 exact ⟨a, dv, ep, rfl, hsm, hd, hr.one⟩
section
variable {prog : Program} {w : World} {A : Around} {E : Value -> Shared -> Prop} {s : Shared}
theorem disp_star {b : Bool} {m1 m2 : Sem Value} {Q : Value -> Shared -> Prop} (h : ∀ led, wpAny (model prog w) A m1 (fun v s₁ => wpAny (model prog w) A (setAdd s.heap.objs.size v) (fun _ s2 => wpAny (model prog w) A m2 (fun u s₃ => wpAny (model prog w) A (setDisplayStar s.heap.objs.size u) (fun _ s4 => Q (.ref s.heap.objs.size) s4) E s₃) E s2) E s₁) E { s with heap := s.heap.push (setObj #[] 0 (.fresh 0 0 led)) }) :
 wpAny (model prog w) A (setDisplay .oneByOne b [(false, m1), (true, m2)]) Q E s := by
 unfold setDisplay
 dsimp only
 rw [if_neg (by decide)]
 refine wB (wpAny_newSet_of (knd := strKind prog w) fun led _ => ?_)
 dsimp only
 erw [show (if ([(false, m1), (true, m2)] : List (Bool × Sem Value)).length > 30 then 0 else (List.findIdx? (fun x : Bool × Sem Value => x.1) [(false, m1), (true, m2)]).getD ([(false, m1), (true, m2)] : List (Bool × Sem Value)).length) = 1 from rfl]
 dsimp only [List.take, List.drop, List.map, evalAll]
 refine wB (wH ?_)
 refine wB (wB (wM (h led) (fun v s₁ h₁ => ?_) fun _ _ q => q))
 refine wB (wH (wP (wP ?_)))
 refine wB (wH ?_)
 rw [List.forIn_cons]
 refine wB (wB (wB (wM h₁ (fun _ s2 h₂ => wP ?_) fun _ _ q => q)))
 dsimp only
 rw [List.forIn_nil]
 refine wP ?_
 rw [if_neg (by decide)]
 refine wP ?_
 rw [List.forIn_cons]
 refine wB (wB (wB (wM h₂ (fun u s₃ h₃ => ?_) fun _ _ q => q)))
 erw [if_pos rfl]
 refine wB (wH (wM h₃ (fun _ s4 h₄ => wP ?_) fun _ _ q => q))
 dsimp only
 rw [List.forIn_nil]
 exact wP (wP (wP h₄))
end
section
variable {c : Cx} {n : Nat} {sc : Scope} {ρ : Sto} {env : Env} {V0 : Addr -> Prop} {h0 : Heap} {Cs : List (Str × Addr)} {X : List Addr} {s : Shared} {A : Around}
theorem set_disp {K : Frag} {tx at' : String} {p1 p2 p3 pos : Pos} {kk : Nat} {x y : List Nat} {d : D} {E : Value -> Shared -> Prop} {Q : Value -> Shared -> Prop} (hn : c.hn) (hxy : x ≠ y) (XK : K.In c.base) (hc : kdsCode K env.code = true) (hroad : displayRoad kk [.Name (oS tx) p1, .Starred (.Name (oS at') p2) p3] = .oneByOne)
 (htx : ρ.lookup tx = some (.val (sd x))) (hat : ρ.lookup at' = some (.val (.dict [(y, d)]))) (hA : Room c n A) (F : Fm c sc env V0 h0 Cs X ρ s) (htd : tx ≠ "__debug__") (hatd : at' ≠ "__debug__")
 (h : ∀ sa s', Gr s s' -> s.heap.get? sa = none -> SetTwo s'.heap sa (S x) (S y) -> Q (.ref sa) s') : wpAny c.M A (eval (.Set [.Name (oS tx) p1, .Starred (.Name (oS at') p2) p3] kk pos) env) Q E s := by
 rw [arm_eval_Set]
 refine wB (wZ ?_)
 refine wB (kds_main (XK.keeps (F.base.trans F.keep)) hc fun b => ?_)
 erw [hroad]
 show wpAny c.M A (setDisplay .oneByOne b [(false, do let v <- eval (.Name (oS tx) p1) env; standAt pos; pure v), (true, do let v <- eval (.Name (oS at') p2) env; standAt pos; pure v)]) Q E s
 refine disp_star fun led => ?_
 have g0 : Gr s { s with heap := s.heap.push (setObj #[] 0 (.fresh 0 0 led)) } := .push _
 have hS0 : (s.heap.push (setObj #[] 0 (.fresh 0 0 led))).get? s.heap.objs.size = some (setObj #[] 0 (.fresh 0 0 led)) := Heap.get?_push_size _ rfl
 refine wB (wM ((Ev.name (n := n) (k := true) htx htd).run A env V0 h0 Cs X _ hA (F.gr g0)) (fun v s₁ q₁ => wB (wZ (wP ?_))) fun _ _ q => q.elim)
 obtain ⟨g1, r1⟩ := q₁
 obtain ⟨t1, rfl⟩ := r1.inv
 unfold setAdd
 refine wH (wB ((strKind c.prog c.w).pyHash (k := S x) (strKind_is _ _ _ _) ?_))
 refine set_first (s := { s₁ with toks := s₁.toks + 1 }) (g1.keep _ _ hS0) fun h₂ tb hs₂ ho₂ T₂ => ?_
 have hne : ∀ {b : Addr} {o : Obj}, s.heap.get? b = some o -> b ≠ s.heap.objs.size := fun e q => absurd (Heap.lt_size e) (by rw [q]; exact Nat.lt_irrefl _)
 have g2 : Gr s { s₁ with heap := h₂, toks := s₁.toks + 1 } := ⟨fun b o e => (hs₂.2 b (hne e)).trans (g1.keep _ _ (g0.keep _ _ e)), Nat.le_succ_of_le (g1.tok), g1.gens, g1.os⟩
 refine wB (wM ((Ev.name (n := n) (k := true) hat hatd).run A env V0 h0 Cs X _ hA (F.gr g2)) (fun v s₃ q₃ => wB (wZ (wP ?_))) fun _ _ q => q.elim)
 obtain ⟨g3, r3⟩ := q₃
 (refine x34 r3.dictA ?_; rintro da dv ep rfl hsm hd _)
 refine wT (Nat.le_refl _) (star_dict (hA.handled hn) hsm (fun q => hxy (S_inj q)) (g3.keep _ _ ho₂) T₂ hd fun h₄ tk S4 hk htk => ?_)
 refine h _ _ ⟨fun b o e => hk b o (hne e) (g3.keep _ _ (g2.keep _ _ e)), Nat.le_trans g2.tok (Nat.le_trans g3.tok htk), g3.gens.trans g2.gens, g3.os.trans g2.os⟩ (get_size _) S4
end
end
section
section
variable {prog : Program} {w : World} {A : Around} {E : Value -> Shared -> Prop} {s : Shared}
theorem list_lt_one {k0 k1 : Addr} {x y : Str} {tx ty : Tok} {n0 n1 : Nat} {Q : Bool -> Shared -> Prop} (h0 : s.heap.get? k0 = some (listObj #[.str x tx] n0)) (h1 : s.heap.get? k1 = some (listObj #[.str y ty] n1)) (hxy : x ≠ y) (hu : A.units < cLine) (h : ∀ b, Q b s) :
 wpAny (model prog w) A (keyLt' oneType' (.ref k0) (.ref k1)) Q E s := by
 have ht0 : s.TypeIs (.ref k0) "list" := ⟨_, h0, rfl⟩
 have ht1 : s.TypeIs (.ref k1) "list" := ⟨_, h1, rfl⟩
 rw [keyLt'_oneType, oneLt'_eq]
 simp only [if_true]
 refine wB (wpAny_cRoomFor hu ?_)
 have he0 : s.heap.IsList k0 #[.str x tx] := ⟨_, h0, rfl, _, rfl⟩
 refine wB (wpAny_callSpecialIfBound?_slot ht0 PySem.F.slot_list_lt (wpAny_call (codeAny_call_builtin PySem.F.slot_list_lt.plain PySem.F.entry_list_lt (PySem.F.slot_list_lt.check _ _ _ _ _ _ _ _ ht0 (PySem.F.args_list_lt_2 _ _) ?_))))
 unfold Builtin.«list.__lt__»
 refine wB (wpAny_of_eq (a := (Value.ref k0, [Value.ref k1])) rfl ?_)
 dsimp only
 refine wB (wpAny_isInstance (T := "list") (b := true) ht1 (by rw [isSubtype_type]; kernel_rfl) ?_)
 rw [if_neg (by decide), if_neg (by decide)]
 refine wP ⟨plainId_quiet PySem.MeetsSeq3.plain_eq_loop _, codeAny_builtin (args := ⟨[.ref k0, .ref k1, rawInt 0, rawInt 0], []⟩) PySem.MeetsSeq3.entry_eq_loop ?_⟩
 erw [Around.under_plainId PySem.MeetsSeq3.plain_eq_loop _]
 unfold Builtin.«list.__eq__.loop»
 dsimp only [rawInt]
 refine wB (listItems_at h0 rfl ?_)
 refine wB (listItems_at h1 rfl ?_)
 erw [show (#[Value.str x tx] : Array Value)[Int.toNat 0]? = some (.str x tx) from rfl, show (#[Value.str y ty] : Array Value)[Int.toNat 0]? = some (.str y ty) from rfl]
 dsimp only
 refine wB ((strKind prog w).eqBool (a := x) (b := y) (strKind_is _ _ _ _) (strKind_is _ _ _ _) ?_)
 erw [decide_eq_false hxy, if_neg Bool.false_ne_true]
 refine wB (listItems_at h0 rfl ?_)
 refine wB (listItems_at h1 rfl ?_)
 erw [show (#[Value.str x tx] : Array Value)[Int.toNat 0]? = some (.str x tx) from rfl, show (#[Value.str y ty] : Array Value)[Int.toNat 0]? = some (.str y ty) from rfl]
 dsimp only
 refine wB (m := richCompare .Lt (.str x tx) (.str y ty)) (show wpAny (model prog w) A.in1 (compareOp .Lt (.str x tx) (.str y ty)) _ _ _ from lt_str ?_)
 exact wP (wpAny_truthy_bool (h _))
theorem first_list {k0 : Addr} {vs : Array Value} {n : Nat} {Q : Option Value -> Shared -> Prop} (h0 : s.heap.get? k0 = some (listObj vs n)) (h : Q none s) : wpAny (model prog w) A (firstOfTuple' (.ref k0)) Q E s := by
 show wpAny (model prog w) A (do let t <- typeOf (.ref k0); if (t != .type "tuple") = true then pure none else do let xs <- Builtin.List.listItems (.ref k0); pure xs[0]?) Q E s
 refine wB (wpAny_typeOf_ref h0 ?_)
 erw [if_pos (show (Value.type "list" != Value.type "tuple") = true from by decide)]
 exact wP h
theorem kind_lists {k0 k1 : Addr} {v0 v1 : Array Value} {n0 n1 : Nat} {Q : SortKind -> Shared -> Prop} (h0 : s.heap.get? k0 = some (listObj v0 n0)) (h1 : s.heap.get? k1 = some (listObj v1 n1)) (h : Q oneType' s) : wpAny (model prog w) A (keyKind' #[.ref k0, .ref k1]) Q E s := by
 rw [keyKind'_eq]
 rw [show (#[Value.ref k0, .ref k1] : Array Value) = ([.ref k0, .ref k1] : List Value).toArray from rfl, List.mapM_toArray]
 simp only [List.mapM_cons, List.mapM_nil, map_eq_pure_bind, bind_assoc, pure_bind]
 refine wB (first_list h0 (wB (first_list h1 ?_)))
 rw [if_neg (by simp), if_neg (by simp)]
 rw [oneTypeOnly'_eq]
 rw [List.mapM_toArray]
 simp only [List.mapM_cons, List.mapM_nil, map_eq_pure_bind, bind_assoc, pure_bind]
 refine wB (wpAny_typeOf_ref h0 (wB (wpAny_typeOf_ref h1 ?_)))
 exact wB (wpAny_of_eq (a := some (Value.type "list")) (by
  show (match (#[Value.type "list", Value.type "list"] : Array Value)[0]? with
   | some t => (pure (if ((#[Value.type "list", Value.type "list"] : Array Value).all fun x => x == t) = true then some t else none) : Sem (Option Value))
   | none => pure none) = pure (some (Value.type "list"))
  erw [show (#[Value.type "list", Value.type "list"] : Array Value)[0]? = some (Value.type "list") from rfl]
  dsimp only
  rw [if_pos (by simp)]) (wP h))
theorem sort2 {κ : SortKind} {it : Array Keyed} {G : Array Nat -> Shared -> Prop} (hc : ∀ C : Bool -> Shared -> Prop, (∀ b, C b s) -> kas_cmp prog w A κ it 1 0 C s) (h1 : G #[0, 1] s) (h2 : G #[1, 0] s) : (kas_sort 2).kasWp (kas_cmp prog w A κ it) G s := by
 obtain ⟨k, hk⟩ : ∃ k, kas_sort 2 = .ask 1 0 k := ⟨_, by with_unfolding_all rfl⟩
 have ht : k true = .ret #[1, 0] := by
  have := congrArg (fun t : KasT (Array Nat) => match t with | .ask _ _ k => k true | t => t) hk
  exact this.symm.trans (by with_unfolding_all rfl)
 have hf : k false = .ret #[0, 1] := by
  have := congrArg (fun t : KasT (Array Nat) => match t with | .ask _ _ k => k false | t => t) hk
  exact this.symm.trans (by with_unfolding_all rfl)
 rw [hk]
 refine hc _ fun b => ?_
 cases b with
 | true => rw [ht]; exact h2
 | false => rw [hf]; exact h1
end
end
section
theorem Room.in1 {c : Cx} {n : Nat} {A : Around} (h : Room c (n + 1) A) : Room c n A.in1 := ⟨h.handled, (by have := h.depth; show A.depth + n < 900; omega), (by have := h.units; show A.units + 1 + 10 * n + 100 < cLine; omega), h.guards⟩
section
variable {c : Cx} {n : Nat} {A : Around} {s : Shared} {V : Addr -> Prop}
theorem upd_gr {s₀ s : Shared} {a : Addr} {h' : Heap} (g : Gr s₀ s) (hs : Heap.SameBut a s.heap h') (hn : s₀.heap.get? a = none) : Gr s₀ { s with heap := h' } :=
 ⟨fun b o e => (hs.2 b fun q => by rw [q, hn] at e; cases e).trans (g.keep b o e), g.tok, g.gens, g.os⟩
inductive KeyAt (h : Heap) (z : Str) (k : Value) : Prop
 | mk (a : Addr) (t : Tok) (n : Nat) (e : k = .ref a) (ho : h.get? a = some (listObj #[.str z t] n)) : KeyAt h z k
theorem key_call {f : Value} {z : List Nat} {t : Tok} (hf : FnR c n f [sd z] (.list [sd z])) (hA : Room c n A) (hS : St c V s) : wpAny c.M A (call f [.str (S z) t]) (fun k s' => Gr s s' /\ KeyAt s'.heap (S z) k) NoE s := by
 refine wM (hf.run A V s [.str (S z) t] hA hS (.cons (.str _ _) .nil)) (fun k s' q => ?_) fun _ _ q => q
 obtain ⟨g, r⟩ := q
 replace r := r.inv
 obtain ⟨a, o, vs, nn, rfl, na, ho, hcl, hd, hdt, r⟩ := r
 obtain ⟨vs⟩ := vs
 replace r := r.o1
 (refine x12 r ?_; clear r; rintro _ rfl r1)
 obtain ⟨t', rfl⟩ := r1.inv
 exact ⟨g, a, t', nn, rfl, by rw [ho]; exact congrArg some (obj_eq hcl hd hdt)⟩
theorem two_swap {α : Type} {x y u v : α} (h : Two x y [u, v]) : Two x y [v, u] := by
 generalize hl : [u, v] = l at h
 cases h with
 | ab => cases hl; exact .ba
 | ba => cases hl; exact .ab
theorem get_upd {h : Heap} {a : Addr} {vs : Array Value} {n : Nat} (ho : h.get? a = some (listObj vs n)) (g : Array Value -> Array Value) : ∃ m, (h.update a (Obj.mapSeq g)).get? a = some (listObj (g vs) m) := ⟨_, get?_update_seq ho g⟩
theorem key_end {x y : List Nat} {u v : List Nat} {tu tv : Tok} {a kS : Addr} {e1 n1 : Nat} {k0 k1 : Value} {P : PySem.Fin -> Shared -> Prop} (huv' : u ≠ v) (huv : Two x y [u, v]) (hau : A.units < cLine)
 (s₀ : Shared) (g0 : Gr s₀ s) (han : s₀.heap.get? a = none) (hkn : s₀.heap.get? kS = none) (hak : kS ≠ a) (ha : s.heap.get? a = some (listObj #[] e1)) (hk : s.heap.get? kS = some (listObj #[k0, k1] n1)) (K0 : KeyAt s.heap (S u) k0) (K1 : KeyAt s.heap (S v) k1)
 (h : ∀ s' z1 z2 t1 t2 nn, Gr s₀ s' -> Two x y [z1, z2] -> s'.heap.get? a = some (listObj #[.str (S z1) t1, .str (S z2) t2] nn) -> P (.done (.ret .none)) s') :
 wpAny c.M A (ksk_end a false #[.str (S u) tu, .str (S v) tv] e1 (.ref kS) #[k0, k1]) P NoE s := by
 obtain ⟨a0, t0, m0, rfl, ho0⟩ := K0
 obtain ⟨a1, t1, m1, rfl, ho1⟩ := K1
 unfold ksk_end
 dsimp only
 erw [if_neg Bool.false_ne_true]
 have h2 : ¬ (#[Value.str (S u) tu, .str (S v) tv] : Array Value).size < 2 := by simp
 erw [if_neg h2]
 refine wB (kind_lists ho0 ho1 ?_)
 erw [if_neg h2, if_neg Bool.false_ne_true]
 have hit : (#[Value.ref a0, .ref a1] : Array Value).zip (#[Value.str (S u) tu, .str (S v) tv] : Array Value) = #[(.ref a0, .str (S u) tu), (.ref a1, .str (S v) tv)] := by apply Array.ext'; simp
 erw [hit]
 generalize hit' : (#[(Value.ref a0, Value.str (S u) tu), (.ref a1, .str (S v) tv)] : Array Keyed) = it
 have hst : SortSt.mk' oneType' it #[] 7 none = kas_st oneType' it (List.toArray (List.range 2)) := by
  subst hit'
  unfold kas_st
  exact congrArg (fun z => SortSt.mk' oneType' z #[] 7 none) (kas_range #[(Value.ref a0, Value.str (S u) tu), (Value.ref a1, Value.str (S v) tv)]).symm
 erw [hst]
 refine wB (kas_runs (κ := oneType') (it := it) (n := 2) (G := fun p' s' => s' = s /\ (p' = #[0, 1] \/ p' = #[1, 0])) (Q := fun _ st' s' => wpAny c.M A (ksk_tail a false e1 (.ref kS) st') P NoE s') (by decide) (by decide) (fun p' st' s' _ harr hfl hG => ?_) (sort2 (fun C hC => ?_) ⟨rfl, .inl rfl⟩ ⟨rfl, .inr rfl⟩))
 · obtain ⟨rfl, hp⟩ := hG
   have hout : ∃ z1 z2 t1 t2, Two x y [z1, z2] /\ (arrOf st').map (·.2) = #[.str (S z1) t1, .str (S z2) t2] := by
    erw [harr]
    subst hit'
    rcases hp with rfl | rfl
    · exact ⟨u, v, tu, tv, huv, by apply Array.ext'; simp [kas_item]⟩
    · exact ⟨v, u, tv, tu, two_swap huv, by apply Array.ext'; simp [kas_item]⟩
   (refine x42 hout ?_; clear hout; intro z1 z2 t1' t2' tw hout)
   unfold ksk_tail
   dsimp only
   erw [hout]
   refine wB (listUpdate_at hk rfl ?_ (by rw [sizeLine_eq]; exact Nat.le_of_ble_eq_true rfl) (Nat.zero_le _))
   refine wB (wpAny_letGo ?_)
   have s1 := Heap.SameBut.update s'.heap kS (Obj.mapSeq fun _ => (#[] : Array Value))
   have ha1 := (s1.2 a hak.symm).trans ha
   refine wB (seqEpoch_at (s := { s' with heap := s'.heap.update kS (Obj.mapSeq fun _ => (#[] : Array Value)) }) ha1 rfl ?_)
   refine wB (listUpdate_at (s := { s' with heap := s'.heap.update kS (Obj.mapSeq fun _ => (#[] : Array Value)) }) ha1 rfl ?_ (Nat.zero_le _) (by erw [sizeLine_eq]; exact Nat.le_of_ble_eq_true rfl))
   erw [hfl]
   simp only [bne_self_eq_false, Bool.false_eq_true, if_false]
   obtain ⟨m, hm⟩ := get_upd ha1 fun _ => #[.str (S z1) t1', .str (S z2) t2']
   have g1 := upd_gr g0 s1 hkn
   exact wP (h _ z1 z2 t1' t2' m (upd_gr (s := { s' with heap := s'.heap.update kS (Obj.mapSeq fun _ => (#[] : Array Value)) }) g1 (Heap.SameBut.update (s'.heap.update kS (Obj.mapSeq fun _ => (#[] : Array Value))) a (Obj.mapSeq fun _ => #[.str (S z1) t1', .str (S z2) t2'])) han) tw hm)
 · subst hit'
   show wpAny c.M A (keyLt' oneType' (.ref a1) (.ref a0)) C _ s
   exact list_lt_one ho1 ho0 (fun q => huv' (S_inj q).symm) hau hC
theorem key_rest {f : Value} {x y : List Nat} {u v : List Nat} {tu tv : Tok} {a kS : Addr} {e1 : Nat} {P : PySem.Fin -> Shared -> Prop} (hxy : x ≠ y) (huv : Two x y [u, v]) (hf : ∀ z, z = x \/ z = y -> FnR c n f [sd z] (.list [sd z])) (hA : Room c n A) (hau : A.units < cLine)
 (s₀ : Shared) (S0 : St c V s₀) (g0 : Gr s₀ s) (han : s₀.heap.get? a = none) (hkn : s₀.heap.get? kS = none) (hak : kS ≠ a) (ha : s.heap.get? a = some (listObj #[] e1)) (hk : s.heap.get? kS = some (listObj #[] 0))
 (h : ∀ s' z1 z2 t1 t2 nn, Gr s₀ s' -> Two x y [z1, z2] -> s'.heap.get? a = some (listObj #[.str (S z1) t1, .str (S z2) t2] nn) -> P (.done (.ret .none)) s') :
 wpAny c.M A (ksk_rest a f false #[.str (S u) tu, .str (S v) tv] e1 (.ref kS)) P NoE s := by
 have huv' : u ≠ v /\ (u = x \/ u = y) /\ (v = x \/ v = y) := by
  generalize hl : [u, v] = l at huv
  cases huv with
  | ab => cases hl; exact ⟨hxy, .inl rfl, .inr rfl⟩
  | ba => cases hl; exact ⟨hxy.symm, .inr rfl, .inl rfl⟩
 unfold ksk_rest
 refine wB (wpAny_rule ?_)
 rw [show (#[Value.str (S u) tu, .str (S v) tv] : Array Value) = [Value.str (S u) tu, .str (S v) tv].toArray from rfl, List.forIn_toArray, List.forIn_cons]
 refine wB (wB (wB (wpAny_attempt (wM (key_call (hf u huv'.2.1) hA (S0.gr g0)) (fun k0 s₁ q₁ => ?_) fun _ _ q => q.elim))))
 obtain ⟨g1, K0⟩ := q₁
 dsimp only
 have hk1 := g1.keep _ _ hk
 have s1 := Heap.SameBut.update s₁.heap kS (Obj.mapSeq (·.push k0))
 refine wB (listUpdate_at hk1 rfl ?_ (Nat.zero_le _) (by erw [sizeLine_eq]; exact Nat.le_of_ble_eq_true rfl))
 obtain ⟨m1, hk2⟩ := get_upd hk1 (·.push k0)
 have ha2 := (s1.2 a hak.symm).trans (g1.keep _ _ ha)
 have g2 := upd_gr (g0.trans g1) s1 hkn
 refine wP ?_
 dsimp only
 have K0' : KeyAt (s₁.heap.update kS (Obj.mapSeq (·.push k0))) (S u) k0 := by
  obtain ⟨a0, t0, m0, e0, h0⟩ := K0
  refine ⟨a0, t0, m0, e0, (s1.2 a0 fun q => ?_).trans h0⟩
  rw [q, hk1] at h0; cases h0
 rw [List.forIn_cons]
 refine wB (wB (wpAny_attempt (wM (key_call (s := { s₁ with heap := s₁.heap.update kS (Obj.mapSeq (·.push k0)) }) (hf v huv'.2.2) hA (S0.gr g2)) (fun k1 s₃ q₃ => ?_) fun _ _ q => q.elim)))
 obtain ⟨g3, K1⟩ := q₃
 dsimp only
 have hk3 := g3.keep _ _ hk2
 have s3 := Heap.SameBut.update s₃.heap kS (Obj.mapSeq (·.push k1))
 have hz : (#[].push k0 : Array Value) = #[k0] := rfl
 refine wB (listUpdate_at hk3 rfl ?_ (by rw [sizeLine_eq]; exact Nat.le_of_ble_eq_true rfl) (by erw [sizeLine_eq]; exact Nat.le_of_ble_eq_true rfl))
 obtain ⟨m3, hk4⟩ := get_upd hk3 (·.push k1)
 have ha4 := (s3.2 a hak.symm).trans (g3.keep _ _ ha2)
 have g4 := upd_gr (g2.trans g3) s3 hkn
 have kk : ∀ z k, KeyAt s₃.heap z k -> KeyAt (s₃.heap.update kS (Obj.mapSeq (·.push k1))) z k := fun z k ⟨a0, t0, m0, e0, h0⟩ => by
  obtain ⟨b0, _, _, e, _⟩ := K0
  refine ⟨a0, t0, m0, e0, (s3.2 a0 fun q => ?_).trans h0⟩
  rw [q, hk3, e] at h0; cases h0
 refine wP ?_
 dsimp only
 rw [List.forIn_nil]
 refine wP (wB (listItems_at (s := { s₃ with heap := s₃.heap.update kS (Obj.mapSeq (·.push k1)) }) hk4 rfl ?_))
 refine key_end (s := { s₃ with heap := s₃.heap.update kS (Obj.mapSeq (·.push k1)) }) (k0 := k0) (k1 := k1) huv'.1 huv hau s₀ g4 han hkn hak ha4 hk4 (kk _ _ ?_) (kk _ _ K1) h
 obtain ⟨a0, t0, m0, e0, h0⟩ := K0'
 exact ⟨a0, t0, m0, e0, g3.keep _ _ h0⟩
theorem key_sort {f : Value} {x y : List Nat} {u v : List Nat} {tu tv : Tok} {a : Addr} {P : PySem.Fin -> Shared -> Prop} (hxy : x ≠ y) (huv : Two x y [u, v]) (hf : ∀ z, z = x \/ z = y -> FnR c n f [sd z] (.list [sd z])) (hA : Room c n A) (hau : A.units < cLine)
 (s₀ : Shared) (S0 : St c V s₀) (g0 : Gr s₀ s) (han : s₀.heap.get? a = none) (ha : s.heap.get? a = some (listObj #[.str (S u) tu, .str (S v) tv] 0))
 (h : ∀ s' z1 z2 t1 t2 nn, Gr s₀ s' -> Two x y [z1, z2] -> s'.heap.get? a = some (listObj #[.str (S z1) t1, .str (S z2) t2] nn) -> P (.done (.ret .none)) s') :
 wpAny c.M A (ksk_tree a f false) P NoE s := by
 have s1 := Heap.SameBut.update s.heap a (Obj.mapSeq fun _ => (#[] : Array Value))
 obtain ⟨e1, ha1⟩ := get_upd ha fun _ => (#[] : Array Value)
 have g1 := upd_gr g0 s1 han
 have hsz : ∀ (h : Heap) (o : Obj), (h.push o).objs.size = h.objs.size + 1 := fun h o => by simp [Heap.push]
 unfold ksk_tree
 refine wB (listItems_at ha rfl ?_)
 refine wB (listUpdate_at ha rfl ?_ (by rw [sizeLine_eq]; exact Nat.le_of_ble_eq_true rfl) (Nat.zero_le _))
 refine wB (seqEpoch_at (s := { s with heap := s.heap.update a (Obj.mapSeq fun _ => (#[] : Array Value)) }) ha1 rfl ?_)
 refine wB (wpAny_newTuple ?_ (by rw [sizeLine_eq]; exact Nat.le_of_ble_eq_true rfl))
 refine wB (wpAny_newList ?_ (Nat.zero_le _))
 refine wH ?_
 have g2 := g1.trans (Gr.push (s := { s with heap := s.heap.update a (Obj.mapSeq fun _ => (#[] : Array Value)) }) { cls := .type "tuple", data := .seq #[.str (S u) tu, .str (S v) tv] })
 have g3 := g2.trans (Gr.push (s := { s with heap := (s.heap.update a (Obj.mapSeq fun _ => (#[] : Array Value))).push { cls := .type "tuple", data := .seq #[.str (S u) tu, .str (S v) tv] } }) (listObj #[] 0))
 have ha2 : ((s.heap.update a (Obj.mapSeq fun _ => (#[] : Array Value))).push { cls := .type "tuple", data := .seq #[.str (S u) tu, .str (S v) tv] }).get? a = some (listObj #[] e1) := Heap.get?_push_of_some _ ha1
 refine key_rest (s := { s with heap := ((s.heap.update a (Obj.mapSeq fun _ => (#[] : Array Value))).push { cls := .type "tuple", data := .seq #[.str (S u) tu, .str (S v) tv] }).push (listObj #[] 0) }) (kS := ((s.heap.update a (Obj.mapSeq fun _ => (#[] : Array Value))).push { cls := .type "tuple", data := .seq #[.str (S u) tu, .str (S v) tv] }).objs.size) hxy huv hf hA hau s₀ S0 g3 han (gr_none g2 (get_size _)) (fun q => ?_) (Heap.get?_push_of_some _ ha2) (Heap.get?_push_size _ rfl) h
 exact Nat.ne_of_gt (Heap.lt_size ha2) q
theorem sorted_two {sa : Addr} {f : Addr} {x y : List Nat} (hn : c.hn) (hxy : x ≠ y) (hf : ∀ z, z = x \/ z = y -> FnR c n (.ref f) [sd z] (.list [sd z])) (hA : Room c (n + 2) A) (hS : St c V s) (h2 : SetTwo s.heap sa (S x) (S y)) :
 wpAny c.M A (call (.builtin "sorted") [.ref sa] [(oS "key", .ref f)]) (fun v s' => Gr s s' /\ ∃ z1 z2, Two x y [z1, z2] /\ Rep c V s' (.list [sd z1, sd z2]) v) NoE s := by
 obtain ⟨e0, e1, ep, t, tx, ty, ho, T, pl, two⟩ := h2
 refine wT (Nat.le_refl _) ?_
 refine call_function_entry_kw kind_sorted plain_sorted entry_sorted (ksk_s1 _ _) ?_
 unfold Builtin.«sorted»
 refine wB (m := checkCount "sorted" 1 1 _) (wP ?_)
 refine wB (wT (Nat.le_refl _) (collect_set (A := A.in1) (hA.handled hn) ho T pl fun h₁ tk d vs hk₁ hvs htk => ?_))
 obtain ⟨u, v, tu, tv, rfl, huv⟩ : ∃ u v tu tv, vs = [.str (S u) tu, .str (S v) tv] /\ Two x y [u, v] := by
  generalize hl : [e0.2, e1.2] = l at two
  cases two with
  | ab =>
   injection hl with h1 h2
   injection h2 with h2 _
   rw [h1, h2] at hvs
   cases hvs with
   | ab => exact ⟨x, y, tx, ty, rfl, .ab⟩
   | ba => exact ⟨y, x, ty, tx, rfl, .ba⟩
  | ba =>
   injection hl with h1 h2
   injection h2 with h2 _
   rw [h1, h2] at hvs
   cases hvs with
   | ab => exact ⟨y, x, ty, tx, rfl, .ba⟩
   | ba => exact ⟨x, y, tx, ty, rfl, .ab⟩
 refine wB (wpAny_newList ?_ (by rw [sizeLine_eq]; exact Nat.le_of_ble_eq_true rfl))
 have hoL : (h₁.push (listObj #[.str (S u) tu, .str (S v) tv] 0)).get? h₁.objs.size = some (listObj #[.str (S u) tu, .str (S v) tv] 0) := Heap.get?_push_size _ rfl
 have g1 : Gr s { s with heap := h₁, drawn := d, toks := tk } := ⟨hk₁, htk, .rfl, rfl⟩
 have g2 : Gr { s with heap := h₁, drawn := d, toks := tk } { s with heap := h₁.push (listObj #[.str (S u) tu, .str (S v) tv] 0), drawn := d, toks := tk } := .push (s := { s with heap := h₁, drawn := d, toks := tk }) _
 refine wB (wH (wpAny_call_entry_kw slot_list_sort ⟨_, hoL, rfl⟩ entry_list_sort ?_ (ksk_l1 _ _)))
 show wpAny _ _ (Builtin.«list.sort» ⟨[.ref h₁.objs.size], [(oS "key", .ref f)]⟩) _ _ _
 rw [ksk_t1]
 refine wM (key_sort (n := n) (V := V) (P := fun fin s' => fin = .done (.ret .none) /\ Gr { s with heap := h₁, drawn := d, toks := tk } s' /\ ∃ z1 z2 t1 t2 nn, Two x y [z1, z2] /\ s'.heap.get? h₁.objs.size = some (listObj #[.str (S z1) t1, .str (S z2) t2] nn)) (s := { s with heap := h₁.push (listObj #[.str (S u) tu, .str (S v) tv] 0), drawn := d, toks := tk }) hxy huv hf hA.in1.in1 hA.in1.in1.cl _ (hS.gr g1) g2 (get_size h₁) hoL fun s' z1 z2 t1 t2 nn g tw hz => ⟨rfl, g, z1, z2, t1, t2, nn, tw, hz⟩) (fun fin s' q => ?_) fun _ _ q => q.elim
 (refine x03 q ?_; clear q; rintro rfl g r9; refine x52 r9 ?_; clear r9; intro z1 z2 t1 t2 nn tw hz)
 refine ⟨.none, rfl, wP ⟨_, rfl, fun _ => ⟨g1.trans g, z1, z2, tw, ?_⟩⟩⟩
 refine .list (fun q => ?_) hz rfl ⟨rfl, rfl⟩ rfl (.cons (.str _ _) (.cons (.str _ _) .nil))
 obtain ⟨o, e⟩ := hS.live _ q
 exact absurd (Heap.lt_size (hk₁ _ _ e)) (Nat.lt_irrefl _)
end
end
section
section
variable {c : Cx} {n : Nat}
theorem FnR.split1 {z : List Nat} (h1 : (decide ((S z).length < (S (cs "}")).length) || decide (Builtin.Str.strKind (S z) < Builtin.Str.strKind (S (cs "}")))) = false) (h2 : Builtin.Str.occurrences (S z) (S (cs "}")) 0 (S z).length 1 = []) :
 FnR c n (.builtin "str.split") [sd z, sd (cs "}"), .int 1] (.list [sd z]) := .mk fun A V s vs hA hS r => by
 replace r := r.o3
 (refine x34 r ?_; clear r; rintro _ _ _ rfl r1 r2 r3)
 obtain ⟨t, rfl⟩ := r1.inv
 obtain ⟨u, rfl⟩ := r2.inv
 obtain ⟨v, rfl⟩ := r3.inv
 refine wp_end (wpAny_call_entry PySem.F.slot_str_split (typeIs_str _ _ _) PySem.F.entry_str_split ?_ (PySem.F.args_str_split_3 _ _ _))
 unfold Builtin.«str.split»
 refine wB (wpAny_of_eq (a := (Value.str (S z) t, S z, [.str (S (cs "}")) u, .int 1 v])) rfl ?_)
 dsimp only
 refine wB (wpAny_of_eq (a := [some (.str (S (cs "}")) u), some (.int 1 v)]) rfl ?_)
 dsimp only
 refine wB (wpAny_of_eq (a := 1) rfl ?_)
 erw [if_neg (show ¬ ((some (Value.str (S (cs "}")) u)).isNone || some (Value.str (S (cs "}")) u) == some Value.none) = true from Bool.false_ne_true)]
 refine wB (wpAny_of_eq (a := some (S (cs "}"))) rfl ?_)
 dsimp only
 erw [h1, if_neg Bool.false_ne_true, if_neg (show ¬ ((S (cs "}")).length == 0) = true from by decide), h2, if_pos (show (Builtin.Str.isExactStr (Value.str (S z) t) && ([] : List Nat).isEmpty) = true from rfl)]
 refine wB (wpAny_rule (wB (wpAny_newList (wP ⟨_, rfl, fun _ _ e => Heap.get?_push_of_some _ e, rfl, rfl, fun _ => .list hS.new (Heap.get?_push_size _ rfl) rfl ⟨rfl, rfl⟩ rfl (.cons (.str _ _) .nil)⟩) (by rw [sizeLine_eq]; exact Nat.le_of_ble_eq_true rfl))))
theorem split_a : FnR c n (.builtin "str.split") [sd (cs "a"), sd (cs "}"), .int 1] (.list [sd (cs "a")]) := .split1 (by decide +kernel) (by decide +kernel)
theorem split_k : FnR c n (.builtin "str.split") [sd (cs "k"), sd (cs "}"), .int 1] (.list [sd (cs "k")]) := .split1 (by decide +kernel) (by decide +kernel)
end
end
section
inductive LamIn (c : Cx) (f : Addr) (sc : Scope) (x : String) (e : Expr) : Prop
 | mk (o : Obj) (fd : FuncData) (ho : c.base.get? f = some o) (hdat : o.data = .func fd) (hbody : fd.body = .expr e) (hsc : fd.scope = sc) (hclo : fd.closure = []) (hgl : fd.globals = mainGlobals) (hbl : fd.builtins = builtinsNs) (hcd : c.base.CodeRec fd.code fd.qualname) (hbind : ∀ v, bindArgs fd ⟨[v], []⟩ = pure [(oS x, v)])
  (kind : sc.kind = .function) (co : sc.isCoroutine = false) (gen : sc.isGenerator = false) (names : ∀ p ∈ sc.names, p.2 ≠ .cell /\ p.2 ≠ .free) (kx : sc.names.lookup (oS x) = some .local) : LamIn c f sc x e
section
variable {c : Cx} {n : Nat}
theorem FnR.lam {f : Addr} {sc : Scope} {x : String} {e : Expr} {d d' : D} (hl : LamIn c f sc x e) (h : Ev c n sc true [(x, .val d)] e d') : FnR c (n + 1) (.ref f) [d] d' := .mk fun A V s vs hA hS r => by
 replace r := r.o1
 (refine x12 r ?_; clear r; rintro _ rfl r1)
 rename_i v
 obtain ⟨o, fd, ho, hdat, hbody, hsc, hclo, hgl, hbl, hcd, hbind, kind, co, gen, names, kx⟩ := hl
 subst hsc
 refine wT (Nat.le_refl _) (wpAny_call (kla_callFunE hA.lim (hS.keep _ _ ho) hdat co gen hbody (hcd.keeps hS.keep) ?_))
 rw [hbind, hclo]
 refine wP (wpAny_newFunctionEnv (fun p hp => (names p hp).1) (fun y hy => by rw [mSz.mp hy]; exact kx) (fun h₁ hns hsb => ⟨(hS.good.lim.keeps hS.keep).fresh _ hsb, ?_⟩) kind)
 have hk₁ : Keeps s.heap h₁ := fun b o e => hsb.extBut b o (Nat.ne_of_lt (Heap.lt_size e)) (Heap.get?_push_of_some _ e)
 have hns' : h₁.Ns s.heap.objs.size (fun y => if y = oS x then some v else none) := by
  have e2 : (fun y => ([(oS x, v)] : List (Str × Value)).reverse.lookup y) = fun y => if y = oS x then some v else none := by
   funext y
   simp only [List.reverse_cons, List.reverse_nil, List.nil_append, List.lookup_cons, List.lookup_nil]
   by_cases q : y = oS x
   · subst q; simp
   · rw [if_neg q, show (y == oS x) = false from by simpa using q]
  erw [<- e2]; exact hns
 generalize hE : newEnv fd.scope s.heap.objs.size fd.globals [] (fd.qualname ++ ".<locals>.") (some f) fd.code none fd.builtins = env
 have hL : env.locals = s.heap.objs.size := by rw [<- hE]; rfl
 have g1 : Gr s { s with heap := h₁, toks := s.toks + 1 } := ⟨hk₁, Nat.le_succ _, .rfl, rfl⟩
 have F : Fm c fd.scope env V s.heap [] [s.heap.objs.size] [(x, .val d)] { s with heap := h₁, toks := s.toks + 1 } := by
  refine ⟨hS.good, by rw [<- hE]; rfl, kind, by rw [<- hE]; exact hgl, by rw [<- hE]; exact hbl, hS.keep, hk₁, Nat.succ_ne_zero _, fun a q => ?_, fun y hy => ?_, fun a ha => by rw [mSz.mp ha]; exact get_size _, fun _ _ q => (nomatch q), fun _ _ _ q => (by rw [<- hE] at q; cases q), ⟨_, [], hL ▸ hns', by erw [hL]; rfl, by simp, fun a ha => ?_, (fun p hp => nomatch hp), ?_⟩⟩
  · obtain ⟨o', e⟩ := hS.live a q
    exact ⟨⟨o', hk₁ _ _ e⟩, fun q' => by rw [mSz.mp q', get_size] at e; cases e⟩
  · rcases hy with hy | hy
    · exact absurd rfl (names _ (mem_lookup hy)).1
    · exact absurd rfl (names _ (mem_lookup hy)).2
  · erw [mSz.mp ha]
    (refine x32 hns' ?_; clear hns'; intro oL _ _ e _)
    exact ⟨oL, e⟩
  · refine .cons (fp := []) (v := v) (.loc (by show env.scope.names.lookup _ = _; rw [<- hE]; exact kx) (if_pos rfl)) (.val ?_) .nil
    exact (r1.ext (W := fun a => a ∈ [s.heap.objs.size]) fun a ha => by rw [mSz.mp ha]; exact get_size _).gr g1
 refine kla_codeExpr (wM (h.run (A.deeper env) env V _ _ _ _ (hA.deeper env) F) (fun v' s' q => ?_) fun _ _ q => q.elim)
 exact fun _ => ⟨g1.trans q.1, q.2.weak fun a q => ⟨rfl, .inl q⟩⟩
theorem lam_split {f : Addr} {sc : Scope} {z : List Nat} {ka kb : Nat} {p1 p2 p3 p4 p5 : Pos} (hl : LamIn c f sc "n" (.Call (.Attribute (.Name (oS "n") p1) (oS "split") p2) [.Constant (.str (oS "}")) ka p3, .Constant (.int 1) kb p4] [] p5)) (hline : (p2.endLine == p5.line) = true) (hz : z = cs "a" \/ z = cs "k") :
 FnR c (n + 1) (.ref f) [sd z] (.list [sd z]) :=
 .lam hl (.meth (.name rfl) rfl PySem.F.plainAttrs_str PySem.F.slot_str_split PySem.F.type_str_split (.cons .lit (.cons .int .nil)) (by rcases hz with rfl | rfl <;> first | exact split_a | exact split_k) hline)
end
end
section
inductive PSt (P : Addr) (qual : Str) (pos : Pos) (h : Heap) : Prop
 | miss (h0 : h.get? P = some (tabObj #[])) : PSt P qual pos h
 | hit (c' : Addr) (h1 : h.get? P = some (tabObj #[rawInt pos.line, rawInt pos.col, .ref c'])) (h2 : h.CodeRec (.ref c') qual) : PSt P qual pos h
theorem BuiltinsAt_keeps {h h' : Heap} {mg : Str -> Option Value} {P : Addr} (x : h.BuiltinsAt mg P) (k : Keeps h h') : h'.BuiltinsAt mg P := by
 (refine x26 x ?_; clear x; intro bm ob h1 h2 h3 h4 h5 h6)
 exact ⟨bm, ob, h1, h2, h3, h4, k _ _ h5, h6⟩
section
variable {c : Cx} {n : Nat} {sc : Scope} {ρ : Sto} {env : Env} {V0 : Addr -> Prop} {h0 : Heap} {Cs : List (Str × Addr)} {X : List Addr} {s : Shared} {A : Around}
inductive LamMade (P : Addr) (qual : Str) (params : Arguments) (body : Expr) (scope : Scope) (mg : Str -> Option Value) (pos : Pos) (s : Shared) (v : Value) (s' : Shared) : Prop
 | mk (f c' : Addr) (ctv : Value) (e : v = .ref f) (ho : s'.heap.get? f = some (kla_obj "<lambda>" qual params body scope [] ((mg "__name__").getD .none) c' ctv)) (hn : s.heap.get? f = none) (hr : s'.heap.CodeRec (.ref c') qual) (hP : s'.heap.get? P = some (tabObj #[rawInt pos.line, rawInt pos.col, .ref c']))
  (far : Far (fun b => b = P) s s') (gens : s'.gens = s.gens) (os : s'.os = s.os) : LamMade P qual params body scope mg pos s v s'
theorem lam_eval {P cc : Addr} {params : Arguments} {body : Expr} {scope : Scope} {pos : Pos} (F : Fm c sc env V0 h0 Cs X ρ s) (hdef : defaultsOf params env = ([], [])) (hcl : closureFor scope env = pure []) (hcode : env.code = .ref cc) (C : CodeHd c.base cc P) (hB : c.base.BuiltinsAt c.mg P) (hPb : c.base.get? P = none)
 (hP : PSt P (env.qual ++ "<lambda>") pos s.heap) : wpAny c.M A (eval (.Lambda params body scope pos) env) (LamMade P (env.qual ++ "<lambda>") params body scope c.mg pos s) NoE s := by
 have hkb := F.base.trans F.keep
 have hg : s.heap.Ns mainGlobals c.mg := F.good.g.keeps hkb
 refine wT (Nat.le_refl _) (kla_eval hdef ?_)
 cases hP with
 | miss h0 =>
  have hgP : mainGlobals ≠ P := fun q => by
   (refine x32 F.good.g ?_; intro o es ep e _)
   rw [q, hPb] at e; cases e
  refine kla_makeFunction hcl F.globals hg hcode (C.keeps hkb) h0 trivial rfl hgP (BuiltinsAt_keeps hB hkb) fun c' ctv h' tk hx hge hlt hrec htb ht => ?_
  refine ⟨h'.objs.size, c', ctv, rfl, Heap.get?_push_size _ rfl, ?_, ?_, Heap.get?_push_of_some _ htb, ⟨fun b o nb e => Heap.get?_push_of_some _ (hx b o nb e), ht⟩, rfl, rfl⟩
  · cases e : s.heap.get? h'.objs.size with
    | none => rfl
    | some o => exact absurd (Heap.lt_size e) (Nat.not_lt.mpr (Nat.le_trans hge (Nat.le_of_lt hlt)))
  · (refine x43 hrec ?_; clear hrec; intro c2 oc vs tq e1 e2 r)
    exact ⟨c2, oc, vs, tq, e1, Heap.get?_push_of_some _ e2, r⟩
 | hit c' h1 h2 =>
  refine kla_makeFunctionHit (cv := .ref c') hcl F.globals hg hcode (C.keeps hkb) h1 trivial (by simp [codeAmong, rawInt]) (BuiltinsAt_keeps hB hkb) fun ctv h' tk hk hsz ht => ?_
  refine ⟨h'.objs.size, c', ctv, rfl, Heap.get?_push_size _ rfl, ?_, ?_, Heap.get?_push_of_some _ (hk _ _ h1), ⟨fun b o _ e => Heap.get?_push_of_some _ (hk _ _ e), ht⟩, rfl, rfl⟩
  · cases e : s.heap.get? h'.objs.size with
    | none => rfl
    | some o => exact absurd (Heap.lt_size (hk _ _ e)) (Nat.lt_irrefl _)
  · exact (h2.keeps hk).keeps fun b o e => Heap.get?_push_of_some _ e
end
end
section
section
variable {c : Cx} {n : Nat} {sc : Scope} {k : Bool} {ρ ρ' : Sto} {P : AF -> Sto -> Prop}
theorem Tsts.nilAnd : Tsts c n sc ρ .And [] true := .mk fun A env V0 h0 Cs X s _ _ => wpAny_allTrue_And_nil ⟨.refl s, rfl⟩
theorem Tsts.and {e : Expr} {es : List Expr} {a b : Bool} (h : Tst c n sc ρ e a) (hs : a = true -> Tsts c n sc ρ .And es b) : Tsts c n sc ρ .And (e :: es) (a && b) :=
 .mk fun A env V0 h0 Cs X s hA F => wpAny_allTrue_And_cons (wM (h.run A env V0 h0 Cs X s hA F) (fun r s' q => by
  obtain ⟨g, rfl⟩ := q
  cases r with
  | false => erw [if_neg Bool.false_ne_true]; exact ⟨g, rfl⟩
  | true => erw [if_pos rfl]; exact wp_gr g ((hs rfl).run A env V0 h0 Cs X s' hA (F.gr g))) fun _ _ q => q.elim)
theorem Ev.first1 {value : Expr} {p pos p1 : Pos} {kk : Nat} {l m : List Nat} (h1 : Ev c n sc true ρ value (sd l)) (hm : ∀ t u, (sliceMade (S l) t Option.none (Option.some (1, u)) Option.none) = .val (.str (S m) t))
 (ht : ∀ o r, letTemporaryGo value o r = pure () := by intro _ _; rfl) : Ev c n sc k ρ (.Subscript value (.Slice Option.none (Option.some (.Constant (.int 1) kk p1)) Option.none p) pos) (sd m) := .weak <| .mk fun A env V0 h0 Cs X s hA F => by
 refine wpAny_Subscript_str_slice (wM (h1.run A env V0 h0 Cs X s hA F) (fun o s₁ q₁ => wpAny_evalPart_none (wM ((EvO.some (k := true) (Ev.int (c := c) (n := n) (sc := sc) (ρ := ρ))).run A env V0 h0 Cs X s₁ hA (F.gr q₁.1)) (fun vu s2 q₂ => ?_) fun _ _ q => q)) fun _ _ q => q) ht
 obtain ⟨g1, r1⟩ := q₁
 obtain ⟨t, rfl⟩ := r1.inv
 obtain ⟨g2, ip⟩ := q₂
 obtain ⟨u, rfl⟩ : ∃ u, vu = .int 1 u := by cases ip; exact ⟨_, rfl⟩
 refine ⟨S l, t, Option.none, Option.some (1, u), rfl, rfl, rfl, ?_⟩
 have g3 := (g1.trans g2).trans (Gr.push (s := s2) { cls := .type "slice", data := .fields #[.none, .int 1 u, .none] })
 erw [hm t u]
 exact ⟨g3, .str _ _⟩
theorem slice_a (t u : Tok) : sliceMade (S (cs "a")) t Option.none (Option.some (1, u)) Option.none = .val (.str (S (cs "a")) t) := rfl
theorem slice_k (t u : Tok) : sliceMade (S (cs "k")) t Option.none (Option.some (1, u)) Option.none = .val (.str (S (cs "k")) t) := rfl
theorem TgtG.tupleAt {w : Bool} {ts : List Expr} {kk : Nat} {p : Pos} {ds : List D} {ta : Addr} {vs : Array Value} {nn : Nat} {ρ' : Sto} (hb : c.base.get? ta = some { cls := .type "tuple", data := .seq vs nn }) (hr : ∀ V s, RepL c V s ds vs.toList) (h : TgtsR w c sc ts ds ρ ρ') (hn : c.hn := by assumption) :
 TgtG w c sc (.Tuple ts kk p) (.val (.ref ta)) ρ ρ' := .mk fun A env V0 h0 Cs X s v hA hO F r => by
 cases r.inv
 have hl := h.length env
 have ho := F.keep _ _ (F.base _ _ hb)
 refine wpAny_assign_Tuple (items := vs) (hA.handled hn) ⟨_, ho, rfl, _, rfl⟩ (by rw [hl.1, (hr Vol0 s).length]; simp) hl.2 fun h' he => ?_
 have g := Gr.ext he
 exact wM (h.wp hA hO (F.gr g) (hr _ _)) (fun _ s'' q => let ⟨X'', g', F''⟩ := q; ⟨X'', (Stp.of_gr g).trans g', F''⟩) fun _ _ q => q
noncomputable def SR (c : Cx) (sa : Addr) (f : Str -> Bool) (k : Nat) : Res where
 v := .ref sa
 P fp h := fp = [sa] /\ h.SetOf (strKind c.prog c.w) sa f k
 live fp h q a ha := by
  (refine x02 q ?_; clear q; rintro rfl r9; refine x44 r9 ?_; clear r9; intro o es ep t h1 h2 h3 _)
  rw [mSz.mp ha]
  exact ⟨o, h1, fun w e => by rw [h3] at e; cases e⟩
 keep fp h h' q hk := by
  (refine x02 q ?_; clear q; rintro rfl r9; refine x42 r9 ?_; clear r9; intro o es ep t h1 r)
  exact ⟨rfl, o, es, ep, t, hk sa (.head _) _ h1, r⟩
theorem Sx.setNew {x : String} {p p1 pos cp : Pos} (hb : c.mg (oS "set") = Option.none /\ c.mb (oS "set") = some (.type "set")) (hk : CanStore sc x) (hg : sc.names.lookup (oS "set") = some .globalImplicit := by rfl)
 (hs : ∀ env : Env, env.scope = sc -> swapsWith (.Call (.Name (oS "set") p1) [] [] cp) (some (.Name (oS x) p)) pos.line env = pure false := by intro _ _; rfl) :
 Sx c n sc ρ (.Assign [.Name (oS x) p] (.Call (.Name (oS "set") p1) [] [] cp) pos) fun af ρ' => af = .next /\ ∃ sa, ρ' = setS ρ x (.res (SR c sa (fun _ => false) 0)) := .mk fun A env V0 h0 Cs X s hA hO F => by
 refine wpAny_Assign_Name ?_ (hs env F.scope)
 erw [show eval (.Call (.Name (oS "set") p1) [] [] cp) env = (do callWith cp (<- eval (.Name (oS "set") p1) env) [] (backTo cp (starEach [] env)) (backToKw cp (keywordEach [] env))) from rfl]
 refine wB (wM ((Ev.blt (n := n) (k := true) (ρ := ρ) hb.1 hb.2 hg).run A env V0 h0 Cs X s hA F) (fun fv s₁ q₁ => ?_) fun _ _ q => q.elim)
 obtain ⟨g₁, r₁⟩ := q₁
 cases r₁.inv
 have F₁ := F.gr g₁
 refine (Callee.type (c := c) "set").wp rfl (wN ⟨F₁.base.trans F₁.keep, call_set_0 fun led => ?_⟩)
 have hS : (s₁.heap.push (setObj #[] 0 (.fresh 0 0 led))).SetOf (strKind c.prog c.w) s₁.heap.objs.size (fun _ => false) 0 := ⟨_, #[], 0, _, Heap.get?_push_size _ rfl, ⟨rfl, rfl, rfl⟩, rfl, fun e he => (by simp at he), fun k => (by simp), by decide, by rfl, rfl⟩
 have g₂ : Gr s₁ { s₁ with heap := s₁.heap.push (setObj #[] 0 (.fresh 0 0 led)) } := .push _
 refine wM (Fm.store (x := x) (sl := .res (SR c s₁.heap.objs.size (fun _ => false) 0)) (v := .ref s₁.heap.objs.size) (fp := [s₁.heap.objs.size]) F (g₁.trans g₂) (hO.own _) hk (.res ⟨rfl, hS⟩) (by simp) fun a ha => ?_) (fun _ s₃ q => ?_) fun _ _ q => q
 · rw [mSz.mp ha]; exact gr_none g₁ (get_size _)
 · (refine x12 q ?_; clear q; intro X' t F')
   exact ⟨X', _, .next, t, F', .next, rfl, _, rfl⟩
theorem Sx.setAdd {x : String} {e : Expr} {y : List Nat} {sa : Addr} {f : Str -> Bool} {m : Nat} {xp ap pos epos : Pos} (hx : ρ.lookup x = some (.res (SR c sa f m))) (he : Ev c n sc true ρ e (sd y)) (hm : m <= 100) (hp : plainE e = true := by rfl) (hline : (ap.endLine == pos.line) = true := by rfl) (hxd : x ≠ "__debug__" := by decide)
 (hsw : ∀ env : Env, swapsWith (.Call (.Attribute (.Name (oS x) xp) (oS "add") ap) [e] [] pos) Option.none epos.line env = pure false := by intro _; rfl) :
 Sx c n sc ρ (.Expr (.Call (.Attribute (.Name (oS x) xp) (oS "add") ap) [e] [] pos) epos) fun af ρ' => af = .next /\ ρ' = setS ρ x (.res (SR c sa (fun k' => f k' || decide (k' = S y)) (if f (S y) then m else m + 1))) := .mk fun A env V0 h0 Cs X s hA hO F => by
 (refine x21 (F.opR hx) ?_; intro fp fps' O)
 have hi : interactive env = false := by
  unfold interactive
  erw [F.scope, F.kind]; rfl
 obtain ⟨rfl, hS⟩ := id O.p
 refine wpAny_Expr_any ?_ hi (hsw env)
 refine wpAny_Call_method (T := "set") (id := "set.add") rfl ?_ hline PySem.F.plainAttrs_set PySem.F.slot_set_add PySem.F.type_set_add ?_
 · erw [starEach_cons hp]; rfl
 have hT : s.TypeIs (.ref sa) "set" /\ ∀ b, Value.ref sa = .ref b -> ∃ ob, s.heap.get? b = some ob /\ ob.dict = Option.none := by
  (refine x43 hS ?_; clear hS; intro o es ep t h1 h2 _)
  exact ⟨⟨o, h1, h2.1⟩, fun b hb => by cases hb; exact ⟨o, h1, h2.2.1⟩⟩
 refine O.load F hxd ⟨hT.1, hT.2, (Callee.builtin (c := c) "set.add").wp (first := [.ref sa]) (by simp [hp]) ?_⟩
 refine wI (wM (he.run A env V0 h0 Cs X s hA F) (fun v s2 q₂ => wN ?_) fun _ _ q => q.elim) (starEach_cons hp)
 obtain ⟨g, r⟩ := q₂
 obtain ⟨t, rfl⟩ := r.inv
 have F₂ := F.gr g
 have O2 := O.gr g
 have hS₂ := O2.p.2
 refine ⟨F₂.base.trans F₂.keep, ?_⟩
 refine wT (Nat.le_refl _) (call_set_add (knd := strKind c.prog c.w) (k := S y) (strKind_is _ _ _ _) rfl hS₂ (by show m + 1 < 4096; omega) fun h' hs' hS' ht => ?_)
 (refine x42 (id hS') ?_; intro o es ep tt h1 _)
 (refine x12 (O2.close (s' := { s2 with heap := h', toks := s2.toks + 1 }) F₂ (R' := SR c sa (fun k' => f k' || decide (k' = S y)) (if f (S y) then m else m + 1)) rfl (StpF.one (fr := []) (by exact .head _) hs' ⟨o, h1⟩ (Nat.le_succ _)) (fun b hb => nomatch hb) ⟨rfl, hS'⟩ (by simp)) ?_; intro X' t' F')
 exact ⟨X', _, .next, (Stp.of_gr g).trans t', F', .next, rfl, rfl⟩
theorem Tst.notInSet {x : String} {e : Expr} {y : List Nat} {sa : Addr} {f : Str -> Bool} {m : Nat} {xp pos : Pos} (hx : ρ.lookup x = some (.res (SR c sa f m))) (he : Ev c n sc true ρ e (sd y)) (hxd : x ≠ "__debug__" := by decide) (hm : behindInMarks .NotIn (.Name (oS x) xp) = false := by with_unfolding_all rfl) :
 Tst c n sc ρ (.Compare e [.NotIn] [.Name (oS x) xp] pos) (!f (S y)) := .mk fun A env V0 h0 Cs X s hA F => by
 refine wpAny_isTrue_Compare1 (wM (he.run A env V0 h0 Cs X s hA F) (fun u s₁ q₁ => ?_) fun _ _ q => q.elim) hm
 obtain ⟨g₁, r₁⟩ := q₁
 obtain ⟨t, rfl⟩ := r₁.inv
 (refine x21 ((F.gr g₁).opR hx) ?_; intro fp fps' O)
 refine O.load (F.gr g₁) hxd ?_
 exact wpAny_notInSet_of (knd := strKind c.prog c.w) (k := S y) (strKind_is _ _ _ _) rfl O.p.2 (wpAny_truthy_bool ⟨g₁.trans (Gr.toks (Nat.le_succ _)), rfl⟩)
end
end
section
structure WB (c : Cx) (K : Frag) (W : WA) : Prop where
 hn : c.hn
 XK : K.In c.base
 OK : ClsOk K 171
 flds : ∀ y ∈ initNames, findIn K (.ref 171) (oS y) = some none
 st : WSt 171 W c.base
structure Mth (K : Frag) (y : String) (f : Addr) : Prop where
 find : findIn K (.ref 171) (oS y) = some (some (.ref f))
 type : typeIn K (.ref f) = some (.type "function")
section
variable {c : Cx} {n : Nat} {sc : Scope} {k : Bool} {ρ ρ' : Sto} {P : AF -> Sto -> Prop} {K : Frag} {W : WA} {x y : String} {xp pos ap : Pos}
theorem fld_wp {s : Shared} {A : Around} {v : Value} (Y : WB c K W) (hk : Keeps c.base s.heap) (hy : y ∈ initNames) (hf : ∀ m, WF W.ba W.la W.da W.sa m -> m (oS y) = some v) (hh : handedIn v = true) :
 wpAny c.M A (getAttr (.ref W.wa) (oS y) true) (fun v' s' => v' = v /\ Gr s s') NoE s := by
 (refine x12 ((Y.st.keeps hk).inst) ?_; intro m I wf)
 exact get_field (Y.XK.keeps hk) Y.OK I (Y.flds y hy) (hf m wf) hh ⟨rfl, Gr.toks (Nat.le_succ _)⟩
theorem Ev.fld {v : Value} {d : D} (Y : WB c K W) (hx : ρ.lookup x = some (.val (.val (.ref W.wa)))) (hy : y ∈ initNames) (hf : ∀ m, WF W.ba W.la W.da W.sa m -> m (oS y) = some v) (hh : handedIn v = true) (hr : ∀ V s, Rep c V s d v) (hxd : x ≠ "__debug__" := by decide) :
 Ev c n sc k ρ (.Attribute (.Name (oS x) xp) (oS y) pos) d := .mk fun A env V0 h0 Cs X s hA F => by
 refine Attribute_name (wM ((Ev.name (k := true) hx hxd).run A env V0 h0 Cs X s hA F) (fun v s₁ q₁ => ?_) fun _ _ q => q)
 obtain ⟨g₁, r₁⟩ := q₁
 cases r₁.inv
 have F₁ := F.gr g₁
 refine wM (fld_wp Y (F₁.base.trans F₁.keep) hy hf hh) (fun v' s2 q₂ => ?_) fun _ _ q => q
 obtain ⟨rfl, g₂⟩ := q₂
 exact ⟨g₁.trans g₂, hr _ _⟩
theorem meth_wp {s : Shared} {A : Around} {f : Addr} {pl : Sem Bool} (Y : WB c K W) (M : Mth K y f) (hk : Keeps c.base s.heap) (hy : y ∈ wMethods) :
 wpAny c.M A (getMethod (.ref W.wa) (oS y) pl) (fun r s' => r = (.ref f, [.ref W.wa]) /\ s' = s) NoE s := by
 (refine x12 ((Y.st.keeps hk).inst) ?_; intro m I wf)
 exact get_meth (Y.XK.keeps hk) Y.OK I M.find M.type (wf.meths y hy) ⟨rfl, rfl⟩
theorem EvGen.of {gb : List Stmt} {f : Addr} {gsc : Scope} {cp : Pos} (Y : WB c K W) (M : Mth K "_iter_namespaces" f) (hd : GenOk c f gsc gb) (hcal : Callee c (.ref f)) (hx : ρ.lookup x = some (.val (.val (.ref W.wa)))) (hline : (ap.endLine == cp.line) = true) (hxd : x ≠ "__debug__" := by decide) {xp2 : Pos} :
 EvGen c (n + 1) sc ρ (.Call (.Attribute (.Name (oS x) xp) (oS "_iter_namespaces") ap) [.Attribute (.Name (oS x) xp2) (oS "_declared_ns_stack") pos] [] cp) gb W.da := .mk fun A env V0 h0 Cs X s hA F => by
 refine Call_meth rfl rfl rfl hline (wM ((Ev.name (k := true) hx hxd).run A env V0 h0 Cs X s hA F) (fun ov s₁ q₁ => ?_) fun _ _ q => q)
 obtain ⟨g₁, r₁⟩ := q₁
 cases r₁.inv
 have F₁ := F.gr g₁
 intro pl
 refine wM (meth_wp Y M (F₁.base.trans F₁.keep) (by decide)) (fun r s2 q₂ => ?_) fun _ _ q => q
 obtain ⟨rfl, rfl⟩ := q₂
 refine hcal.wp (first := [.ref W.wa]) rfl (wI (wM ((Ev.fld (n := n + 1) (sc := sc) (k := true) (d := .val (.ref W.da)) (v := .ref W.da) Y hx (by decide) (fun m wf => wf.decl) rfl (fun _ _ => .val _) hxd).run A env V0 h0 Cs X s2 hA F₁) (fun v s₃ q₃ => wN ?_) fun _ _ q => q) (starEach_cons rfl))
 obtain ⟨g₃, r₃⟩ := q₃
 cases r₃.inv
 have F₃ := F₁.gr g₃
 exact ⟨F₃.base.trans F₃.keep, wM (gen_call hd hA (F₃.st true)) (fun v s4 q => ⟨s₃, g₁.trans g₃, q⟩) fun _ _ q => q⟩
end
end
section
section
variable {c : Cx} {n : Nat} {sc : Scope} {k : Bool} {ρ ρ' : Sto} {P : AF -> Sto -> Prop} {K : Frag} {W : WA}
theorem TruR.text {l : List Nat} (hz : l.length <= 16777216) : TruR c (sd l) (decide (l ≠ [])) := fun A V s v _ _ r => by
 obtain ⟨t, rfl⟩ := r.inv
 refine wp_end (PySem.P.truthy_str (by rw [S_length]; omega) ⟨fun _ _ e => e, rfl, rfl, fun _ => ?_⟩)
 rw [S_length]
 cases l with
 | nil => rfl
 | cons a l => simp; omega
structure FnC (c : Cx) (n : Nat) (f : Value) (ds : List D) (d : D) : Prop where
 run : ∀ A V s vs, Room c n A -> St c V s -> RepL c V s ds vs ->
  codeAny c.M A (.call f ⟨vs, []⟩) (fun r s' => match r with | .ok (.ret v) => s.toks <= s'.toks -> Gr s s' /\ Rep c V s' d v | .ok _ => False | .error e => s.toks <= s'.toks -> False) s
theorem FnC.ofB {a : Addr} {ps : List String} {body : List Stmt} {ds : List D} {d : D} (hd : ∀ vs : List Value, vs.length = ds.length -> IsDefB c a sc ps body ⟨vs, []⟩ (vs ++ [.none])) (hnl : ¬ c.lsc sc) (hl : ps.length = (ds ++ [D.none]).length)
 (h : Tr c n sc (stoOf ps (ds ++ [.none])) body fun af _ => af = .ret d) : FnC c (n + 1) (.ref a) ds d := .mk fun A V s vs hA hS r => by
 have r' : RepL c V s (ds ++ [.none]) (vs ++ [.none]) := r.append (.cons .none .nil)
 exact fn_enterB (Q := fun v s' => Gr s s' /\ Rep c V s' d v) (E := fun _ _ => False) (hd vs r.length.symm) hl hA hS r' fun env X s₁ hf hnl' g F hO hX =>
  wM (h.run (A.deeper env) env V _ env.cells X s₁ (hA.deeper env) ⟨hO, fun q => absurd q hnl⟩ F) (fun f s' q ht => q.out g ht fun _ _ p => .inl p) fun _ _ q => q.elim
theorem qname_fn {na f : Addr} {gsc : Scope} {p1 p2 p3 p4 p5 p6 p7 p8 p9 p10 : Pos} {z : List Nat} (Y : WB c K W) (GL : GLists c.base W.da W.l0 na (.ref W.ta)) (M : Mth K "_iter_namespaces" f) (hd : GenOk c f gsc (gAll p1 p2 p3 p4 p5 p6 p7 p8 p9 p10)) (hcal : Callee c (.ref f))
 (hq : ∀ vs : List Value, vs.length = 2 -> IsDefB c 111 (msc 3) ["self", "qname", "uri"] (mbd 3) ⟨vs, []⟩ (vs ++ [.none])) (hnl : ¬ c.lsc (msc 3)) (hset : c.mg (oS "set") = Option.none /\ c.mb (oS "set") = some (.type "set")) (hz : z = cs "a" \/ z = cs "k") :
 FnC c (n + 2) (.ref 111) [.val (.ref W.wa), sd z] (.tuple [sd z, sd z, sd []]) := by
 have hn := Y.hn
 have he : CmpR c .Eq (sd z) (sd (cs "{")) false := by
  have := CmpR.eqS (c := c) (a := z) (b := cs "{")
  rwa [show decide (z = cs "{") = false from by rcases hz with rfl | rfl <;> decide] at this
 have hx : CmpR c .Eq (sd xmlU) (sd []) false := CmpR.eqS (c := c) (a := xmlU) (b := [])
 refine .ofB hq hnl rfl ?_
 refine Tr.step (ρ2 := setS (setS [("self", .val (.val (.ref W.wa))), ("qname", .val (sd z)), ("uri", .val .none)] "uri" (.val (sd []))) "tag" (.val (sd z))) (.ite (b := true) (.cmp (.name rfl) .none (.isN (.inl ⟨rfl, rfl⟩))) (fun _ => .last (Sx.mono (.assignT (d := .tuple [sd [], sd z]) (.ite (x := false) (.cmp (.first1 (.name rfl) (m := z) (by rcases hz with rfl | rfl <;> first | exact slice_a | exact slice_k)) .lit he) (fun q => nomatch q) fun _ => .tuple (.cons .lit (.cons (.name rfl) .nil)) (by rw [sizeLine_eq]; simp)) (.tuple (.cons rfl (.name (.inl rfl)) (.cons rfl (.name (.inl rfl)) .nil)))) fun _ _ q => q)) fun q => nomatch q) ?_
 refine .stepX (.setNew hset (.inl rfl)) ?_
 rintro _ ⟨sa, rfl⟩
 refine .stepX (Q := fun ρ' => ∃ f m, SubS [("tag", .val (sd z)), ("uri", .val (sd [])), ("self", .val (.val (.ref W.wa))), ("prefixes_seen", .res (SR c sa f m))] ρ' /\ f (S []) = false) (Sx.forGen (p1 := p1) (p2 := p2) (p3 := p3) (p4 := p4) (p5 := p5) (p6 := p6) (p7 := p7) (p8 := p8) (p9 := p9) (p10 := p10) (EvGen.of (n := n) Y M hd hcal rfl rfl) GL (.tupleAt (ds := [sd xmlU, sd (cs "xml")]) Y.st.ta (fun V s => .cons (.str _ _) (.cons (.str _ _) .nil)) (.cons rfl (.name (.inl rfl)) (.cons rfl (.name (.inl rfl)) .nil))) ?_) ?_
 · refine .step (.ite (b := false) (.boolop (.and (a := false) (b := false) (.cmp (.name rfl) (.name rfl) hx) fun q => nomatch q)) (fun q => nomatch q) fun _ => .nil ⟨rfl, rfl⟩) ?_
   refine .last (Sx.mono (.setAdd rfl (.name rfl) (by decide)) ?_)
   rintro af _ ⟨rfl, rfl⟩
   exact ⟨rfl, rfl, _, _, .cons rfl (.cons rfl (.cons rfl (.cons rfl .nil))), by decide⟩
 rintro ρ' ⟨f', m', hs, hf⟩
 refine .ent (Ent.sub hs) ?_
 refine .step (.ite (b := false) (.val (.fld (d := .bool false) (v := .bool false) Y rfl (by decide) (fun m wf => wf.rw) rfl fun _ _ => .bool _) TruR.bool) (fun q => nomatch q) fun _ => .nil ⟨rfl, rfl⟩) ?_
 refine .cons (P1 := fun af _ => af = .ret (.tuple [sd z, sd z, sd []])) (.ite (b := true) (.boolop (.and (a := true) (b := true) (.not (b := false) (.val (.name rfl) (TruR.text (l := []) (by decide)))) fun _ => .and (a := true) (b := true) (.to (Tst.notInSet (y := []) rfl (.lit (x := ""))) (by rw [hf]; rfl)) fun _ => .nilAnd)) (fun _ => .last (.ret (.tuple (.cons (.name rfl) (.cons (.name rfl) (.cons (.name rfl) .nil))) (by rw [sizeLine_eq]; simp)) rfl)) fun q => nomatch q) (fun _ q => nomatch q) fun _ _ _ q => q
end
end
section
section
variable {c : Cx} {n : Nat} {sc : Scope} {k : Bool} {ρ ρ' : Sto} {P P' : AF -> Sto -> Prop} {env : Env} {V0 : Addr -> Prop} {h0 : Heap} {Cs : List (Str × Addr)} {X : List Addr} {s s₁ : Shared} {A : Around}
theorem Fm.opnO {x : String} {q : Option Addr} {sl : List Slot} (F : Fm c sc env V0 h0 Cs X ρ s) (h : ρ.lookup x = some (.ownO q sl)) : ∃ a fpi fps', Opn c env V0 Cs X ρ x sl a fpi fps' s /\ ∀ b, q = some b -> b = a := by
 obtain ⟨m, fps, h1, h2, h3, h4, h6, h5⟩ := F.sto
 (refine x44 (h5.take h) ?_; intro v fp fps' rest l rx r hp)
 obtain ⟨a, o, vs, nn, fpi, rfl, rfl, hq, ho, hcl, hd, hdt, rs⟩ := rx.inv
 have hx1 : (env.locals :: (Cs.map (·.2) ++ fps)).Nodup := h2 ▸ h3
 have hpm : (rest ++ (env.locals :: (Cs.map (·.2) ++ ((a :: fpi) ++ fps')))).Perm (env.locals :: (Cs.map (·.2) ++ fps)) := by
  refine List.perm_middle.trans (List.Perm.cons _ ?_)
  exact (List.perm_append_comm_assoc rest _ _).trans (hp.append_left _)
 refine ⟨a, fpi, fps', ⟨⟨m, h1, l, r⟩, ⟨vs, nn, ?_, rs⟩, (List.nodup_append.mp (hpm.nodup_iff.mpr hx1)).2.1, fun b hb => h2 ▸ hpm.subset (mR _ hb)⟩, hq⟩
 erw [<- obj_eq hcl hd hdt]; exact ho
theorem Opn.nd2 {x : String} {sl : List Slot} {a : Addr} {fpi fps' : List Addr} (O : Opn c env V0 Cs X ρ x sl a fpi fps' s) : (a :: fpi).Nodup :=
 (List.nodup_append.mp (List.nodup_append.mp (List.nodup_cons.mp O.nd).2).2.1).1
theorem Opn.closeG {x : String} {q : Option Addr} {sl sl' : List Slot} {a b : Addr} {fpi fpi' fps' : List Addr} {h' : Heap} {vs' : Array Value} {n' tk : Nat} (F : Fm c sc env V0 h0 Cs X ρ s) (O : Opn c env V0 Cs X ρ x sl a fpi fps' s) (hq : ∀ b, q = some b -> b = a) (g : Gr s s₁)
 (hb : b ∈ a :: fpi) (hbo : ∃ ob xs nn, s.heap.get? b = some ob /\ ob.data = .seq xs nn) (hbn : ∃ o', h'.get? b = some o') (hs : Heap.SameBut b s₁.heap h') (htk : s₁.toks <= tk)
 (ho : h'.get? a = some { cls := .type "list", data := .seq vs' n' }) (hf : ∀ y ∈ fpi', y ∈ fpi \/ s.heap.get? y = none) (hfn : fpi'.Nodup)
 (hr : RepSL c (Vol V0 (X ++ fpi')) { s₁ with heap := h', toks := tk } sl' vs'.toList fpi') :
 Stp X s (env.locals :: (Cs.map (·.2) ++ ((a :: fpi') ++ fps'))) { s₁ with heap := h', toks := tk } /\
  Fm c sc env V0 h0 Cs (env.locals :: (Cs.map (·.2) ++ ((a :: fpi') ++ fps'))) (setS ρ x (.ownO q sl')) { s₁ with heap := h', toks := tk } := by
 (refine x13 O.ns ?_; intro m h1 h2 h3)
 (refine x32 hbo ?_; clear hbo; intro ob xs nn hob hdb)
 have hob1 := g.keep _ _ hob
 have hbX : b ∈ X := O.sub b (.tail _ (mR _ (mL _ hb)))
 have hnd := List.nodup_cons.mp O.nd
 have hnd2 := List.nodup_append.mp hnd.2
 have hndp := List.nodup_append.mp hnd2.2.1
 have haL : env.locals ≠ b := fun q => hnd.1 (q ▸ mR _ (mL _ hb))
 have haC : ∀ p ∈ Cs, p.2 ≠ b := fun p hp q => hnd2.2.2 _ (List.mem_map_of_mem hp) b (mL _ hb) q
 obtain ⟨_, _, _, _, _, hlv, hcl, _⟩ := F.sto
 have halv : ∀ y ∈ X, ∃ o, s.heap.get? y = some o := hlv
 have hsub : ∀ y ∈ env.locals :: (Cs.map (·.2) ++ ((a :: fpi') ++ fps')), y ∈ X \/ (y ∈ fpi' /\ s.heap.get? y = none) := fun y hy => by
  rcases mC.mp hy with e | hy
  · exact .inl (O.sub y (e ▸ .head _))
  · rcases mA.mp hy with hy | hy
    · exact .inl (O.sub y (.tail _ (mL _ hy)))
    · rcases mA.mp hy with hy | hy
      · rcases mC.mp hy with e | hy
        · exact .inl (e ▸ O.aX)
        · rcases hf y hy with e | e
          · exact .inl (O.sub y (.tail _ (mR _ (mL _ (.tail _ e)))))
          · exact .inr ⟨hy, e⟩
      · exact .inl (O.sub y (.tail _ (mR _ (mR _ hy))))
 have hXf : ∀ y, y ∈ X -> (∃ o, s.heap.get? y = some o) := halv
 -- what is told apart from the new places
 have hoff : ∀ y ∈ fpi', ∀ z ∈ X, (z = y -> z ∈ fpi) := fun y hy z hz e => by
  rcases hf y hy with e' | e'
  · exact e ▸ e'
  · obtain ⟨o, e2⟩ := halv z hz; rw [e, e'] at e2; cases e2
 have hndn : (env.locals :: (Cs.map (·.2) ++ ((a :: fpi') ++ fps'))).Nodup := by
  have LX : env.locals ∈ X := O.sub _ (.head _)
  refine List.nodup_cons.mpr ⟨fun e => ?_, List.nodup_append.mpr ⟨hnd2.1, List.nodup_append.mpr ⟨List.nodup_cons.mpr ⟨fun e => ?_, hfn⟩, hndp.2.1, fun y hy z hz e => ?_⟩, fun y hy z hz e => ?_⟩⟩
  · rcases mA.mp e with e | e
    · exact hnd.1 (mL _ e)
    · rcases mA.mp e with e | e
      · rcases mC.mp e with e | e
        · exact hnd.1 (e ▸ mR _ (mL _ (.head _)))
        · exact hnd.1 (mR _ (mL _ (.tail _ (hoff _ e _ LX rfl))))
      · exact hnd.1 (mR _ (mR _ e))
  · exact (List.nodup_cons.mp hndp.1).1 (hoff _ e _ O.aX rfl)
  · have zX : z ∈ X := O.sub z (.tail _ (mR _ (mR _ hz)))
    rcases mC.mp hy with e' | e'
    · exact hndp.2.2 _ (.head _) z hz (e' ▸ e)
    · exact hndp.2.2 z (.tail _ (hoff y e' z zX e.symm)) z hz rfl
  · have yX : y ∈ X := O.sub y (.tail _ (mL _ hy))
    rcases mA.mp hz with hz | hz
    · rcases mC.mp hz with e' | e'
      · exact hnd2.2.2 y hy _ (mL _ (.head _)) (e' ▸ e)
      · exact hnd2.2.2 y hy y (mL _ (.tail _ (hoff z e' y yX e))) rfl
    · exact hnd2.2.2 y hy z (mR _ hz) e
 have hcm : Calm (Vol V0 (X ++ fpi')) s₁ { s₁ with heap := h', toks := tk } := calm_at hs (.inr (mL _ hbX)) htk
 have hv : ∀ b, Vol V0 (env.locals :: (Cs.map (·.2) ++ ((a :: fpi') ++ fps'))) b -> Vol V0 (X ++ fpi') b := fun y e => e.imp id fun e => by
  rcases hsub y e with e | e
  · exact mL _ e
  · exact mR _ e.1
 have ha0 : ∀ d o, h0.get? d = some o -> d ≠ b := fun d o e q => by rw [q, F.new _ hbX] at e; cases e
 have haf : b ∉ fps' := fun q => hndp.2.2 b hb b q rfl
 have halive : ∀ d o, s.heap.get? d = some o -> ∃ o', h'.get? d = some o' := fun d o e => by
  by_cases q : d = b
  · exact q ▸ hbn
  · exact ⟨o, (hs.2 d q).trans (g.keep _ _ e)⟩
 have hralive := hr.alive
 refine ⟨⟨fun d o hd e => (hs.2 d fun q => hd (q ▸ hbX)).trans (g.keep _ _ e), Nat.le_trans g.tok htk, g.gens, g.os, fun d hd => (hsub d hd).imp id (·.2), fun d _ o e => halive d o e⟩,
  ⟨F.good, F.scope, F.kind, F.globals, F.builtins, F.base, fun d o e => (hs.2 d (ha0 d o e)).trans (g.keep _ _ (F.keep d o e)), fun e => F.tok (Nat.le_zero.mp (e ▸ Nat.le_trans g.tok htk)), (fun d q => ?_), F.ccells, fun d hd => ?_, F.cells, F.cinj,
   ⟨m, _, (h1.keeps g.keep).sameBut hs haL, rfl, hndn, fun d hd => ?_, fun p hp => ?_, .cons (v := .ref a) ?_ (.ownO hq ho rfl ⟨rfl, rfl⟩ rfl (hr.calm (Gr.calm (.refl _) _) hv fun _ _ _ e => e)) ?_⟩⟩⟩
 · obtain ⟨⟨o, e⟩, hx⟩ := F.live0 d q
   exact ⟨halive d o e, fun q' => (hsub d q').elim hx fun q'' => by rw [q''.2] at e; cases e⟩
 · rcases hsub d hd with e | e
   · exact F.new d e
   · cases e' : h0.get? d with
     | none => rfl
     | some o => have := F.keep _ _ e'; rw [e.2] at this; cases this
 · rcases hsub d hd with e | e
   · obtain ⟨o, e⟩ := hlv d e; exact halive d o e
   · exact hralive d e.1
 · obtain ⟨v₀, q⟩ := hcl p hp; exact ⟨v₀, (q.keeps g.keep).sameBut hs (haC p hp)⟩
 · refine (h2.calm (s' := s₁) (fun _ => rfl) fun d o w _ e _ => g.keep _ _ e).calm (fun _ => rfl) fun d o w _ e hw => (hs.2 d fun q => ?_).trans e
   rw [q, hob1] at e; cases e; rw [hdb] at hw; cases hw
 · have h3' : StoR c env (Vol V0 (X ++ fpi')) s₁ m (delS x ρ) fps' := ((h3.ext (W := fun y => y ∈ fpi' /\ s.heap.get? y = none) fun y q => q.2).gr g).weak fun y q => by
    rcases q with q | q
    · exact .inl (.inl q)
    · rcases mA.mp q with q | q
      · exact .inl (.inr q)
      · rcases hf y q with e | e
        · exact .inl (.inr (O.sub y (.tail _ (mR _ (mL _ (.tail _ e))))))
        · exact .inr ⟨q, e⟩
   refine StoR.weak hv (h3'.change hcm (fun d hd o e => (hs.2 d fun q => haf (q ▸ hd)).trans e) (fun _ _ _ => rfl) fun p hp d o w _ e hw => (hs.2 d fun q => ?_).trans e)
   rw [q, hob1] at e; cases e; rw [hdb] at hw; cases hw
end
end
section
section
variable {c : Cx} {n : Nat} {sc : Scope} {k : Bool} {ρ ρ' : Sto} {P P' : AF -> Sto -> Prop} {env : Env} {V0 : Addr -> Prop} {h0 : Heap} {Cs : List (Str × Addr)} {X : List Addr} {s s₁ : Shared} {A : Around}
theorem RepSL.snocS {V : Addr -> Prop} {s : Shared} {d : Slot} {v : Value} {fp' : List Addr} (rv : RepS c V s d v fp') {sl : List Slot} : ∀ {vs fp}, RepSL c V s sl vs fp -> RepSL c V s (sl ++ [d]) (vs ++ [v]) (fp ++ fp') := by
 induction sl with
 | nil =>
  intro vs fp r
  obtain ⟨rfl, rfl⟩ := r.inv
  have := RepSL.cons rv (.nil (c := c) (V := V) (s := s))
  rwa [List.append_nil] at this
 | cons x sl ih =>
  intro vs fp r
  obtain ⟨_, _, _, _, rfl, rfl, r1, rs⟩ := r.inv
  have := RepSL.cons r1 (ih rs)
  rw [<- aA] at this; exact this
theorem Sx.appendG {x : String} {q : Option Addr} {e : Expr} {p ap pos epos : Pos} {sl : List Slot} {d : Slot} (hx : ρ.lookup x = some (.ownO q sl)) (h : EvS c n sc ρ e d) (hz : sl.length <= 16777216) (hp : plainE e = true := by rfl) (hline : (ap.endLine == pos.line) = true := by rfl) (hxd : x ≠ "__debug__" := by decide)
 (hbase : ∀ env : Env, attributeBase (.Name (oS x) p) (oS "append") env (eval (.Name (oS x) p) env) = eval (.Name (oS x) p) env := by intro _; rfl)
 (hs : ∀ env : Env, swapsWith (.Call (.Attribute (.Name (oS x) p) (oS "append") ap) [e] [] pos) none epos.line env = pure false := by intro _; rfl) :
 Sn c n sc ρ (.Expr (.Call (.Attribute (.Name (oS x) p) (oS "append") ap) [e] [] pos) epos) (setS ρ x (.ownO q (sl ++ [d]))) := .mk fun A env V0 h0 Cs X s hA hO F => by
 refine hideG fun G KG => ?_
 (refine x32 (F.opnO hx) ?_; intro a fpi fps' O hq)
 have hi : interactive env = false := by
  unfold interactive
  erw [F.scope, F.kind]; rfl
 refine KG ?_
 refine wpAny_Expr ?_ hi (hs env)
 refine wpAny_Call_method (T := "list") (id := "list.append") (hbase env) ?_ hline PySem.F.plainAttrs_list PySem.F.slot_list_append PySem.F.type_list_append ?_
 · erw [starEach_cons hp]; rfl
 refine O.load F hxd ?_
 refine hideG fun G KG => ?_
 (refine x22 O.lst ?_; intro vs nn h4 h5)
 refine KG ?_
 refine ⟨⟨_, h4, rfl⟩, fun b hb => by cases hb; exact ⟨_, h4, rfl⟩, (Callee.builtin (c := c) "list.append").wp (first := [.ref a]) (by simp [hp]) ?_⟩
 refine wI (wM (h.run A env V0 h0 Cs X s hA F) (fun v s₁ q₁ => wN ⟨(F.gr q₁.1).base.trans (F.gr q₁.1).keep, ?_⟩) fun _ _ q => q.elim) (starEach_cons hp)
 refine hideG fun G KG => ?_
 (refine x02 q₁ ?_; clear q₁; intro g r9; refine x13 r9 ?_; clear r9; intro fp rv hfn hf)
 have hl := h5.length
 refine KG ?_
 refine append_wp (g.keep _ _ h4) rfl ⟨rfl, rfl⟩ rfl (fun h' o' n' e1 e2 e3 e4 e5 => ?_) (by simp at hl; omega)
 have haf : a ∉ fpi /\ fpi.Nodup := List.nodup_cons.mp O.nd2
 have hold : ∀ y ∈ fpi, y ∈ X := fun y hy => O.sub y (.tail _ (mR _ (mL _ (.tail _ hy))))
 have hafp : a ∉ fp := fun e => by rw [hf a e] at h4; cases h4
 have hfx : ∀ y ∈ fpi, y ∉ fp := fun y hy e => by
  obtain ⟨o, e2⟩ := h5.alive y hy
  rw [hf y e] at e2; cases e2
 have hcm : Calm (Vol V0 (X ++ fp)) s₁ { s₁ with heap := h' } := calm_at (tk := s₁.toks) e5 (.inr (mL _ O.aX)) (Nat.le_refl _)
 have h5' : RepSL c (Vol V0 (X ++ fp)) s₁ sl vs.toList fpi := ((h5.ext (W := fun y => y ∈ fp) hf).gr g).calm (Gr.calm (.refl _) _) (fun y e => by
  rcases e with e | e
  · exact .inl (.inl e)
  · rcases mA.mp e with e | e
    · exact .inl (.inr e)
    · exact .inr e) fun _ _ _ e => e
 obtain ⟨t, F'⟩ := O.closeG F hq g (sl' := sl ++ [d]) (vs' := vs.push v) (n' := n') (fpi' := fpi ++ fp) (tk := s₁.toks) (h' := h') (.head _) ⟨_, _, _, h4, rfl⟩ ⟨_, e1⟩ e5 (Nat.le_refl _) (by erw [<- obj_eq e2 e3 e4]; exact e1)
  (fun y hy => (mA.mp hy).imp id (hf y)) (List.nodup_append.mpr ⟨haf.2, hfn, fun y hy z hz e => hfx y hy (e ▸ hz)⟩) (by
  erw [Array.toList_push]
  have hvv : ∀ y, Vol V0 (X ++ (fpi ++ fp)) y -> Vol V0 (X ++ fp) y := fun y e => e.imp id fun e => by
   rcases mA.mp e with e | e
   · exact mL _ e
   · exact (mA.mp e).elim (fun e => mL _ (hold y e)) fun e => mR _ e
  exact (RepSL.snocS rv h5').calm hcm hvv fun b hb o e => (e5.2 b fun q => by
   rcases mA.mp hb with hb | hb
   · exact haf.1 (q ▸ hb)
   · exact hafp (q ▸ hb)).trans e)
 exact ⟨_, _, .next, t, F', .next, rfl, rfl⟩
theorem Fm.addL {s s' : Shared} (fp : List Addr) (F : Fm c sc env V0 h0 Cs X ρ s) (hn : ∀ a ∈ fp, s.heap.get? a = none) (g : Gr s s') (hl : ∀ a ∈ fp, ∃ o, s'.heap.get? a = some o) : Fm c sc env (fun b => V0 b \/ b ∈ fp) h0 Cs X ρ s' := by
 have F' := F.gr g
 refine ⟨F'.good, F'.scope, F'.kind, F'.globals, F'.builtins, F'.base, F'.keep, F'.tok, fun b q => ?_, F'.ccells, F'.new, F'.cells, F'.cinj, ?_⟩
 · rcases q with q | hb
   · exact F'.live0 b q
   · refine ⟨hl b hb, fun q => ?_⟩
     obtain ⟨_, _, _, _, _, h4, _, _⟩ := F.sto
     obtain ⟨o, e⟩ := h4 _ q
     rw [hn b hb] at e; cases e
 · obtain ⟨m, fps, h1, h2, h3, h4, h6, h5⟩ := F.sto
   obtain ⟨_, _, _, _, _, h4', h6', _⟩ := F'.sto
   exact ⟨m, fps, h1.keeps g.keep, h2, h3, h4', h6', ((h5.ext (W := fun b => b ∈ fp) hn).gr g).weak fun b q => by
    rcases q with (q | q) | q
    · exact .inl (.inl q)
    · exact .inr q
    · exact .inl (.inr q)⟩
structure EvSL (c : Cx) (n : Nat) (sc : Scope) (ρ : Sto) (es : List Expr) (sls : List Slot) : Prop where
 run : ∀ A env V0 h0 Cs X s pos, Room c n A -> Fm c sc env V0 h0 Cs X ρ s ->
  wpAny c.M A (spliced (backTo pos (starEach es env))) (fun vs s' => Gr s s' /\ ∃ fp, RepSL c (Vol V0 (X ++ fp)) s' sls vs fp /\ fp.Nodup /\ ∀ a ∈ fp, s.heap.get? a = none) NoE s
theorem EvSL.nil : EvSL c n sc ρ [] [] := .mk fun A env V0 h0 Cs X s pos hA F => wN ⟨.refl s, [], .nil, .nil, fun _ q => nomatch q⟩
theorem EvS.lst {es : List Expr} {pos : Pos} {sls : List Slot} (h : EvSL c n sc ρ es sls) (hsz : sls.length <= sizeLine) : EvS c n sc ρ (.List es pos) (.own sls) := .mk fun A env V0 h0 Cs X s hA F =>
 wpAny_List (wM (h.run A env V0 h0 Cs X s pos hA F) (fun vs s₁ q => by
  (refine x02 q ?_; clear q; intro g r9; refine x13 r9 ?_; clear r9; intro fp r hfn hf)
  have hnew := get_size s₁.heap
  have hal := r.alive
  have hnfp : s₁.heap.objs.size ∉ fp := fun e => by obtain ⟨o, e2⟩ := hal _ e; rw [hnew] at e2; cases e2
  refine ⟨r.length ▸ hsz, g.trans (.push _), s₁.heap.objs.size :: fp, .own (Heap.get?_push_size _ rfl) rfl ⟨rfl, rfl⟩ rfl ?_, List.nodup_cons.mpr ⟨hnfp, hfn⟩, fun y hy => ?_⟩
  · have r2 := (r.ext (W := fun y => y = s₁.heap.objs.size) fun y e => e ▸ hnew)
    refine r2.calm ((Gr.push _).calm _) (fun y q => ?_) fun b _ o e => Heap.get?_push_of_some _ e
    rcases q with q | q
    · exact .inl (.inl q)
    · rcases mA.mp q with q | q
      · exact .inl (.inr (mL _ q))
      · rcases mC.mp q with q | q
        · exact .inr q
        · exact .inl (.inr (mR _ q))
  · rcases mC.mp hy with q | q
    · rw [q]
      cases e : s.heap.get? s₁.heap.objs.size with
      | none => rfl
      | some o => have := g.keep _ _ e; rw [hnew] at this; cases this
    · exact hf y q) fun _ _ q => q)
end
end
section
theorem get_none_of {s s' : Shared} {a : Addr} (g : Gr s s') (h : s'.heap.get? a = none) : s.heap.get? a = none := by
 cases e : s.heap.get? a with
 | none => rfl
 | some o => have := g.keep _ _ e; rw [h] at this; cases this
section
variable {c : Cx} {n : Nat} {sc : Scope} {k : Bool} {ρ : Sto}
noncomputable def AccD (c : Cx) (V : Addr -> Prop) (Dd : Addr) (kvs : List (List Nat × D)) (s : Shared) : Prop :=
 ∃ kvv : List (Str × Value), s.heap.DictOf (strKind c.prog c.w) Dd kvv /\ kvv.map (·.1) = kvs.map (fun p => S p.1) /\ RepL c V s (kvs.map (·.2)) (kvv.map (·.2))
theorem AccD.calm {V : Addr -> Prop} {Dd : Addr} {kvs : List (List Nat × D)} {s s' : Shared} (h : AccD c V Dd kvs s) (hc : Calm V s s') (hk : ∀ o, s.heap.get? Dd = some o -> s'.heap.get? Dd = some o) : AccD c V Dd kvs s' := by
 (refine x13 h ?_; clear h; intro kvv h1 h2 h3)
 exact ⟨kvv, h1.at hk, h2, h3.calm hc fun _ q => q⟩
theorem stored_new {kvv : List (Str × Value)} {x : Str} {v : Value} (h : x ∉ kvv.map (·.1)) : stored kvv x v = kvv ++ [(x, v)] := by
 unfold stored
 rw [if_neg]
 intro q
 (refine x12 (List.any_eq_true.mp q) ?_; intro p hp e)
 exact h (List.mem_map.mpr ⟨p, hp, by simpa using e⟩)
theorem code_compD {A : Around} {s : Shared} {R : Result -> Shared -> Prop} {kx vx target iter : Expr} {scope : Scope} {pos : Pos} {it : Value} {Dd : Addr} {env : Env} (I : Nat -> Shared -> Prop)
 (turn : ∀ n s, I n s -> wpAny c.M A (pyNext it) (fun r s₁ => match r with
  | none => R (.ok .next) s₁
  | some v => wpAny c.M A (letOwnedTupleGo target it v) (fun _ s1' => wpAny c.M A (assign target env v) (fun _ s2 =>
   wpAny c.M A (eval kx env) (fun kv s4 => wpAny c.M A (eval vx env) (fun vv s5 => wpAny c.M A (dictSet Dd kv vv) (fun _ s6 => ∃ m, m < n /\ I m s6) NoE s5) NoE s4) NoE s2) NoE s1') NoE s₁) NoE s)
 (n : Nat) (h : I n s) : codeAny c.M A (.compLoop (.DictComp kx vx [⟨target, iter, [], 0⟩] scope pos) 0 it (.ref Dd) env) R s := by
 refine codeAny_loop rfl I (fun n s hI => ?_) n h
 show wpAny _ A ((compTurn (.DictComp kx vx [⟨target, iter, [], 0⟩] scope pos) 0 it (.ref Dd) env).onRaise (fun x => do noteFrame x env; theTreesLotGoes x)) _ _ s
 refine wpAny_noted ?_
 rw [compTurn_dict]
 refine wB (wZ (wB (wM (turn n s hI) (fun r s₁ h₁ => ?_) fun _ _ h' => h'.elim)))
 cases r with
 | none => exact wP h₁
 | some v =>
  refine wB (wM h₁ (fun _ s1' h₁' => ?_) fun _ _ h' => h'.elim)
  refine wB (wM h₁' (fun _ s2 h₃ => wB (wP ?_)) fun _ _ h' => h'.elim)
  exact wB (wB (wM h₃ (fun kv s4 h₄ => wB (wH (wM h₄ (fun vv s5 h₅ => wB (wZ (wH (wM h₅ (fun _ s6 h₆ => wP ⟨rfl, h₆⟩) fun _ _ h' => h'.elim)))) fun _ _ h' => h'.elim))) fun _ _ h' => h'.elim))
structure DJ (c : Cx) (sc : Scope) (E : Env) (Vi : Addr -> Prop) (C Dd : Addr) (ρi : Sto) (s : Shared) (kvs : List (List Nat × D)) (s' : Shared) : Prop where
 gr : Gr s s'
 fm : Fm c sc E Vi s.heap [] [C] ρi s'
 acc : AccD c (Vol Vi [C]) Dd kvs s'
section
variable {sci : Scope} {E : Env} {Vi : Addr -> Prop} {C Dd it : Addr} {ρi ρ1 : Sto} {s s' s₃ s4 s5 : Shared} {xs : List (List Nat × D)} {rest : List D} {A : Around} {X4 : List Addr}
theorem DJ.step (J : DJ c sci E Vi C Dd ρi s xs s') (hi : ItAt c (Vol Vi [C]) s' it rest) (t : ItStep it s' s₃) (hits : s.heap.get? it = none) (hC : it ∉ [C]) (hD : it ≠ Dd) (hV : ¬ Vi it) : DJ c sci E Vi C Dd ρi s xs s₃ :=
 ⟨⟨fun b o e => t.keep b o (fun q => by rw [q, hits] at e; cases e) (J.gr.keep b o e), Nat.le_trans J.gr.tok t.tok, t.gens.trans J.gr.gens, t.os.trans J.gr.os⟩, J.fm.it hi hC hits hV t,
  J.acc.calm (t.calm hi _) fun o e => t.keep _ _ (Ne.symm hD) e⟩
theorem DJ.back (J : DJ c sci E Vi C Dd ρi s xs s₃) (hρ : ∀ p ∈ ρi, ∃ d, p.2 = .val d) (hCs : s.heap.get? C = none) (hDC : Dd ≠ C) (g₄ : Stp [C] s₃ X4 s4) (F4 : Fm c sci E Vi s.heap [] X4 ρ1 s4) (hsub : SubS ρi ρ1) (g5 : Gr s4 s5) : DJ c sci E Vi C Dd ρi s xs s5 /\ Stp [C] s₃ [C] s5 := by
 (refine x12 (Ent.sub (c := c) (sc := sci) hsub E Vi s.heap [] X4 s5 (F4.gr g5)) ?_; intro X5 hX5 F5)
 have hfps : X5 = [E.locals] := by
  obtain ⟨_, fps, _, h2, _, _, _, h5⟩ := F5.sto
  rw [h2, h5.vals hρ]; rfl
 have hE : [C] = [E.locals] := by
  obtain ⟨_, fps, _, h2, _, _, _, h5⟩ := J.fm.sto
  rw [h2, h5.vals hρ]; rfl
 rw [hfps, <- hE] at F5 hX5
 have g45 : Stp [C] s₃ [C] s5 := (g₄.trans (Stp.of_gr g5)).sub' hX5
 refine ⟨⟨⟨fun b o e => g45.keep b o (fun q => by rw [mSz.mp q, hCs] at e; cases e) (J.gr.keep b o e), Nat.le_trans J.gr.tok g45.tok, g45.gens.trans J.gr.gens, g45.os.trans J.gr.os⟩, F5, ?_⟩, g45⟩
 exact J.acc.calm ⟨g45.tok, fun b o nb e _ => g45.keep b o (fun q => nb (.inr q)) e⟩ fun o e => g45.keep _ _ (fun q => hDC (mSz.mp q)) e
theorem DJ.put {z : List Nat} {t : Tok} {y : Value} {r : D} {P : Shared -> Prop} (J : DJ c sci E Vi C Dd ρi s xs s') (hi : ItAt c (Vol Vi [C]) s' it rest) (hD : it ≠ Dd) (hDV : Vi Dd) (hDs : s.heap.get? Dd = none) (hz : xs.length <= 16777216) (hnew : z ∉ xs.map (·.1)) (ry : Rep c (Vol Vi [C]) s' r y)
 (hP : ∀ s5, DJ c sci E Vi C Dd ρi s (xs ++ [(z, r)]) s5 -> ItAt c (Vol Vi [C]) s5 it rest -> P s5) : wpAny c.M A (dictSet Dd (.str (S z) t) y) (fun _ s5 => P s5) NoE s' := by
 refine hideG fun G K => ?_
 (refine x13 J.acc ?_; intro kvv l1 l2 l3)
 have hkl : kvv.length = xs.length := by
  have := congrArg List.length l2
  simpa using this
 have hnew' : S z ∉ kvv.map (·.1) := by
  rw [l2]
  intro q
  (refine x12 (List.mem_map.mp q) ?_; intro p hp e2)
  exact hnew (List.mem_map.mpr ⟨p, hp, S_inj e2⟩)
 refine K (wpAny_dictSet_pairs (knd := strKind c.prog c.w) (k := S z) (strKind_is c.prog c.w _ t) l1 (fun h' hd' hs' => ?_) (by rw [sizeLine_eq]; omega))
 rw [stored_new hnew'] at hd'
 (refine x34 l1 ?_; clear l1; intro o es ep ho hx hdt hrest)
 have hcm : Calm (Vol Vi [C]) s' { s' with heap := h', toks := s'.toks + 1 } := ⟨Nat.le_add_right _ _, fun b ob nb e _ => (hs'.2 b fun q => nb (.inl (q ▸ hDV))).trans e⟩
 refine hP _ ⟨⟨fun b ob e => (hs'.2 b fun q => by rw [q, hDs] at e; cases e).trans (J.gr.keep b ob e), Nat.le_trans J.gr.tok (Nat.le_succ _), J.gr.gens, J.gr.os⟩, ?_, kvv ++ [(S z, y)], hd', ?_, ?_⟩ ?_
 · have F1 := J.fm.change hDV hDs hs' ⟨_, hd'.choose_spec.choose_spec.choose_spec.1⟩ (fun ob w e hw => by rw [ho] at e; cases e; rw [hdt] at hw; cases hw)
   exact F1.sameH rfl (Nat.le_succ _)
 · erw [List.map_append, l2, List.map_append]; rfl
 · have := (l3.append (.cons ry .nil)).calm hcm fun _ q => q
   erw [List.map_append, List.map_append]; exact this
 · exact hi.carry (fun o e => (hs'.2 _ hD).trans e) (fun l o nl e => ⟨nl, (hs'.2 l fun q => nl (.inl (q ▸ hDV))).trans e⟩) fun r => r.calm hcm fun _ q => q
noncomputable def DItem (c : Cx) (n : Nat) (sci : Scope) (ρi : Sto) (tgt kx vx : Expr) (z : List Nat) (r : D) : Prop :=
 ∃ ρ1, TgtG false c sci tgt (sd z) ρi ρ1 /\ SubS ρi ρ1 /\ Ev c n sci true ρ1 kx (sd z) /\ Ev c n sci true ρ1 vx r
inductive DIn (c : Cx) (sc : Scope) (E : Env) (Vi : Addr -> Prop) (C Dd it : Addr) (ρi : Sto) (s : Shared) (r : List Nat -> D) (zs : List (List Nat)) (k : Nat) (s' : Shared) : Prop
 | mk (done rest : List (List Nat)) (hds : zs = done ++ rest) (hk : k = rest.length) (J : DJ c sc E Vi C Dd ρi s (done.map fun z => (z, r z)) s') (hi : ItAt c (Vol Vi [C]) s' it (rest.map sd)) : DIn c sc E Vi C Dd it ρi s r zs k s'
theorem dj_turn {r : List Nat -> D} {zs : List (List Nat)} {tgt kx vx : Expr} {R : Result -> Shared -> Prop} (hA : Room c n A) (hn : c.hn) (hz : zs.length <= 16777216) (hnd : zs.Nodup) (item : ∀ z ∈ zs, DItem c n sci ρi tgt kx vx z (r z)) (hρ : ∀ p ∈ ρi, ∃ d, p.2 = .val d)
 (hits : s.heap.get? it = none) (hDs : s.heap.get? Dd = none) (hCs : s.heap.get? C = none) (hDC : Dd ≠ C) (hC : it ∉ [C]) (hD : it ≠ Dd) (hV : ¬ Vi it) (hDV : Vi Dd)
 (fin : ∀ s', DJ c sci E Vi C Dd ρi s (zs.map fun z => (z, r z)) s' -> R (.ok .next) s') {k : Nat} (I : DIn c sci E Vi C Dd it ρi s r zs k s') :
 wpAny c.M A (pyNext (.ref it)) (fun q s₁ => match q with
  | none => R (.ok .next) s₁
  | some v => wpAny c.M A (letOwnedTupleGo tgt (.ref it) v) (fun _ s1' => wpAny c.M A (assign tgt E v) (fun _ s2 =>
   wpAny c.M A (eval kx E) (fun kv s4 => wpAny c.M A (eval vx E) (fun vv s5 => wpAny c.M A (dictSet Dd kv vv) (fun _ s6 => ∃ m, m < k /\ DIn c sci E Vi C Dd it ρi s r zs m s6) NoE s5) NoE s4) NoE s2) NoE s1') NoE s₁) NoE s' := by
 refine hideG fun G K => ?_
 obtain ⟨done, rest, hds, hk, J, hi⟩ := I
 cases rest with
 | nil => exact K (wM (ItAt.stop (hA.handled hn) hi) (fun q s₃ q' => by
  erw [q'.1]; exact fin s₃ (by rw [hds, List.append_nil]; exact J.step hi q'.2 hits hC hD hV)) fun _ _ q => q)
 | cons z rest =>
  refine K (wM (ItAt.next hi) (fun q s₃ q' => ?_) fun _ _ q => q)
  refine hideG fun G K => ?_
  (refine x14 q' ?_; clear q'; intro v hr rv hi3 t)
  have J3 := J.step hi t hits hC hD hV
  (refine x14 (item z (hds ▸ mR _ (.head _))) ?_; intro ρ1 htg hsub hkx hvx)
  subst hr
  refine K (lotg hi3 (wM (htg.run A E Vi s.heap [] [C] s₃ v hA.zero (fun q => nomatch q) J3.fm rv) (fun _ s4 q => ?_) fun _ _ q => q))
  refine hideG fun G K => ?_
  (refine x12 q ?_; clear q; intro X4 g₄ F4)
  have hds' : zs = (done ++ [z]) ++ rest := by rw [hds, aA]; rfl
  have hlt : rest.length < k := hk ▸ Nat.lt_succ_self _
  refine K (wM (hkx.run A _ _ _ _ _ s4 hA F4) (fun kv s5 q => ?_) fun _ _ q => q)
  obtain ⟨g5, rk⟩ := q
  obtain ⟨tk, rfl⟩ := rk.inv
  refine wM (hvx.run A _ _ _ _ _ s5 hA (F4.gr g5)) (fun y s6 q => ?_) fun _ _ q => q
  obtain ⟨g6, ry⟩ := q
  have b := J3.back hρ hCs hDC g₄ F4 hsub (g5.trans g6)
  refine b.1.put (hi3.stp hC b.2) hD hDV hDs ?_ ?_ (ry.weak fun a q => ⟨rfl, q.imp id fun q => ?_⟩) fun s7 J7 hi7 => ⟨_, hlt, done ++ [z], rest, hds', rfl, by erw [List.map_append]; exact J7, hi7⟩
  · rw [List.length_map]; exact Nat.le_trans (by rw [hds, List.length_append]; exact Nat.le_add_right _ _) hz
  · erw [List.map_map]
    intro q
    have q' : z ∈ done := by
     (refine x12 (List.mem_map.mp q) ?_; intro w hw e)
     exact (show w = z from e) ▸ hw
    rw [hds] at hnd
    exact (List.nodup_append.mp hnd).2.2 _ q' _ (.head _) rfl
  · obtain ⟨_, _, _, h2, _⟩ := F4.sto
    obtain ⟨_, _, _, h2', _⟩ := J.fm.sto
    rw [mSz.mp q, h2, (List.cons.inj h2').1]; exact .head _
end
end
end
section
noncomputable abbrev Cx.at (c : Cx) (B : Heap) : Cx := { c with base := B }
theorem Room.at {c : Cx} {n : Nat} {A : Around} (B : Heap) (h : Room c n A) : Room (c.at B) n A := ⟨h.handled, h.depth, h.units, h.guards⟩
section
variable {c : Cx} {n : Nat} {sc : Scope} {ρ : Sto}
theorem dcomp_loop {kx vx tgt iter : Expr} {scope : Scope} {pos : Pos} {r : List Nat -> D} {zs : List (List Nat)} {ρi : Sto} {A : Around} {env : Env} {V0 : Addr -> Prop} {h0 : Heap} {Cs : List (Str × Addr)} {X : List Addr} {s s2 s₃ : Shared} {cl : List (Str × Addr)} {C Dd it : Addr}
 (hA : Room c n A) (hn : c.hn) (F : Fm c sc env V0 h0 Cs X ρ s) (g12 : Gr s s2) (hc : Capt sc scope ρ ρi) (hclf : ∀ p ∈ scope.names, p.2 = .free -> cl.lookup p.1 = env.cells.lookup p.1) (hcle : ∀ x a, cl.lookup x = some a -> env.cells.lookup x = some a)
 (hz : zs.length <= 16777216) (hnd : zs.Nodup) (item : ∀ z ∈ zs, DItem c n (relab sc scope) ρi tgt kx vx z (r z))
 (g23 : Gr s2 s₃) (hDn : s2.heap.get? Dd = none) (hCn : s2.heap.get? C = none) (hDC : Dd ≠ C) (hDh : s₃.heap.get? Dd = some { cls := .type "dict", dict := none, data := .dict #[] }) (hns : s₃.heap.Ns C fun x => ([] : List (Str × Value)).reverse.lookup x)
 (hits : s.heap.get? it = none) (hi : ItAt c (Vol V0 X) s2 it (zs.map sd))
 {R : Result -> Shared -> Prop} (end' : ∀ s', s.heap.get? Dd = none -> s.heap.get? C = none -> DJ c (relab sc scope) (compEnvC scope cl C env) (fun a => Vol V0 X a \/ a = Dd) C Dd ρi s (zs.map fun z => (z, r z)) s' -> R (.ok .next) s') {E' : Value -> Shared -> Prop} :
 wpAny c.M A (pyIter (.ref it)) (fun it' s' => codeAny c.M A (.compLoop (.DictComp kx vx [⟨tgt, iter, [], 0⟩] scope pos) 0 it' (.ref Dd) (compEnvC scope cl C env)) R s') E' s₃ /\
 codeAny c.M A (.compLoop (.DictComp kx vx [⟨tgt, iter, [], 0⟩] scope pos) 0 (.ref it) (.ref Dd) (compEnvC scope cl C env)) R s₃ := by
 have hlv := (F.st true).live
 have hDs := get_none_of g12 hDn
 have hCs := get_none_of g12 hCn
 have hitalive : ∃ o, s2.heap.get? it = some o := let ⟨o, _, _, e, _⟩ := hi.fields; ⟨o, e⟩
 have hitD : it ≠ Dd := fun q => by obtain ⟨o, e⟩ := hitalive; rw [q, hDn] at e; cases e
 have hitC : it ∉ [C] := fun q => by obtain ⟨o, e⟩ := hitalive; rw [mSz.mp q, hCn] at e; cases e
 have hitV : ¬ (Vol V0 X it \/ it = Dd) := fun q => q.elim (fun q => by obtain ⟨o, e⟩ := hlv it ⟨rfl, q⟩; rw [hits] at e; cases e) hitD
 have J : DJ c (relab sc scope) (compEnvC scope cl C env) (fun a => Vol V0 X a \/ a = Dd) C Dd ρi s (([] : List (List Nat)).map fun z => (z, r z)) s₃ :=
  ⟨g12.trans g23, capt_fm F g12 hc hclf hcle g23 hDn hCn hDC ⟨_, hDh⟩ hns, [], ⟨_, #[], 0, hDh, ⟨rfl, rfl, rfl⟩, rfl, fun _ he => by simp at he, Pairs.nil, List.nodup_nil⟩, rfl, .nil⟩
 have hi3 : ItAt c (Vol (fun a => Vol V0 X a \/ a = Dd) [C]) s₃ it (zs.map sd) := by
  have na : ∀ (a : Addr) (o : Obj), ¬ Vol V0 X a -> s2.heap.get? a = some o -> ¬ Vol (fun a => Vol V0 X a \/ a = Dd) [C] a /\ s₃.heap.get? a = some o := fun a o na e => ⟨fun q => (by
   rcases q with (q | q) | q
   · exact na q
   · rw [q, hDn] at e; cases e
   · rw [mSz.mp q, hCn] at e; cases e), g23.keep _ _ e⟩
  exact hi.carry (fun o e => g23.keep _ _ e) na fun r => r.mapA rfl fun a o n e _ => na a o n e
 have loop := code_compD (c := c) (A := A) (iter := iter) (scope := scope) (pos := pos) (R := R) (DIn c (relab sc scope) (compEnvC scope cl C env) (fun a => Vol V0 X a \/ a = Dd) C Dd it ρi s r zs)
  (fun k s' I => dj_turn hA hn hz hnd item (fun p hp => let ⟨d, e, _⟩ := hc.sto p hp; ⟨d, e⟩) hits hDs hCs hDC hitC hitD hitV (.inr rfl) (fun s' J => end' s' hDs hCs J) I) zs.length ⟨[], zs, rfl, rfl, J, hi3⟩
 exact ⟨hi3.self loop, loop⟩
theorem Fm.dropC {env : Env} {V0 : Addr -> Prop} {h0 : Heap} {Cs : List (Str × Addr)} {X : List Addr} {s : Shared} {C : Addr} {h' : Heap} {mc : Str -> Option Value} (F : Fm c sc env (fun a => V0 a \/ a ∈ [C]) h0 Cs X ρ s) (hs : Heap.SameBut C s.heap h') (hC0 : h0.get? C = none) (hCV : ¬ V0 C) (hC : s.heap.Ns C mc) : Fm c sc env V0 h0 Cs X ρ { s with heap := h' } := by
 obtain ⟨m, fps, h1, h2, h3, h4, h6, h5⟩ := F.sto
 have hCX : C ∉ X := (F.live0 C (.inr (.head _))).2
 have hLX : env.locals ∈ X := h2 ▸ .head _
 have hx : ∀ b, b ∈ X -> b ≠ C := fun b hb q => hCX (q ▸ hb)
 have hcell : ∀ b o w, s.heap.get? b = some o -> o.data = .cell w -> h'.get? b = some o := fun b o w e hw => (hs.2 b fun q => by
  (refine x33 hC ?_; clear hC; intro oc es ep hc hcd _)
  rw [q, hc] at e; cases e; rw [hcd] at hw; cases hw).trans e
 refine ⟨F.good, F.scope, F.kind, F.globals, F.builtins, F.base, fun b o e => (hs.2 b fun q => by rw [q, hC0] at e; cases e).trans (F.keep b o e), F.tok, fun a q => ⟨let ⟨o, e⟩ := (F.live0 a (.inl q)).1; ⟨o, (hs.2 a fun q' => hCV (q' ▸ q)).trans e⟩, (F.live0 a (.inl q)).2⟩, F.ccells, F.new, F.cells, F.cinj,
  m, fps, ?_, h2, h3, fun a ha => let ⟨o, e⟩ := h4 a ha; ⟨o, (hs.2 a (hx a ha)).trans e⟩, fun p hp => ?_, ?_⟩
 · (refine x32 h1 ?_; clear h1; intro o es ep ho r)
   exact ⟨o, es, ep, (hs.2 _ (hx _ hLX)).trans ho, r⟩
 · (refine x22 (h6 p hp) ?_; intro v o e d)
   exact ⟨v, o, hcell _ o _ e d, d⟩
 · have h5' : StoR c env (Vol (fun a => V0 a \/ a ∈ [C]) X) { s with heap := h' } m ρ fps := h5.change (s := s) (s' := { s with heap := h' }) ⟨Nat.le_refl _, fun b o nb e sh => (hs.2 b fun q => nb (.inl (.inr (mSz.mpr q)))).trans e⟩
    (fun a ha o e => (hs.2 a (hx a (h2 ▸ .tail _ (mR _ ha)))).trans e) (fun _ _ _ => rfl) fun p _ a o w _ e hw => hcell a o w e hw
   exact h5'.weak fun a q => q.imp .inl id
theorem DJ.lst {sci : Scope} {E : Env} {V0 : Addr -> Prop} {X : List Addr} {C Dd : Addr} {ρi : Sto} {s s' : Shared} {kvs : List (List Nat × D)} (hlv : ∀ a, Vol V0 X a -> ∃ o, s.heap.get? a = some o) (hDs : s.heap.get? Dd = none) (hsys : (Dd == sysModules) = false) (hDC : Dd ≠ C) (J : DJ c sci E (fun a => Vol V0 X a \/ a = Dd) C Dd ρi s kvs s') : Rep c (Vol (fun a => V0 a \/ a ∈ [C]) X) s' (.dict kvs) (.ref Dd) := by
 (refine x13 J.acc ?_; rintro kvv ⟨o, es, ep, ho, hx, hdt, hkeys, hpairs, _⟩ l2 l3)
 refine .dict (fun q => ?_) hsys ho hx hdt (repD_of hpairs (fun e he => hkeys e (Array.mem_toList_iff.mp he)) l2 (l3.weak fun a q => ?_))
 · rcases q with (q | q) | q
   · obtain ⟨o', e⟩ := hlv _ (.inl q); rw [hDs] at e; cases e
   · exact hDC (mSz.mp q)
   · obtain ⟨o', e⟩ := hlv _ (.inr q); rw [hDs] at e; cases e
 · rcases q with (q | q) | q
   · exact .inl (.inl (.inl q))
   · exact .inr q
   · exact .inl (.inl (.inr q))
theorem dcomp_assign {kx vx tgt iter : Expr} {scope : Scope} {pos p spos : Pos} {y : String} {rest : List Stmt} {r : List Nat -> D} {ρi : Sto} {Q : Flow -> Shared -> Prop} {EE : Value -> Shared -> Prop} {A : Around} {env : Env} {Cs : List (Str × Addr)} {s : Shared}
 (hA : Room c n A) (hO : OwnT c A env sc Cs) (hcells : ∀ x, (sc.names.lookup x = some .cell \/ sc.names.lookup x = some .free) -> ∃ a, env.cells.lookup x = some a) (hc : Capt sc scope ρ ρi) (hs : ∀ (env : Env) x, foldedSetIterable iter env x = pure x) (hn : c.hn)
 (hsw : swapsWith (.DictComp kx vx [⟨tgt, iter, [], 0⟩] scope pos) (some (.Name (oS y) p)) spos.line env = pure true) (hk : CanStore sc y)
 (he : wpAny c.M A (eval iter env) (fun xv s₁ => ∃ (B : Heap) (V0 : Addr -> Prop) (h0 : Heap) (X : List Addr) (zs : List (List Nat)), Fm (c.at B) sc env V0 h0 Cs X ρ s₁ /\ Rep (c.at B) (VK true V0 X) s₁ (.list (zs.map sd)) xv /\ zs.length <= 16777216 /\ zs.Nodup /\
  (∀ z ∈ zs, DItem (c.at B) n (relab sc scope) ρi tgt kx vx z (r z)) /\ ∀ X' s', Stp X s₁ X' s' -> Fm (c.at B) sc env V0 h0 Cs X' (setS ρ y (.val (.dict (zs.map fun z => (z, r z))))) s' -> wpAny c.M A (execs rest env) Q EE s') NoE s) :
 wpAny c.M A (execs (.Assign [.Name (oS y) p] (.DictComp kx vx [⟨tgt, iter, [], 0⟩] scope pos) spos :: rest) env) Q EE s := by
 (refine x13 (closure_of (scope := scope) (env := env) fun p hp hf => hcells _ (hc.free p hp hf)) ?_; intro cl hcl hclf hcle)
 refine wE ?_
 erw [exec_Assign_Name_used _ _ _ _ hsw]
 refine wB (wZ (wB ?_))
 show wpAny _ A (do let _ <- comprehension (.DictComp kx vx [⟨tgt, iter, [], 0⟩] scope pos) scope env _ newDict false (eval iter env) (some (PySem.assign (.Name (oS y) p) env))) _ _ s
 refine wB (wM (Q := fun _ s' => wpAny c.M A (execs rest env) Q EE s') (E := NoE) ?_ (fun _ s' hq => wP (wP hq)) fun _ _ e => e.elim)
 refine wpAny_comprehension_free (use := some (PySem.assign (.Name (oS y) p) env)) rfl (hs env) hcl hc.kind hc.names (wM he (fun xv s₁ q₁ => ?_) fun _ _ q => q)
 refine hideG fun G K => ?_
 (refine x56 q₁ ?_; clear q₁; intro B V0 h0 X zs F rx hz hnd item fin)
 refine K (wM (IterR.list (c := c.at B) A _ s₁ xv (hA.at B).zero (F.st true) rx) (fun itv s2 q₂ => ?_) fun _ _ q => q)
 refine hideG fun G K => ?_
 (refine x02 q₂ ?_; clear q₂; intro g₂ r9; refine x13 r9 ?_; clear r9; rintro it rfl hitn hi)
 have hV : VK true V0 X = Vol V0 X := by funext a; simp [VK]
 rw [hV] at hi
 refine K (wpAny_newObj_type (wpAny_newFunctionEnv hc.nocell (fun _ h => nomatch h) (fun h₁ hns₁ hsb1 => ?_) hc.kind))
 have hsys : (s2.heap.objs.size == sysModules) = false := by
  (refine x32 (((F.good.g.keeps F.base).keeps F.keep).keeps g₂.keep) ?_; intro _ _ _ e _)
  have := Heap.lt_size e
  have h3 : (3 : Nat) < s2.heap.objs.size := this
  have : s2.heap.objs.size ≠ (1 : Nat) := by omega
  simpa [sysModules] using this
 have hk0 : Keeps s2.heap (s2.heap.push { cls := .type "dict", dict := none, data := .dict #[] }) := fun b o e => Heap.get?_push_of_some _ e
 have hCn : s2.heap.get? (s2.heap.push { cls := .type "dict", dict := none, data := .dict #[] }).objs.size = none := by
  cases e : s2.heap.get? (s2.heap.push { cls := .type "dict", dict := none, data := .dict #[] }).objs.size with
  | none => rfl
  | some o => have := hk0 _ _ e; rw [get_size] at this; cases this
 have hDC : s2.heap.objs.size ≠ (s2.heap.push { cls := .type "dict", dict := none, data := .dict #[] }).objs.size := by rw [Heap.size_push]; exact Nat.ne_of_lt (Nat.lt_succ_self _)
 have l := dcomp_loop (c := c.at B) (s₃ := { s2 with heap := h₁, toks := s2.toks + ([] : List (Str × Value)).length }) (kx := kx) (vx := vx) (tgt := tgt) (iter := iter) (pos := pos)
  (E' := notedBy c.M A (compEnvC scope cl (s2.heap.push { cls := .type "dict", dict := none, data := .dict #[] }).objs.size env) fun x s' => compPost c.M A NoE (some (PySem.assign (.Name (oS y) p) env)) (fun _ s' => wpAny c.M A (execs rest env) Q EE s') (.ref s2.heap.objs.size) (s2.heap.push { cls := .type "dict", dict := none, data := .dict #[] }).objs.size (.error x) s')
  (R := compPost c.M A NoE (some (PySem.assign (.Name (oS y) p) env)) (fun _ s' => wpAny c.M A (execs rest env) Q EE s') (.ref s2.heap.objs.size) (s2.heap.push { cls := .type "dict", dict := none, data := .dict #[] }).objs.size)
  (hA.at B) hn F g₂ hc hclf hcle hz hnd item
  ⟨fun b o e => (hsb1.2 b fun q => by rw [q, hCn] at e; cases e).trans (Heap.get?_push_of_some _ (hk0 b o e)), Nat.le_add_right _ _, .rfl, rfl⟩ (get_size _) hCn hDC ((hsb1.2 _ hDC).trans (Heap.get?_push_of_some _ (Heap.get?_push_size _ rfl))) hns₁ hitn hi (fun s' hDs hCs J => ?_)
 · exact codeAny_compStart_dict l.2 l.1
 · generalize (s2.heap.push { cls := .type "dict", dict := none, data := .dict #[] }).objs.size = C at hDC hCs J ⊢
   generalize s2.heap.objs.size = Dd at hsys hDC hDs J ⊢
   obtain ⟨m, _, hm, h2, _⟩ := J.fm.sto
   have hEC : (compEnvC scope cl C env).locals = C := (List.cons.inj h2).1.symm
   rw [hEC] at hm
   have hCl : ∃ o, s'.heap.get? C = some o := by (refine x32 hm ?_; clear hm; intro o _ _ e _); exact ⟨o, e⟩
   have F' := F.addL [C] (fun a ha => by rw [mSz.mp ha]; exact hCs) J.gr fun a ha => by rw [mSz.mp ha]; exact hCl
   have hlv : ∀ a, Vol V0 X a -> ∃ o, s₁.heap.get? a = some o := fun a q => (F.st true).live a ⟨rfl, q⟩
   have rD := J.lst hlv hDs hsys hDC
   show wpAny c.M A (PySem.assign (.Name (oS y) p) env (.ref Dd)) _ NoE s'
   refine wpAny_assign_Name (wM (F'.store (.refl _) (fun q => hO.own _ q) hk (RepS.ofRep (V := fun a => V0 a \/ a ∈ [C]) (X := X) (rD.weak fun a q => q.2)) .nil fun _ ha => nomatch ha) (fun _ s'' q => ?_) fun _ _ q => q)
   (refine x12 q ?_; clear q; intro X' t F'')
   have hCX : C ∉ X := fun q => by obtain ⟨o, e⟩ := hlv C (.inr q); rw [hCs] at e; cases e
   have hm'' : s''.heap.Ns C m := hm.at fun o e => t.keep _ _ hCX e
   refine ⟨m, hm'', fun h' hs' => ?_⟩
   have hC0 : h0.get? C = none := by
    cases e : h0.get? C with
    | none => rfl
    | some o => have := F.keep _ _ e; rw [hCs] at this; cases this
   have hCV : ¬ V0 C := fun q => by obtain ⟨o, e⟩ := hlv C (.inl q); rw [hCs] at e; cases e
   have hgr : ∀ b o, b ∉ X -> s₁.heap.get? b = some o -> h'.get? b = some o := fun b o nb e => (hs'.2 b fun q => by rw [q, hCs] at e; cases e).trans (t.keep _ _ nb (J.gr.keep _ _ e))
   refine fin X' _ ⟨hgr, Nat.le_trans J.gr.tok t.tok, t.gens.trans J.gr.gens, t.os.trans J.gr.os, fun b hb => (t.new b hb).imp id fun q => get_none_of J.gr q, fun b hb o e => ?_⟩ (F''.dropC hs' hC0 hCV hm'')
   obtain ⟨o', e'⟩ := t.live b hb _ (J.gr.keep _ _ e)
   exact ⟨o', (hs'.2 b fun q => hCX (q ▸ hb)).trans e'⟩
end
end
section
section
variable {c c' : Cx} {n : Nat} {sc : Scope} {env : Env} {V0 : Addr -> Prop} {h0 h0' : Heap} {Cs : List (Str × Addr)} {X X' : List Addr} {ρ ρ' : Sto} {s s' s₀ : Shared} {vl : List Addr} {A : Around}
theorem Fm.hb0 (F : Fm c sc env V0 h0 Cs X ρ s) (hb : Keeps c.base h0') (hk : Keeps h0' s.heap) (hn : ∀ a ∈ X, h0'.get? a = none) : Fm c sc env V0 h0' Cs X ρ s := { F with base := hb, keep := hk, new := hn }
theorem OwnT.at {B : Heap} (h : OwnT c A env sc Cs) : OwnT (c.at B) A env sc Cs := ⟨h.own, h.top⟩
theorem Fm.rebase (F : Fm c sc env (fun a => a ∈ vl) h0 Cs X ρ s) (hv : ∀ a ∈ vl, c.base.get? a = none) :
 Keeps c.base (hideAll s.heap (vl ++ X)) /\ Fm (c.at (hideAll s.heap (vl ++ X))) sc env (fun a => a ∈ vl) (hideAll s.heap (vl ++ X)) Cs X ρ s := by
 have hk : Keeps c.base (hideAll s.heap (vl ++ X)) := fun b o e => hideAll_get _ ((F.base.trans F.keep) b o e) fun q => by
  rcases mA.mp q with q | q
  · rw [hv b q] at e; cases e
  · have := F.base b o e; rw [F.new b q] at this; cases this
 have G : (c.at (hideAll s.heap (vl ++ X))).Good := ⟨F.good.g.keeps hk, F.good.b.keeps hk, F.good.lim.keeps hk⟩
 have F1 := F.hb0 (h0' := hideAll s.heap (vl ++ X)) hk (fun b o e => of_hideAll _ e) fun a ha => hideAll_none _ (mR _ ha)
 exact ⟨hk, F1.cx rfl G fun b o e => e⟩
structure Wk (c : Cx) (sc : Scope) (env : Env) (vl : List Addr) (Cs : List (Str × Addr)) (s₀ : Shared) (X : List Addr) (ρ : Sto) (s : Shared) : Prop where
 fm : ∃ h0, Fm c sc env (fun a => a ∈ vl) h0 Cs X ρ s /\ ∀ a ∈ vl, h0.get? a = none
 far : Far (fun b => b ∈ vl) s₀ s
 mn : Mn s₀ s
 new : ∀ a ∈ X, s₀.heap.get? a = none
theorem Wk.enter (F : Fm c sc env (fun a => a ∈ vl) h0 Cs X ρ s) (hv : ∀ a ∈ vl, c.base.get? a = none) (g : Gr s₀ s) (hn : ∀ a ∈ X, s₀.heap.get? a = none) : Wk c sc env vl Cs s₀ X ρ s :=
 ⟨⟨hideAll h0 vl, F.hb0 (fun b o e => hideAll_get _ (F.base b o e) fun q => by rw [hv b q] at e; cases e) (fun b o e => F.keep b o (of_hideAll _ e)) (fun a ha => by
  cases e : (hideAll h0 vl).get? a with
  | none => rfl
  | some o => have := of_hideAll _ e; rw [F.new a ha] at this; cases this), fun a ha => hideAll_none _ ha⟩, .of_keeps g.keep g.tok, g.mn, hn⟩
theorem Wk.base (w : Wk c sc env vl Cs s₀ X ρ s) : ∀ a ∈ vl, c.base.get? a = none := fun a ha => by
 (refine x12 w.fm ?_; intro h0 F hv)
 cases e : c.base.get? a with
 | none => rfl
 | some o => have := F.base a o e; rw [hv a ha] at this; cases this
theorem Wk.kb (w : Wk c sc env vl Cs s₀ X ρ s) : Keeps c.base s.heap := let ⟨_, F, _⟩ := w.fm; F.base.trans F.keep
theorem Wk.liveX (w : Wk c sc env vl Cs s₀ X ρ s) : ∀ a ∈ X, ∃ o, s.heap.get? a = some o := let ⟨_, F, _⟩ := w.fm; let ⟨_, _, _, _, _, h, _, _⟩ := F.sto; h
theorem Wk.live0 (w : Wk c sc env vl Cs s₀ X ρ s) : ∀ a ∈ vl, (∃ o, s.heap.get? a = some o) /\ a ∉ X := let ⟨_, F, _⟩ := w.fm; fun a h => F.live0 a h
theorem Wk.go (w : Wk c sc env vl Cs s₀ X ρ s) (t : Stp X s X' s') (F' : Fm c sc env (fun a => a ∈ vl) h0 Cs X' ρ' s') (hv : ∀ a ∈ vl, h0.get? a = none) : Wk c sc env vl Cs s₀ X' ρ' s' := by
 refine ⟨⟨h0, F', hv⟩, ⟨fun b o nb e => t.keep b o (fun q => by rw [w.new b q] at e; cases e) (w.far.keep b o nb e), Nat.le_trans w.far.tok t.tok⟩, w.mn.trans t.mn, fun a ha => ?_⟩
 rcases t.new a ha with q | q
 · exact w.new a q
 · cases e : s₀.heap.get? a with
   | none => rfl
   | some o =>
    by_cases hx : a ∈ vl
    · obtain ⟨o', e'⟩ := (w.live0 a hx).1
      rw [q] at e'; cases e'
    · rw [w.far.keep a o hx e] at q; cases q
theorem Wk.stp (w : Wk c sc env vl Cs s₀ X ρ s) (t : Stp X s X' s') (F : ∀ h0, Fm c sc env (fun a => a ∈ vl) h0 Cs X ρ s -> (∀ a ∈ vl, h0.get? a = none) -> Fm c sc env (fun a => a ∈ vl) h0 Cs X' ρ' s') : Wk c sc env vl Cs s₀ X' ρ' s' :=
 let ⟨h0, F0, hv⟩ := w.fm; w.go t (F h0 F0 hv) hv
theorem Wk.gr (w : Wk c sc env vl Cs s₀ X ρ s) (g : Gr s s') : Wk c sc env vl Cs s₀ X ρ s' := w.stp (.of_gr g) fun _ F _ => F.gr g
theorem Wk.turn {a : Addr} (ha : a ∈ vl) (w : Wk c sc env vl Cs s₀ X ρ s) (t : Far (fun b => b = a) s s') (m : Mn s s') (hc : ∀ o, s.heap.get? a = some o -> ∀ w, o.data ≠ .cell w) (hl : ∃ o, s'.heap.get? a = some o) : Wk c sc env vl Cs s₀ X ρ s' := by
 (refine x12 w.fm ?_; intro h0 F hv)
 exact ⟨⟨h0, F.far t (.v0 F (fun b h => h ▸ ha) (fun b h => h ▸ hv a ha) (fun b o h e => hc o (h ▸ e)) fun b h => h ▸ hl), hv⟩, ⟨fun b o nb e => t.keep b o (fun q => nb (q ▸ ha)) (w.far.keep b o nb e), Nat.le_trans w.far.tok t.tok⟩, w.mn.trans m, w.new⟩
theorem Wk.rebase (w : Wk c sc env vl Cs s₀ X ρ s) : Keeps c.base (hideAll s.heap (vl ++ X)) /\ Wk (c.at (hideAll s.heap (vl ++ X))) sc env vl Cs s₀ X ρ s := by
 (refine x12 w.fm ?_; intro h0 F hv)
 obtain ⟨hk, F'⟩ := F.rebase w.base
 exact ⟨hk, ⟨_, F', fun a ha => hideAll_none _ (mL _ ha)⟩, w.far, w.mn, w.new⟩
theorem Wk.st (w : Wk c sc env vl Cs s₀ X ρ s) : St c (Vol (fun a => a ∈ vl) X) s := let ⟨_, F, _⟩ := w.fm; (F.st true).weak fun a q => ⟨rfl, q⟩
section
variable {st : Stmt} {rest : List Stmt} {Q : Flow -> Shared -> Prop} {E : Value -> Shared -> Prop} {P : AF -> Sto -> Prop}
theorem Wk.sx (w : Wk c sc env vl Cs s₀ X ρ s) (hA : Room c n A) (hO : OwnT c A env sc Cs) (h : Sx c n sc ρ st P) (hp : ∀ af ρ', P af ρ' -> af = .next)
 (k : ∀ X' ρ' s', P .next ρ' -> Stp X s X' s' -> Wk c sc env vl Cs s₀ X' ρ' s' -> wpAny c.M A (execs rest env) Q E s') : wpAny c.M A (execs (st :: rest) env) Q E s := by
 refine hideG fun G K => ?_
 (refine x12 w.fm ?_; intro h0 F hv)
 refine K (wE (wM (h.run A env _ h0 Cs X s hA hO F) (fun f s' q => ?_) fun _ _ q => q.elim))
 refine hideG fun G K => ?_
 obtain ⟨X', ρ', af, t, F', r, p⟩ := q
 have e := hp _ _ p
 subst e
 cases r
 exact K (k X' ρ' s' p t (w.go t F' hv))
theorem Wk.sn {ρ2 : Sto} (w : Wk c sc env vl Cs s₀ X ρ s) (hA : Room c n A) (hO : OwnT c A env sc Cs) (h : Sn c n sc ρ st ρ2)
 (k : ∀ X' s', Stp X s X' s' -> Wk c sc env vl Cs s₀ X' ρ2 s' -> wpAny c.M A (execs rest env) Q E s') : wpAny c.M A (execs (st :: rest) env) Q E s :=
 w.sx hA hO h (fun _ _ q => q.1) fun X' ρ' s' q t w' => k X' s' t (q.2 ▸ w')
theorem Wk.put {x : String} {d : D} {v : Value} (w : Wk c sc env vl Cs s₀ X ρ s) (hO : OwnT c A env sc Cs) (hk : CanStore sc x) (r : Rep c (Vol (fun a => a ∈ vl) X) s d v) {Q : Unit -> Shared -> Prop}
 (k : ∀ X' s', Stp X s X' s' -> Wk c sc env vl Cs s₀ X' (setS ρ x (.val d)) s' -> Q () s') : wpAny c.M A (storeName env (oS x) v) Q NoE s := by
 (refine x12 w.fm ?_; intro h0 F hv)
 refine wM (F.store (.refl _) (hO.own _) hk (RepS.ofRep (V := fun a => a ∈ vl) (X := X) (r.weak fun a q => q.2)) .nil fun _ ha => nomatch ha) (fun _ s' q => ?_) fun _ _ q => q
 (refine x12 q ?_; clear q; intro X' t F')
 exact k X' s' t (w.go t F' hv)
theorem Wk.assign {x : String} {e : Expr} {p pos : Pos} (hO : OwnT c A env sc Cs) (hsc : env.scope = sc) (hk : CanStore sc x)
 (he : wpAny c.M A (eval e env) (fun v s₁ => ∃ (B : Heap) (d : D) (X : List Addr), Wk (c.at B) sc env vl Cs s₀ X ρ s₁ /\ Rep c (Vol (fun a => a ∈ vl) X) s₁ d v /\
  ∀ X' s', Stp X s₁ X' s' -> Wk (c.at B) sc env vl Cs s₀ X' (setS ρ x (.val d)) s' -> wpAny c.M A (execs rest env) Q E s') E s)
 (hs : ∀ env : Env, env.scope = sc -> swapsWith e (some (.Name (oS x) p)) pos.line env = pure false := by intro _ _; rfl) :
 wpAny c.M A (execs (.Assign [.Name (oS x) p] e pos :: rest) env) Q E s := by
 refine wE (wpAny_Assign_Name (wM he (fun v s₁ q => ?_) fun _ _ q => q) (hs env hsc))
 refine hideG fun G K => ?_
 (refine x33 q ?_; clear q; intro B d X w r k)
 exact K (wM (Wk.put (A := A) w hO.at hk (Rep.cx (show c.w = (c.at B).w from rfl) r) k) (fun _ s' q => q) fun _ _ q => q.elim)
end
end
end
section
section
variable {prog : Program} {w : World} {A : Around} {E : Value -> Shared -> Prop} {s : Shared} {K : Frag} {x C dx : Addr} {m : Str -> Option Value} {k : Nat} {name : Str}
theorem get_bound {f : Addr} {expr : Bool} {Q : Value -> Shared -> Prop} (X : K.In s.heap) (O : ClsOk K C) (I : Inst s.heap x C dx m k) (hf : findIn K (.ref C) name = some (some (.ref f))) (ht : typeIn K (.ref f) = some (.type "function"))
 (hg : specialIn K (.ref f) "__get__" = some (some (.builtin "function.__get__"))) (htk : takesIn K (.ref f) = some false) (hc : copiedNames.contains name = false) (hv : m name = none)
 (h : Q (.ref s.heap.objs.size) { s with heap := s.heap.push (methodObj (.ref f) (.ref x)), toks := s.toks + 1 }) : wpAny (model prog w) A (getAttr (.ref x) name expr) Q E s := by
 (refine x12 I.inst ?_; intro o I' hl)
 exact get_bind X I' O.ga (findObj_fn O.hasDict hf hg htk hc (by rw [hl name, hv])) O.gk
  (wpAny_call (fn_get (s := { s with toks := s.toks + 1 }) X ht (handed_on rfl h)))
end
section
variable {c : Cx} {n : Nat} {sc : Scope} {k : Bool} {ρ : Sto} {env : Env} {V0 : Addr -> Prop} {h0 : Heap} {Cs : List (Str × Addr)} {X : List Addr} {s s₀ : Shared} {A : Around} {vl : List Addr}
theorem FnR.bound {m f : Addr} {x : Value} {ds : List D} {d : D} (hm : c.base.get? m = some (methodObj (.ref f) x)) (h : FnC c n (.ref f) (.val x :: ds) d) : FnR c n (.ref m) ds d := .mk fun A V s vs hA hS r => by
 refine wT (Nat.le_refl _) (wpAny_call (method_call (hS.keep _ _ hm) (codeAny_mono (h.run A V s (x :: vs) hA hS (.cons (.val _) r)) fun r s' q => ?_)))
 cases r with
 | error e => exact q
 | ok f =>
  cases f with
  | ret v => exact q
  | _ => exact q.elim
theorem Ev.callM {f : Expr} {es : List Expr} {pos : Pos} {m g : Addr} {x : Value} {o : Obj} {fd : FuncData} {ds : List D} {d : D} (hf : Ev c n sc true ρ f (.val (.ref m))) (hm : c.base.get? m = some (methodObj (.ref g) x)) (hg : c.base.get? g = some o) (hd : o.data = .func fd) (ha : EvL c n sc k ρ es ds) (h : FnR c n (.ref m) ds d)
 (hp : es.all plainE = true := by rfl)
 (he : ∀ env : Env, eval (.Call f es [] pos) env = (do callWith pos (<- eval f env) [] (backTo pos (starEach es env)) (backToKw pos (keywordEach [] env))) := by intro _; rfl) : Ev c n sc k ρ (.Call f es [] pos) d :=
 .mk fun A env V0 h0 Cs X s hA F => by
  rw [he]
  refine wB (wM (hf.run A env V0 h0 Cs X s hA F) (fun v s₁ q₁ => ?_) fun _ _ q => q)
  obtain ⟨g₁, r₁⟩ := q₁
  cases r₁.inv
  refine callWith_of (P := fun h => h.get? m = some (methodObj (.ref g) x) /\ h.get? g = some o) (by erw [noStar_all hp]; rfl) (fun h X => ⟨.boundFrame, .inr (.inr rfl), (Looks.ld (part := Option.none) X.1).andThen ?_⟩)
   (evalArgs_of hp (wM (ha.run A env V0 h0 Cs X s₁ pos hA (F.gr g₁)) (fun vs s2 q₂ => ⟨⟨?_, ?_⟩, ?_⟩) fun _ _ q => q))
  · refine (Looks.ld (part := Option.none) X.2).andThen ?_
    rw [hd]; exact .now
  · exact (((F.gr g₁).gr q₂.1).base.trans ((F.gr g₁).gr q₂.1).keep) _ _ hm
  · exact (((F.gr g₁).gr q₂.1).base.trans ((F.gr g₁).gr q₂.1).keep) _ _ hg
  · exact wp_gr (g₁.trans q₂.1) (h.run A _ s2 vs hA ((F.st k).gr (g₁.trans q₂.1)) q₂.2)
theorem Fm.nofields (F : Fm c sc env V0 h0 Cs X ρ s) (hρ : ∀ p ∈ ρ, ∃ d, p.2 = .val d) : ∀ a ∈ X, ∀ o, s.heap.get? a = some o -> ∀ vs, o.data ≠ .fields vs := by
 obtain ⟨m, fps, h1, h2, h3, h4, h6, h5⟩ := F.sto
 intro a ha o ho vs hd
 rw [h2, h5.vals hρ, List.append_nil] at ha
 rcases mC.mp ha with rfl | ha
 · (refine x33 h1 ?_; clear h1; intro ob es ep e hdd _)
   rw [e] at ho; cases ho
   rw [hdd] at hd; cases hd
 · (refine x12 (List.mem_map.mp ha) ?_; rintro p hp rfl)
   (refine x22 (h6 p hp) ?_; intro v ob e hdd)
   rw [e] at ho; cases ho
   rw [hdd] at hd; cases hd
end
end
section
section
variable {c : Cx} {n : Nat} {sc : Scope} {k : Bool} {ρ : Sto} {env : Env} {V0 : Addr -> Prop} {h0 : Heap} {Cs : List (Str × Addr)} {X : List Addr} {s s₀ : Shared} {A : Around} {vl : List Addr}
noncomputable abbrev splitE (ka kb : Nat) (p1 p2 p3 p4 p5 : Pos) : Expr := .Call (.Attribute (.Name (oS "n") p1) (oS "split") p2) [.Constant (.str (oS "}")) ka p3, .Constant (.int 1) kb p4] [] p5
theorem SetTwo.at {h h' : Heap} {sa : Addr} {x y : Str} (t : SetTwo h sa x y) (k : ∀ o, h.get? sa = some o -> h'.get? sa = some o) : SetTwo h' sa x y := by
 obtain ⟨e0, e1, ep, t, tx, ty, ho, T, pl, two⟩ := t
 exact ⟨e0, e1, ep, t, tx, ty, k _ ho, T, pl, two⟩
structure LamOk (params : Arguments) (lsc : Scope) (body : Expr) : Prop where
 bind : ∀ qual pm cdv ct v, bindArgs (kla_fn "<lambda>" qual params body lsc [] pm cdv ct) ⟨[v], []⟩ = pure [(oS "n", v)]
 kind : lsc.kind = .function
 co : lsc.isCoroutine = false
 gen : lsc.isGenerator = false
 names : ∀ p ∈ lsc.names, p.2 ≠ .cell /\ p.2 ≠ .free
 kx : lsc.names.lookup (oS "n") = some .local
 dflt : ∀ env, defaultsOf params env = ([], [])
 clos : ∀ env, closureFor lsc env = pure []
structure VlOk (vl : List Addr) (P : Addr) (h : Heap) : Prop where
 mem : P ∈ vl
 seq : ∀ a ∈ vl, a = P \/ ∃ o, h.get? a = some o /\ ∀ vs, o.data ≠ .fields vs
inductive SortedR (c : Cx) (sc : Scope) (env : Env) (vl : List Addr) (Cs : List (Str × Addr)) (s₀ : Shared) (X : List Addr) (ρ : Sto) (P : Addr) (qual : Str) (pos : Pos) (x y : List Nat) (s : Shared) (v : Value) (s' : Shared) : Prop
 | mk (B : Heap) (z1 z2 : List Nat) (kb : Keeps c.base B) (kn : ∀ b o, b ∉ vl -> b ∉ X -> s.heap.get? b = some o -> B.get? b = some o) (w : Wk (c.at B) sc env vl Cs s₀ X ρ s') (ht : Two x y [z1, z2]) (r : Rep (c.at B) (Vol (fun a => a ∈ vl) X) s' (.list [sd z1, sd z2]) v)
  (hP : PSt P qual pos s'.heap) (far : Far (fun b => b = P) s s') : SortedR c sc env vl Cs s₀ X ρ P qual pos x y s v s'
theorem sorted_lam {P cc qa : Addr} {params : Arguments} {lsc : Scope} {lpos p0 p1' cpos kp : Pos} {ka kb : Nat} {p1 p2 p3 p4 p5 : Pos} {q : String} {x y : List Nat} (hn : c.hn) (w : Wk c sc env vl Cs s₀ X ρ s) (hA : Room c (n + 3) A) (hρ : ∀ p ∈ ρ, ∃ d, p.2 = .val d)
 (L : LamOk params lsc (splitE ka kb p1 p2 p3 p4 p5)) (hline : (p2.endLine == p5.line) = true) (hq : ρ.lookup q = some (.val (.val (.ref qa)))) (hqd : q ≠ "__debug__") (hb : c.mg (oS "sorted") = none /\ c.mb (oS "sorted") = some (.builtin "sorted")) (hs : sc.names.lookup (oS "sorted") = some .globalImplicit)
 (hcode : env.code = .ref cc) (C : CodeHd c.base cc P) (hB : c.base.BuiltinsAt c.mg P) (VO : VlOk vl P s.heap) (hP : PSt P (env.qual ++ "<lambda>") lpos s.heap)
 (h2 : SetTwo s.heap qa (S x) (S y)) (hqX : qa ∉ vl /\ qa ∉ X) (hxy : x ≠ y) (hz : ∀ z, z = x \/ z = y -> z = cs "a" \/ z = cs "k")
 (heq : ∀ env : Env, eval (.Call (.Name (oS "sorted") p0) [.Name (oS q) p1'] [⟨some (oS "key"), .Lambda params (splitE ka kb p1 p2 p3 p4 p5) lsc lpos, kp⟩] cpos) env =
  (do callWith cpos (<- eval (.Name (oS "sorted") p0) env) [] (backTo cpos (starEach [.Name (oS q) p1'] env)) (backToKw cpos (keywordEach [⟨some (oS "key"), .Lambda params (splitE ka kb p1 p2 p3 p4 p5) lsc lpos, kp⟩] env))) := by intro _; rfl) :
 wpAny c.M A (eval (.Call (.Name (oS "sorted") p0) [.Name (oS q) p1'] [⟨some (oS "key"), .Lambda params (splitE ka kb p1 p2 p3 p4 p5) lsc lpos, kp⟩] cpos) env)
  (SortedR c sc env vl Cs s₀ X ρ P (env.qual ++ "<lambda>") lpos x y s) NoE s := by
 rw [heq]
 refine hideG fun G K => ?_
 (refine x12 w.fm ?_; intro h0 F hv)
 refine K (wB (wM ((Ev.blt (k := true) hb.1 hb.2 hs).run A env _ h0 Cs X s hA F) (fun fv s₁ q₁ => ?_) fun _ _ q => q))
 refine hideG fun G K => ?_
 obtain ⟨g₁, r₁⟩ := q₁
 cases r₁.inv
 refine K (callWith_kw (wM ((EvL.cons (k := true) (.name hq hqd) .nil).run A env _ h0 Cs X s₁ cpos hA (F.gr g₁)) (fun vs s2 q₂ => ?_) fun _ _ q => q))
 refine hideG fun G K => ?_
 obtain ⟨g₂, r₂⟩ := q₂
 replace r₂ := r₂.o1
 (refine x12 r₂ ?_; clear r₂; rintro _ rfl r2)
 cases r2.inv
 have g12 := g₁.trans g₂
 have F₂ := F.gr g12
 have hP2 : PSt P (env.qual ++ "<lambda>") lpos s2.heap := by
  cases hP with
  | miss h => exact .miss (g12.keep _ _ h)
  | hit c' h1 h2 => exact .hit c' (g12.keep _ _ h1) (h2.keeps g12.keep)
 refine K (kwAll_cons (wM (lam_eval F₂ (L.dflt env) (L.clos env) hcode C hB (w.base P VO.mem) hP2) (fun lv s₃ q₃ => ?_) fun _ _ q => q))
 refine hideG fun G K => ?_
 obtain ⟨f, c', ctv, rfl, ho, hnf, hr, hP3, far, hg, hos⟩ := q₃
 have w2 := w.gr g12
 have hne : ∀ a ∈ vl, a ≠ P -> ∃ o, s₃.heap.get? a = some o /\ ∀ vs, o.data ≠ .fields vs := fun a ha hne => by
  rcases VO.seq a ha with rfl | ⟨o', e', hd⟩
  · exact absurd rfl hne
  · exact ⟨o', far.keep _ _ hne (g12.keep _ _ e'), hd⟩
 have w₃ : Wk c sc env vl Cs s₀ X ρ s₃ := w2.turn VO.mem far ⟨far.tok, by rw [hg]; exact .rfl, hos⟩ (fun o e w hw => by
  have : ∃ ps, s2.heap.get? P = some (tabObj ps) := by
   cases hP2 with
   | miss h => exact ⟨_, h⟩
   | hit c' h _ => exact ⟨_, h⟩
  obtain ⟨ps, e2⟩ := this
  rw [e2] at e; cases e; cases hw) ⟨_, hP3⟩
 obtain ⟨hk, w3'⟩ := w₃.rebase
 have hfn : f ∉ vl ++ X := fun q => by
  rcases mA.mp q with q | q
  · obtain ⟨o, e⟩ := (w2.live0 f q).1; rw [hnf] at e; cases e
  · obtain ⟨o, e⟩ := w2.liveX f q; rw [hnf] at e; cases e
 (refine x12 w₃.fm ?_; intro h03 F₃ hv3)
 have hnfl := F₃.nofields hρ
 have hcn : ∀ (cd : Value) (ql : Str), s₃.heap.CodeRec cd ql -> (hideAll s₃.heap (vl ++ X)).CodeRec cd ql := fun cd ql hcr => by
  (refine x44 hcr ?_; clear hcr; intro c2 oc vs tq e1 e2 hd h1)
  refine ⟨c2, oc, vs, tq, e1, hideAll_get _ e2 fun q => ?_, hd, h1⟩
  rcases mA.mp q with q | q
  · by_cases q' : c2 = P
    · rw [q', hP3] at e2; cases e2; cases hd; cases h1
    · (refine x12 (hne c2 q q') ?_; intro o e hd')
      rw [e] at e2; cases e2; exact hd' _ hd
  · exact hnfl c2 q oc e2 vs hd
 have hlam : LamIn (c.at (hideAll s₃.heap (vl ++ X))) f lsc "n" (splitE ka kb p1 p2 p3 p4 p5) :=
  ⟨_, _, hideAll_get _ ho hfn, rfl, rfl, rfl, rfl, rfl, rfl, hcn _ _ hr, fun v => L.bind _ _ _ _ v, L.kind, L.co, L.gen, L.names, L.kx⟩
 have h23 : SetTwo s₃.heap qa (S x) (S y) := by
  exact h2.at fun o e => far.keep _ _ (fun q => hqX.1 (q ▸ VO.mem)) (g12.keep _ _ e)
 refine K (kwAll_nil (wM (sorted_two (c := c.at (hideAll s₃.heap (vl ++ X))) (n := n + 1) hn hxy (fun z hzz => lam_split hlam hline (hz z hzz)) (hA.at _) w3'.st h23) (fun v s4 q₄ => ?_) fun _ _ q => q))
 (refine x02 q₄ ?_; clear q₄; intro g₄ r9; refine x22 r9 ?_; clear r9; intro z1 z2 ht r)
 refine ⟨_, z1, z2, hk, fun b o n1 n2 e => hideAll_get _ (far.keep b o (fun q => n1 (q ▸ VO.mem)) (g12.keep _ _ e)) fun q => (mA.mp q).elim n1 n2, w3'.gr g₄, ht, r, .hit c' (g₄.keep _ _ hP3) (hr.keeps g₄.keep), ⟨fun b o nb e => g₄.keep _ _ (far.keep b o nb (g12.keep _ _ e)), Nat.le_trans g12.tok (Nat.le_trans far.tok g₄.tok)⟩⟩
end
end
section
noncomputable def s1_tail (a : Addr) (before : Nat) (s : SortSt) : Sem PySem.Fin := do
 let sorted := (arrOf s).map (·.2)
 let touched := (<- seqEpoch a) != before
 Builtin.List.listUpdate (.ref a) fun _ => sorted
 if let some e := failedOf s then rule "list.sort.comparison-raised"; throw e
 if touched then rule "list.sort.modified"; raiseError "ValueError" "list modified during sort"
 ret .none
noncomputable def s1_rest (a : Addr) (items : Array Value) (before : Nat) : Sem PySem.Fin := do
 let keys <- pure items
 let pairs := keys.zip items
 let kind <- if items.size < 2 then pure general' else keyKind' keys
 let ((), s) <- (if items.size < 2 then pure () else sortRuns').run (SortSt.mk' kind pairs #[] 7 none)
 s1_tail a before s
noncomputable def s1_tree (a : Addr) : Sem PySem.Fin := do
 let b <- pure false
 let items <- Builtin.List.listItems (.ref a)
 Builtin.List.listUpdate (.ref a) fun _ => #[]
 let before <- seqEpoch a
 let held <- newTuple items.toList
 let keyStore <- newList []
 holding [held, keyStore] (s1_rest a items before)
theorem s1_t (a : Addr) : Builtin.«list.sort» ⟨[.ref a], []⟩ = s1_tree a := rfl
theorem s1_l (a : Value) : argsOk "list.sort" ⟨[a], []⟩ := by unfold argsOk; kernel_rfl
theorem s1_s (a : Value) : argsOk "sorted" ⟨[a], []⟩ := by unfold argsOk; kernel_rfl
section
variable {c : Cx} {n : Nat} {A : Around} {s : Shared} {V : Addr -> Prop}
theorem sort_one {a : Addr} {v : Value} {e0 : Nat} {P : PySem.Fin -> Shared -> Prop} (s₀ : Shared) (g0 : Gr s₀ s) (han : s₀.heap.get? a = none) (ha : s.heap.get? a = some (listObj #[v] e0))
 (h : ∀ s' nn, Gr s₀ s' -> s'.heap.get? a = some (listObj #[v] nn) -> P (.done (.ret .none)) s') : wpAny c.M A (s1_tree a) P NoE s := by
 unfold s1_tree
 refine wB (wP (wB (wpAny_listItems ha rfl ?_)))
 have s1 := Heap.SameBut.update s.heap a (Obj.mapSeq fun _ => (#[] : Array Value))
 refine wB (listUpdate_at ha rfl ?_ (by rw [sizeLine_eq]; exact Nat.le_of_ble_eq_true rfl) (Nat.zero_le _))
 obtain ⟨m1, h1⟩ := get_upd ha fun _ => (#[] : Array Value)
 have g1 := upd_gr g0 s1 han
 refine wB (seqEpoch_at (s := { s with heap := s.heap.update a (Obj.mapSeq fun _ => (#[] : Array Value)) }) h1 rfl ?_)
 generalize s.heap.update a (Obj.mapSeq fun _ => (#[] : Array Value)) = h₁ at h1 g1
 refine wB (wpAny_newTuple (s := { s with heap := h₁ }) ?_ (by rw [sizeLine_eq]; exact Nat.le_of_ble_eq_true rfl))
 refine wB (wpAny_newList ?_ (Nat.zero_le _))
 refine wH ?_
 have g2 := g1.trans (Gr.push (s := { s with heap := h₁ }) { cls := .type "tuple", data := .seq #[v] })
 have g3 := g2.trans (Gr.push (s := { s with heap := h₁.push { cls := .type "tuple", data := .seq #[v] } }) (listObj #[] 0))
 have h3 : ((h₁.push { cls := .type "tuple", data := .seq #[v] }).push (listObj #[] 0)).get? a = some (listObj #[] m1) := Heap.get?_push_of_some _ (Heap.get?_push_of_some _ h1)
 generalize ((h₁.push { cls := .type "tuple", data := .seq #[v] }).push (listObj #[] 0)) = h₃ at h3 g3 ⊢
 unfold s1_rest
 refine wB (wP ?_)
 dsimp only
 erw [if_pos (by simp : (#[v] : Array Value).size < 2)]
 refine wB (wP ?_)
 erw [if_pos (by simp : (#[v] : Array Value).size < 2)]
 have hz : (#[v] : Array Value).zip (#[v] : Array Value) = #[(v, v)] := by apply Array.ext'; simp
 erw [hz]
 refine wB (wP ?_)
 show wpAny c.M A (s1_tail a m1 (SortSt.mk' general' #[(v, v)] #[] 7 none)) P NoE _
 unfold s1_tail
 have e1 : (arrOf (SortSt.mk' general' #[(v, v)] #[] 7 none)).map (·.2) = #[v] := by with_unfolding_all rfl
 dsimp only
 erw [e1]
 refine wB (seqEpoch_at (s := { s with heap := h₃ }) h3 rfl ?_)
 refine wB (listUpdate_at (s := { s with heap := h₃ }) h3 rfl ?_ (Nat.zero_le _) (by erw [sizeLine_eq]; exact Nat.le_of_ble_eq_true rfl))
 simp only [bne_self_eq_false, Bool.false_eq_true, if_false]
 obtain ⟨m, hm⟩ := get_upd h3 fun _ => #[v]
 exact wP (h _ m (upd_gr (s := { s with heap := h₃ }) g3 (Heap.SameBut.update h₃ a (Obj.mapSeq fun _ => #[v])) han) hm)
theorem sorted_items {r d : Addr} {x : Str} {v : Value} {ep : Nat} {Q : Value -> Shared -> Prop} (hn : A.handled = none) (hv : s.heap.IsItemsView r d) (hm : s.heap.DictAt (strKind c.prog c.w) d [(x, v)] ep)
 (h : ∀ s' a t nn, Gr s s' -> KdxG (strKind c.prog c.w) [(x, v)] s.heap.objs.size s'.heap [t] -> s.heap.get? a = none -> s'.heap.get? a = some (listObj #[.ref t] nn) -> Q (.ref a) s') :
 wpAny c.M A (call (.builtin "sorted") [.ref r]) Q NoE s := by
 refine wT (Nat.le_refl _) ?_
 refine Calls.call_function_entry kind_sorted plain_sorted entry_sorted (s1_s _) ?_
 unfold Builtin.«sorted»
 refine wB (m := checkCount "sorted" 1 1 _) (wP ?_)
 refine wB (kdx_collect (A := A.in1) (knd := strKind c.prog c.w) (kvs := [(x, v)]) (ep := ep) hn hv hm (by rw [sizeLine_eq]; exact Nat.le_of_ble_eq_true rfl) fun h₁ tk as hk hl hG => ?_)
 obtain ⟨t, rfl⟩ : ∃ t, as = [t] := by
  cases as with
  | nil => cases hl
  | cons t r =>
   cases r with
   | nil => exact ⟨t, rfl⟩
   | cons _ _ => cases hl
 refine wB (wpAny_newList ?_ (by rw [sizeLine_eq]; exact Nat.le_of_ble_eq_true rfl))
 have hoL : (h₁.push (listObj #[.ref t] 0)).get? h₁.objs.size = some (listObj #[.ref t] 0) := Heap.get?_push_size _ rfl
 refine wB (wH (wpAny_call_entry_kw slot_list_sort ⟨_, hoL, rfl⟩ entry_list_sort ?_ (s1_l _)))
 show wpAny _ _ (Builtin.«list.sort» ⟨[.ref h₁.objs.size], []⟩) _ _ _
 rw [s1_t]
 refine wM (sort_one (c := c) (P := fun fin s' => fin = .done (.ret .none) /\ Gr { s with heap := h₁, toks := tk } s' /\ ∃ nn, s'.heap.get? h₁.objs.size = some (listObj #[.ref t] nn)) (s := { s with heap := h₁.push (listObj #[.ref t] 0), toks := tk }) { s with heap := h₁, toks := tk } (Gr.push (s := { s with heap := h₁, toks := tk }) _) (get_size h₁) hoL fun s' nn g ho => ⟨rfl, g, nn, ho⟩) (fun fin s' q => ?_) fun _ _ q => q.elim
 obtain ⟨rfl, g, nn, ho⟩ := q
 refine ⟨.none, rfl, wP ⟨_, rfl, fun ht => ?_⟩⟩
 refine h s' h₁.objs.size t nn ⟨fun b o e => g.keep _ _ (hk _ _ e), ht, g.gens, g.os⟩ ⟨hG.rise, hG.above, fun j a hj => ?_⟩ ?_ ho
 · (refine x33 (hG.pairs j a hj) ?_; intro key k x' e1 e2 e3)
   exact ⟨key, k, x', e1, e2, g.keep _ _ e3⟩
 · cases e : s.heap.get? h₁.objs.size with
   | none => rfl
   | some o => exact absurd (Heap.lt_size (hk _ _ e)) (Nat.lt_irrefl _)
end
end
section
section
variable {c : Cx} {n : Nat} {sc : Scope} {k : Bool} {ρ : Sto}
theorem Ev.sortedItems {x : String} {p1 p2 p3 p4 p5 : Pos} {y : List Nat} {d : D} (hx : ρ.lookup x = some (.val (.dict [(y, d)]))) (hn : c.hn) (hb : c.mg (oS "sorted") = Option.none /\ c.mb (oS "sorted") = some (.builtin "sorted")) (hk : sc.names.lookup (oS "sorted") = some .globalImplicit)
 (hline : (p3.endLine == p4.line) = true) (hxd : x ≠ "__debug__" := by decide) :
 Ev c n sc k ρ (.Call (.Name (oS "sorted") p1) [.Call (.Attribute (.Name (oS x) p2) (oS "items") p3) [] [] p4] [] p5) (.list [.tuple [sd y, d]]) := Ev.weak <| .mk fun A env V0 h0 Cs X s hA F => by
 have he : eval (.Call (.Name (oS "sorted") p1) [.Call (.Attribute (.Name (oS x) p2) (oS "items") p3) [] [] p4] [] p5) env = (do callWith p5 (<- eval (.Name (oS "sorted") p1) env) [] (backTo p5 (starEach [.Call (.Attribute (.Name (oS x) p2) (oS "items") p3) [] [] p4] env)) (backToKw p5 (keywordEach [] env))) := rfl
 erw [he]
 refine wB (wM ((Ev.blt (n := n) (k := true) (ρ := ρ) hb.1 hb.2 hk).run A env V0 h0 Cs X s hA F) (fun fv s₁ q₁ => ?_) fun _ _ q => q.elim)
 obtain ⟨g₁, r₁⟩ := q₁
 cases r₁
 refine (Callee.builtin (c := c) "sorted").wp rfl (wI ?_ (starEach_cons rfl))
 refine wpAny_Call_method (T := "dict") (id := "dict.items") rfl rfl hline PySem.F.plainAttrs_dict PySem.F.slot_dict_items PySem.F.type_dict_items ?_
 refine wM ((Ev.name (n := n) (k := true) hx hxd).run A env V0 h0 Cs X s₁ hA (F.gr g₁)) (fun mv s2 q₂ => ?_) fun _ _ q => q.elim
 obtain ⟨g2', r₂⟩ := q₂
 have g₂ := g₁.trans g2'
 have F₂ := F.gr g₂
 (refine x34 r₂.dictA ?_; rintro na dv ep rfl hsys hD rv)
 have hD' := hD
 (refine x26 hD ?_; clear hD; intro o es ho hx' hd hks hps hnd)
 have hDO : s2.heap.DictOf (strKind c.prog c.w) na [(S y, dv)] := ⟨o, es, ep, ho, hx', hd, hks, hps, hnd⟩
 refine ⟨hDO.typeIs, fun b hb => by cases hb; exact ⟨o, ho, hx'.2.1⟩, (Callee.builtin (c := c) "dict.items").wp (first := [.ref na]) rfl ?_⟩
 refine wN ⟨F₂.base.trans F₂.keep, ?_⟩
 refine call_meetsIn PySem.F.slot_dict_items hDO.typeIs PySem.F.entry_dict_items (PySem.F.args_dict_items_1 _) (meets_dict_items (strKind c.prog c.w) na hsys) ⟨⟨_, hDO⟩, ?_⟩
 have g₃ : Gr s2 { s2 with heap := s2.heap.push { cls := .type "dict_items", data := .fields #[.ref na] } } := .push _
 have F₃ := F₂.gr g₃
 refine wN ⟨F₃.base.trans F₃.keep, ?_⟩
 refine sorted_items (c := c) (s := { s2 with heap := s2.heap.push { cls := .type "dict_items", data := .fields #[.ref na] } }) (hA.handled hn) ⟨_, Heap.get?_push_size _ rfl, rfl, rfl⟩ (hD'.push _) fun s' a t nn g hG han ho' => ?_
 (refine x33 (hG.pairs 0 t rfl) ?_; intro key kk x' e1 e2 e3)
 cases e1
 obtain ⟨tk, rfl⟩ := (isStrOf_iff c).mp e2
 have gg := (g₂.trans g₃).trans g
 have hlv := (F.st true).live
 have hnt : s.heap.get? t = Option.none := by
  cases e : s.heap.get? t with
  | none => rfl
  | some ob =>
   have h1 := Heap.lt_size (g₃.keep _ _ (g₂.keep _ _ e))
   exact absurd (hG.above t (.head _)) (Nat.not_lt.mpr (Nat.le_of_lt h1))
 refine ⟨gg, .list (fun q => ?_) ho' rfl ⟨rfl, rfl⟩ rfl (.cons (.tuple (fun q => ?_) e3 rfl ⟨rfl, rfl⟩ rfl (.cons (.str _ _) (.cons ((rv.gr g₃).gr g) .nil))) .nil)⟩
 · obtain ⟨ob, e⟩ := hlv _ q
   rw [gr_none g₂ (gr_none g₃ han)] at e; cases e
 · obtain ⟨ob, e⟩ := hlv _ q
   rw [hnt] at e; cases e
theorem ItemR.dict {kvs : List (List Nat × D)} {x : List Nat} {d : D} (h : kvs.lookup x = some d) : ItemR c (.dict kvs) (sd x) d := fun A V s v₁ v₂ _ _ r₁ r₂ => by
 obtain ⟨t, rfl⟩ := r₂.inv
 obtain ⟨a, _, _, _, rfl, _⟩ := r₁.inv
 (refine x13 r₁.map ?_; intro f hm hsm hf)
 have := hf x
 rw [h] at this
 (refine x12 this ?_; clear this; intro v hv rv)
 exact wp_end (wpAny_getItem_of (strKind_is c.prog c.w _ t) hm hv ⟨fun _ _ e => e, rfl, rfl, fun ht => rv.gr (Gr.toks ht)⟩)
theorem Ev.subD {value slice : Expr} {pos : Pos} {kvs : List (List Nat × D)} {x : List Nat} {d : D} (h1 : Ev c n sc k ρ value (.dict kvs)) (h2 : Ev c n sc k ρ slice (sd x)) (h : kvs.lookup x = some d)
 (hs : ∀ o i, subscripted slice false o i = operate [o, i] (getItem o i) := by intro _ _; rfl) : Ev c n sc k ρ (.Subscript value slice pos) d := Ev.sub h1 h2 rfl slot_dict_getitem.lookup (ItemR.dict h) hs
theorem FnR.dgetNone {kvs : List (List Nat × D)} {x : List Nat} (hx : kvs.lookup x = none) : FnR c n (.builtin "dict.get") [.dict kvs, sd x] .none := .mk fun A V s vs hA hS r => by
 replace r := r.o2
 (refine x23 r ?_; clear r; rintro _ _ rfl r r')
 obtain ⟨t, rfl⟩ := r'.inv
 obtain ⟨a, _, _, _, rfl, _⟩ := r.inv
 (refine x13 r.map ?_; intro f hm hsys hf)
 have := hf x
 rw [hx] at this
 refine call_meetsIn PySem.F.slot_dict_get hm.typeIs PySem.F.entry_dict_get (PySem.F.args_dict_get_2 _ _) (meets_dict_get (strKind c.prog c.w) a (strKind_is c.prog c.w (S x) t) hsys) ⟨f, hm, ?_⟩
 erw [this]
 exact ⟨Gr.toks (Nat.le_succ _), .none⟩
end
end
section
theorem noteFrame_congr {e : Value} {env env' : Env} (h : env.frame = env'.frame) : noteFrame e env = noteFrame e env' := by
 unfold noteFrame PySem.frameOf
 rw [h]
theorem FunFrames_any {h h' B : Heap} (k : ∀ b o, h.get? b = some o -> (∀ vs, o.data ≠ .fields vs) -> ∃ o', h'.get? b = some o' /\ ∀ vs, o'.data ≠ .fields vs) : ∀ {l : List Env}, h.FunFrames B l -> h'.FunFrames B l
 | [], x => x
 | env :: l, ⟨h1, ⟨L, o, a, b, c, d⟩, h3⟩ => let ⟨o', e, f⟩ := k L o c d; ⟨h1, ⟨L, o', a, b, e, f⟩, FunFrames_any k h3⟩
section
variable {M : Model} {A : Around} {E : Value -> Shared -> Prop} {s : Shared} {env : Env}
theorem setFlight_heldW {B : Heap} {l : List Env} {e L : Addr} {cls a0 : Value} {Q : Unit -> Shared -> Prop} (R : Heap.HeldW B l e cls a0 L s.heap)
 (h : ∀ h', Heap.HeldW B l e cls a0 L h' -> s.heap.UpToSlots h' -> Q () { s with heap := h' }) : wpAny M A (setFlight (.ref e) (some L)) Q E s := by
 (refine x04 R ?_; clear R; intro hkb hen hl r9; refine x59 r9 ?_; clear r9; intro oe vs T oT ts he hcls hd h1 hnT hTe hT hdT h3)
 have hsz3 : 3 < ts.size := (Array.getElem?_eq_some_iff.mp h3).1
 have other : ∀ b, b ≠ T -> (s.heap.update T (Obj.mapFields (·.setIfInBounds 3 ((some L).elim Value.none fun f => rawInt f)))).get? b = s.heap.get? b :=
  fun b hb => Heap.get?_update_other _ _ (Ne.symm hb)
 have noRecord : ∀ b o, s.heap.get? b = some o -> (∀ vs, o.data ≠ .fields vs) -> b ≠ T := fun b o hb hnf q => by
  rw [q, hT] at hb; injection hb with hb; subst hb; exact hnf ts hdT
 unfold setFlight
 refine wB (wpAny_field he hd h1 ?_)
 erw [if_pos (show (Value.ref T != Value.none) = true from by simp)]
 refine wpAny_setField hT hdT hsz3 (h _ ⟨fun b o hbo => (other b fun q => by rw [q, hnT] at hbo; cases hbo).trans (hkb b o hbo), hen,
  hl.of_keeps fun b o hb hnf => ⟨o, (other b (noRecord b o hb hnf)).trans hb, rfl⟩, ?_⟩ fun b o hb hnf => ⟨o.slots, (other b (noRecord b o hb hnf)).trans hb⟩)
 exact ⟨oe, vs, T, _, _, (other e (Ne.symm hTe)).trans he, hcls, hd, h1, hnT, hTe, Heap.get?_update_self _ hT (Obj.isFreed_of_fields (Obj.data_mapFields hdT _)), Obj.data_mapFields hdT _, by simp [hsz3]⟩
theorem held_same {B : Heap} {l : List Env} {e L C : Addr} {cls a0 : Value} {h h' : Heap} {m m' : Str -> Option Value} (R : Heap.HeldW B l e cls a0 L h) (hs : Heap.SameBut C h h') (hB : B.get? C = none) (hC : h.Ns C m) (hC' : h'.Ns C m') : Heap.HeldW B l e cls a0 L h' := by
 (refine x04 R ?_; clear R; intro hkb hen hl r9; refine x59 r9 ?_; clear r9; intro oe vs T oT ts he hcls hd h1 hnT hTe hT hdT h3)
 (refine x33 hC ?_; clear hC; intro oc es ep hc hcd _)
 (refine x33 hC' ?_; clear hC'; intro oc' es' ep' hc' hcd' _)
 refine ⟨fun b o q => (hs.2 b fun q' => by rw [q', hB] at q; cases q).trans (hkb b o q), hen, FunFrames_any (fun b o q nf => ?_) hl, oe, vs, T, oT, ts, (hs.2 e fun q => ?_).trans he, hcls, hd, h1, hnT, hTe, (hs.2 T fun q => ?_).trans hT, hdT, h3⟩
 · by_cases hb : b = C
   · exact ⟨oc', hb ▸ hc', fun vs q => by rw [hcd'] at q; cases q⟩
   · exact ⟨o, (hs.2 b hb).trans q, nf⟩
 · rw [q, hc] at he; cases he; rw [hcd] at hd; cases hd
 · rw [q, hc] at hT; cases hT; rw [hcd] at hdT; cases hdT
theorem passOn_held {α : Type} {what : String} {B : Heap} {l : List Env} {e L : Addr} {cls a0 : Value} {Q : α -> Shared -> Prop} (hf : env.frame = some L) (R : Heap.HeldW B l e cls a0 L s.heap)
 (h : ∀ h', Heap.HeldW B l e cls a0 L h' -> s.heap.UpToSlots h' -> E (.ref e) { s with heap := h' }) : wpAny M A (PySem.passOn what (.ref e) env : Sem α) Q E s := by
 have R' := R
 (refine x04 R ?_; clear R; intro hkb hen hl r9; refine x59 r9 ?_; clear r9; intro oe vs T oT ts he hcls hd h1 hnT hTe hT hdT h3)
 unfold PySem.passOn
 refine wB (wpAny_field he hd h1 ?_)
 erw [if_neg (show ¬ ((Value.ref T == Value.none) = true) from by simp), hf]
 refine wB (setFlight_heldW R' fun h' R'' hu => ?_)
 exact wpAny_throw (h h' R'' hu)
noncomputable def compPostX (M : Model) (A : Around) (E : Value -> Shared -> Prop) (cenv : Env) (r : Result) (s' : Shared) : Prop :=
 match r with
 | .ok _ => False
 | .error x => ∃ m, s'.heap.Ns cenv.locals m /\ ∀ h' m', h'.Ns cenv.locals m' -> Heap.SameBut cenv.locals s'.heap h' -> ∀ cenv' : Env, cenv'.frame = cenv.frame -> wpAny M A (PySem.passOn "comprehension.variables-let-go" x cenv' : Sem Value) (fun _ _ => False) E { s' with heap := h' }
theorem wpAny_comprehension_raises {e : Expr} {scope : Scope} {pos : Pos} {newAcc first : Sem Value} {g : Comprehension} {gs : List Comprehension} {cl : List (Str × Addr)}
 {Q : Value -> Shared -> Prop}
 (hcl : clausesOf e = g :: gs) (hs : ∀ x, foldedSetIterable g.iter env x = pure x) (hclos : closureFor scope env = pure cl)
 (hkind : scope.kind = .function) (hnames : ∀ x ∈ scope.names, x.2 = .local -> scope.names.lookup x.1 = some .local)
 (h : wpAny M A first (fun x s₁ => wpAny M A (pyIter x) (fun it s2 => wpAny M A newAcc (fun acc s₃ =>
  wpAny M A (newFunctionEnv scope env.globals cl [] env.qual none .none (some env)) (fun cenv s4 =>
   codeAny M A (.compStart e 0 it acc { cenv with scope := relabel scope env }) (compPostX M A E cenv) s4) E s₃) E s2) E s₁) E s) :
 wpAny M A (comprehension e scope env pos newAcc false first none) Q E s := by
 unfold comprehension
 erw [hclos, hcl]
 refine wB (wM h (fun x s₁ h₁ => wB (wZ (wB (wpAny_of_eq (hs x) (wB (wH (wM h₁ (fun it s2 h₂ =>
  wpAny_standIf (wB (wM h₂ (fun acc s₃ h₃ => wB (wP (wB (wM h₃ (fun cenv s4 h₄ => ?_) fun _ _ h' => h')))) fun _ _ h' => h')))
   fun _ _ h' => h'))))))) fun _ _ h' => h')
 dsimp only
 have hv : ∀ x ∈ (scope.names.filter fun x => (x.2 == .local || x.2 == .cell) && x.1 != (".0" : Str)).reverse, x.2 = .local ->
  Env.kindOf { cenv with scope := relabel scope env } x.1 = some .local := fun x hx hl => lookup_relabel_local (hnames x (List.mem_filter.mp (List.mem_reverse.mp hx)).1 hl)
 refine wH (wB (wpAny_attempt (wH (wpAny_run (codeAny_mono h₄ fun r s' hr => ?_)))))
 cases r with
 | ok f => exact hr.elim
 | error x =>
  (refine x12 hr ?_; clear hr; intro m hn hr)
  exact wB (wH (wpAny_comp_letGo (cenv := { cenv with scope := relabel scope env }) hkind _ s' m hv hn fun h' m' hm' hs' => wM (hr h' m' hm' hs' _ rfl) (fun _ _ f => f.elim) fun _ _ y => y))
end
structure FlyH (B : Heap) (l : List Env) (L : Addr) (T : String) (m : List Nat) (s : Shared) (ev : Value) (s' : Shared) : Prop where
 ex : ∃ e t tk, ev = .ref e /\ Heap.HeldW B l e (.type T) (.ref t) L s'.heap /\ s'.heap.TupAt t [.str (S m) tk] /\ B.get? t = none
 up : s.heap.UpToSlots s'.heap
 tok : s.toks <= s'.toks
 gens : GUp s'.gens s.gens
 os : s'.os = s.os
end
section
section
variable {c : Cx} {n : Nat} {sc : Scope} {ρ : Sto} {A : Around} {env : Env} {V0 : Addr -> Prop} {h0 : Heap} {Cs : List (Str × Addr)} {X : List Addr} {s : Shared} {Q : Flow -> Shared -> Prop} {E : Value -> Shared -> Prop}
theorem if_skip {t : Expr} {body : List Stmt} {pos : Pos} {rest : List Stmt} (hA : Room c n A) (F : Fm c sc env V0 h0 Cs X ρ s) (ht : Tst c n sc ρ t false) (k : ∀ s', Gr s s' -> wpAny c.M A (execs rest env) Q E s') :
 wpAny c.M A (execs (.If t body [] pos :: rest) env) Q E s := by
 refine wE (wpAny_If (wM (ht.run A env V0 h0 Cs X s hA F) (fun r s' q => ?_) fun _ _ q => q.elim))
 obtain ⟨g, rfl⟩ := q
 exact wpAny_execs_nil (k s' g)
theorem if_skip2 {t t2 : Expr} {body body2 : List Stmt} {pos pos2 : Pos} {rest : List Stmt} (hA : Room c n A) (F : Fm c sc env V0 h0 Cs X ρ s) (ht : Tst c n sc ρ t false) (ht2 : Tst c n sc ρ t2 false) (k : ∀ s', Gr s s' -> wpAny c.M A (execs rest env) Q E s') :
 wpAny c.M A (execs (.If t body [.If t2 body2 [] pos2] pos :: rest) env) Q E s := by
 refine wE (wpAny_If (wM (ht.run A env V0 h0 Cs X s hA F) (fun r s' q => ?_) fun _ _ q => q.elim))
 obtain ⟨g, rfl⟩ := q
 exact if_skip hA (F.gr g) ht2 fun s'' g' => wpAny_execs_nil (k s'' (g.trans g'))
theorem fly_leaves {B : Heap} {l : List Env} {T : String} {m : List Nat} {s₀ s₁ : Shared} {ev : Value} {M : Model} (hst : A.frames = some (env :: l)) (hf : env.frame = some env.locals) (fly : Fly B (env :: l) T m s₁ ev s) (g : Gr s₀ s₁) :
 wpAny M A (leaving env ev) (fun _ s'' => s₀.toks <= s''.toks -> Fly B l T m s₀ ev s'') (fun e' s'' => s₀.toks <= s''.toks -> Fly B l T m s₀ e' s'') s := by
 obtain ⟨⟨e, t, tk, rfl, hfl, htup, ht⟩, hu, htk, hg, ho⟩ := fly
 refine wpAny_leaves_onW hst hf hfl fun h' hfl' hu' htk' => ⟨⟨e, t, tk, rfl, hfl', htup.of_slots hu', ht⟩, ?_, htk', hg.trans g.gens, ho.trans g.os⟩
 exact ((Heap.UpToSlots.of_keeps g.keep).trans hu).trans hu'
end
structure EvX (c : Cx) (n : Nat) (sc : Scope) (ρ : Sto) (e : Expr) (T : String) (m : List Nat) : Prop where
 run : ∀ A env V0 h0 Cs X s B l, Room c n A -> Hnd A s.heap -> Fm c sc env V0 h0 Cs X ρ s -> Stk c A B l s.heap -> (∀ a ∈ l.filterMap (·.frame), V0 a \/ a = env.locals) -> wpAny c.M A (eval e env) (fun _ _ => False) (Fly B l T m s) s
structure EvJX (c : Cx) (n : Nat) (sc : Scope) (ρ : Sto) (es : List Expr) (T : String) (m : List Nat) : Prop where
 run : ∀ A env V0 h0 Cs X s B l out, Room c n A -> Hnd A s.heap -> Fm c sc env V0 h0 Cs X ρ s -> Stk c A B l s.heap -> (∀ a ∈ l.filterMap (·.frame), V0 a \/ a = env.locals) -> out.length + 1000 * es.length <= 1000000 -> wpAny c.M A (joinParts (S out) (evalEach es env)) (fun _ _ => False) (Fly B l T m s) s
section
variable {c : Cx} {n : Nat} {sc : Scope} {ρ : Sto} {T : String} {m : List Nat}
theorem Fly.gr {B : Heap} {l : List Env} {s s₁ s' : Shared} {ev : Value} (fly : Fly B l T m s₁ ev s') (g : Gr s s₁) : Fly B l T m s ev s' :=
 ⟨fly.ex, (Heap.UpToSlots.of_keeps g.keep).trans fly.up, Nat.le_trans g.tok fly.tok, fly.gens.trans g.gens, fly.os.trans g.os⟩
theorem Fm.volF {env V0 h0 Cs X s} (F : Fm c sc env V0 h0 Cs X ρ s) {a : Addr} (h : V0 a \/ a = env.locals) : Vol V0 X a := by
 rcases h with h | h
 · exact .inl h
 · obtain ⟨_, _, _, h2, _⟩ := F.sto
   exact .inr (by rw [h2, h]; exact .head _)
theorem EvX.call {f : Expr} {es : List Expr} {pos : Pos} {fv : Value} {ds : List D} (hf : Ev c n sc true ρ f (.val fv)) (hc : Callee c fv) (ha : EvL c n sc true ρ es ds) (h : FnX c n fv ds T m) (hp : es.all plainE = true := by rfl)
 (he : ∀ env : Env, eval (.Call f es [] pos) env = (do callWith pos (<- eval f env) [] (backTo pos (starEach es env)) (backToKw pos (keywordEach [] env))) := by intro _; rfl) : EvX c n sc ρ (.Call f es [] pos) T m :=
 .mk fun A env V0 h0 Cs X s B l hA hH F K hV => call_raises hA hH F K (fun a ha => F.volF (hV a ha)) hf hc ha h hp he
theorem EvX.fmt {e : Expr} {pos : Pos} (h : EvX c n sc ρ e T m) : EvX c n sc ρ (.FormattedValue e (-1) none pos) T m := .mk fun A env V0 h0 Cs X s B l hA hH F K hV =>
 FormattedValue_plain (wM (h.run A env V0 h0 Cs X s B l hA hH F K hV) (fun _ _ q => q.elim) fun _ _ q => q)
theorem EvJX.here {e : Expr} {es : List Expr} (h : EvX c n sc ρ e T m) : EvJX c n sc ρ (e :: es) T m := .mk fun A env V0 h0 Cs X s B l out hA hH F K hV hz =>
 joinParts_cons (wM (h.run A env V0 h0 Cs X s B l hA hH F K hV) (fun _ _ q => q.elim) fun _ _ q => q)
theorem EvJX.cons {e : Expr} {es : List Expr} {y : List Nat} (h : Ev c n sc true ρ e (sd y)) (hy : y.length <= 100) (hs : EvJX c n sc ρ es T m) : EvJX c n sc ρ (e :: es) T m := .mk fun A env V0 h0 Cs X s B l out hA hH F K hV hz => by
 simp at hz
 refine joinParts_cons (wM (h.run A env V0 h0 Cs X s hA F) (fun v s₁ q => ?_) fun _ _ q => q.elim)
 obtain ⟨g, r⟩ := q
 cases r with
 | str _ t =>
  refine ⟨by rw [S_append, S_length, sizeLine_eq]; simp; omega, ?_⟩
  rw [S_append]
  exact wM (hs.run A env V0 h0 Cs X s₁ B l (out ++ y) hA (hH.keeps g.keep) (F.gr g) (K.gr g) hV (by simp; omega)) (fun _ _ q => q) fun _ _ q => q.gr g
theorem EvX.joined {e₁ e₂ : Expr} {es : List Expr} {pos : Pos} (h : EvJX c n sc ρ (e₁ :: e₂ :: es) T m) (hl : es.length <= 100 := by decide) : EvX c n sc ρ (.JoinedStr (e₁ :: e₂ :: es) pos) T m := .mk fun A env V0 h0 Cs X s B l hA hH F K hV =>
 JoinedStr_many (h.run A env V0 h0 Cs X s B l [] hA hH F K hV (by simp; omega))
theorem EvX.ite {t a b : Expr} {pos : Pos} (h : Tst c n sc ρ t true) (ha : EvX c n sc ρ a T m) : EvX c n sc ρ (.IfExp t a b pos) T m := .mk fun A env V0 h0 Cs X s B l hA hH F K hV =>
 wpAny_IfExp (wM (h.run A env V0 h0 Cs X s hA F) (fun r s' q => by
  obtain ⟨g, rfl⟩ := q
  exact wM (ha.run A env V0 h0 Cs X s' B l hA (hH.keeps g.keep) (F.gr g) (K.gr g) hV) (fun _ _ q => q) fun _ _ q => q.gr g) fun _ _ q => q.elim)
end
section
variable {c : Cx} {n : Nat}
theorem last_raises {sc : Scope} {ρ : Sto} {T : String} {m : List Nat} {e : Expr} {pos : Pos} {rest : List Stmt} {A : Around} {env : Env} {V h0 Cs X B l} {s s₁ : Shared} {Q : Flow -> Shared -> Prop} (h : EvX c n sc ρ e T m) (hA : Room c n (A.deeper env)) (hH : Hnd A s.heap) (KK : Stk c A B l s.heap) (hV : ∀ a ∈ l.filterMap (·.frame), V a)
 (hf : env.frame = some env.locals) (hnl : s.heap.get? env.locals = none) (g : Gr s s₁) (F : Fm c sc env V h0 Cs X ρ s₁) (hsw : swapsWith e none pos.line env = pure false) :
 wpAny c.M (A.deeper env) (execs (.Expr e pos :: rest) env) Q (fun e s' => wpAny c.M (A.deeper env) (leaving env e) (fun _ s'' => s.toks <= s''.toks -> Fly B l T m s e s'') (fun e' s'' => s.toks <= s''.toks -> Fly B l T m s e' s'') s') s₁ := by
 have K4 := F.stk hf hnl KK g
 have hint : interactive env = false := by
  unfold interactive
  erw [F.scope, F.kind]; rfl
 have hVX : ∀ b ∈ (env :: l).filterMap (·.frame), V b \/ b = env.locals := fun b hb => by
  rw [List.filterMap_cons, hf] at hb
  rcases mC.mp hb with q | q
  · exact .inr q
  · exact .inl (hV b q)
 exact wE (wpAny_Expr_any (wM (h.run (A.deeper env) env V h0 Cs X s₁ B (env :: l) hA (hH.keeps g.keep) F K4 hVX) (fun _ _ q => q.elim) fun ev s5 fly => fly_leaves K4.stack hf fly g) hint hsw)
end
end
section
theorem Ns_up {h h' : Heap} {a : Addr} {m : Str -> Option Value} (x : h.Ns a m) (u : h.UpToSlots h') : h'.Ns a m := by
 (refine x33 x ?_; clear x; intro o es ep ho hd r)
 obtain ⟨sl, e⟩ := u a o ho fun vs q => by rw [hd] at q; cases q
 exact ⟨_, es, ep, e, hd, r⟩
theorem upTo_same {h₀ h h' : Heap} {C : Addr} (u : h₀.UpToSlots h) (hs : Heap.SameBut C h h') (hn : h₀.get? C = none) : h₀.UpToSlots h' := fun b o e nf => by
 obtain ⟨sl, e'⟩ := u b o e nf
 exact ⟨sl, (hs.2 b fun q => by rw [q, hn] at e; cases e).trans e'⟩
section
variable {c : Cx} {n : Nat} {sc : Scope} {ρ ρi : Sto} {A : Around} {env : Env} {V0 : Addr -> Prop} {h0 : Heap} {Cs : List (Str × Addr)} {X : List Addr} {s : Shared} {B : Heap} {l : List Env}
theorem comp_raises {elt tgt iter : Expr} {scope : Scope} {pos : Pos} {d₀ d : D} {ds : List D} {T : String} {m : List Nat} (hA : Room c n A) (hH : Hnd A s.heap) (F : Fm c sc env V0 h0 Cs X ρ s) (K : Stk c A B (env :: l) s.heap) (hV : ∀ a ∈ (env :: l).filterMap (·.frame), V0 a \/ a = env.locals)
 (hf : env.frame = some env.locals) (he : Ev c n sc true ρ iter d₀) (hit : IterR c d₀ (d :: ds)) (hc : Capt sc scope ρ ρi) (item : ∃ ρ1, TgtG false c (relab sc scope) tgt d ρi ρ1 /\ EvX c n (relab sc scope) ρ1 elt T m)
 (hn : c.hn) (hs : ∀ (env : Env) x, foldedSetIterable iter env x = pure x := by intro _ _; rfl) :
 wpAny c.M A (eval (.ListComp elt [⟨tgt, iter, [], 0⟩] scope pos) env) (fun _ _ => False) (FlyH B (env :: l) env.locals T m s) s := by
 rw [eval_ListComp]
 refine hideE fun E' hE => ?_
 refine hideG fun G KG => ?_
 (refine x13 (closure_of (scope := scope) (env := env) fun p hp hf => F.ccells _ (hc.free p hp hf)) ?_; intro cl hcl hclf hcle)
 refine KG (wpAny_comprehension_raises rfl (hs env) hcl hc.kind hc.names (wM (he.run A env V0 h0 Cs X s hA F) (fun xv s₁ q₁ => ?_) fun _ _ q => q.elim))
 refine wM (hit A _ s₁ xv hA.zero ((F.st true).gr q₁.1) q₁.2) (fun itv s2 q₂ => ?_) fun _ _ q => q.elim
 refine hideG fun G KG => ?_
 (refine x02 q₂ ?_; clear q₂; intro g₂ r9; refine x13 r9 ?_; clear r9; rintro it rfl hitn hi)
 have hVV : VK true V0 X = Vol V0 X := by funext a; simp [VK]
 rw [hVV] at hi
 have g12 := q₁.1.trans g₂
 have hits : s.heap.get? it = none := get_none_of q₁.1 hitn
 refine KG (wpAny_newObj_type (wpAny_newFunctionEnv hc.nocell (fun _ h => nomatch h) (fun h₁ hns₁ hsb1 => ?_) hc.kind))
 have hk0 : Keeps s2.heap (s2.heap.push { cls := .type "list", dict := none, data := .seq ([] : List Value).toArray }) := fun b o e => Heap.get?_push_of_some _ e
 have hDn : s2.heap.get? s2.heap.objs.size = none := get_size _
 have hCn : s2.heap.get? (s2.heap.push { cls := .type "list", dict := none, data := .seq ([] : List Value).toArray }).objs.size = none := by
  cases e : s2.heap.get? (s2.heap.push { cls := .type "list", dict := none, data := .seq ([] : List Value).toArray }).objs.size with
  | none => rfl
  | some o => have := hk0 _ _ e; rw [get_size] at this; cases this
 have hDC : s2.heap.objs.size ≠ (s2.heap.push { cls := .type "list", dict := none, data := .seq ([] : List Value).toArray }).objs.size := by rw [Heap.size_push]; exact Nat.ne_of_lt (Nat.lt_succ_self _)
 have hDh : h₁.get? s2.heap.objs.size = some { cls := .type "list", dict := none, data := .seq ([] : List Value).toArray } := (hsb1.2 _ hDC).trans (Heap.get?_push_of_some _ (Heap.get?_push_size _ rfl))
 have hk1 : Keeps s2.heap h₁ := fun b o e => (hsb1.2 b fun q => by rw [q, hCn] at e; cases e).trans (Heap.get?_push_of_some _ (hk0 b o e))
 generalize s2.heap.objs.size = Dd at hDn hDC hDh ⊢
 generalize (s2.heap.push { cls := .type "list", dict := none, data := .seq ([] : List Value).toArray }).objs.size = C at hCn hDC hns₁ ⊢
 have g23 : Gr s2 { s2 with heap := h₁, toks := s2.toks + ([] : List (Str × Value)).length } := ⟨hk1, Nat.le_add_right _ _, .rfl, rfl⟩
 show codeAny c.M A (.compStart (.ListComp elt [⟨tgt, iter, [], 0⟩] scope pos) 0 (.ref it) (.ref Dd) (compEnvC scope cl C env)) (compPostX c.M A E' (newEnv scope C env.globals cl env.qual none .none (some env) builtinsNs)) { s2 with heap := h₁, toks := s2.toks + ([] : List (Str × Value)).length }
 have hDh' : ({ s2 with heap := h₁, toks := s2.toks + ([] : List (Str × Value)).length } : Shared).heap.get? Dd = some { cls := .type "list", dict := none, data := .seq ([] : List Value).toArray } := hDh
 have hns' : ({ s2 with heap := h₁, toks := s2.toks + ([] : List (Str × Value)).length } : Shared).heap.Ns C fun x => ([] : List (Str × Value)).reverse.lookup x := hns₁
 generalize ({ s2 with heap := h₁, toks := s2.toks + ([] : List (Str × Value)).length } : Shared) = s₃ at g23 hDh' hns' ⊢
 have hDs := get_none_of g12 hDn
 have hCs := get_none_of g12 hCn
 have hlv := (F.st true).live
 have hitalive : ∃ o, s2.heap.get? it = some o := let ⟨o, _, _, e, _⟩ := hi.fields; ⟨o, e⟩
 have hitD : it ≠ Dd := fun q => by obtain ⟨o, e⟩ := hitalive; rw [q, hDn] at e; cases e
 have hitC : it ∉ [C] := fun q => by obtain ⟨o, e⟩ := hitalive; rw [mSz.mp q, hCn] at e; cases e
 have hitV : ¬ (Vol V0 X it \/ it = Dd) := fun q => q.elim (fun q => by obtain ⟨o, e⟩ := hlv it ⟨rfl, q⟩; rw [hits] at e; cases e) hitD
 have J : CJ c (relab sc scope) (compEnvC scope cl C env) (fun a => Vol V0 X a \/ a = Dd) C Dd ρi s [] s₃ := ⟨g12.trans g23, capt_fm F g12 hc hclf hcle g23 hDn hCn hDC ⟨_, hDh'⟩ hns', _, _, 0, hDh', rfl, ⟨rfl, rfl⟩, rfl, .nil⟩
 have hi3 : ItAt c (Vol (fun a => Vol V0 X a \/ a = Dd) [C]) s₃ it (d :: ds) := by
  have na : ∀ (a : Addr) (o : Obj), ¬ Vol V0 X a -> s2.heap.get? a = some o -> ¬ Vol (fun a => Vol V0 X a \/ a = Dd) [C] a /\ s₃.heap.get? a = some o := fun a o na e => ⟨fun q => (by
   rcases q with (q | q) | q
   · exact na q
   · rw [q, hDn] at e; cases e
   · rw [mSz.mp q, hCn] at e; cases e), g23.keep _ _ e⟩
  exact hi.carry (fun o e => g23.keep _ _ e) na fun r => r.mapA rfl fun a o n e _ => na a o n e
 have hBC : B.get? C = none := by
  cases e : B.get? C with
  | none => rfl
  | some o => have := K.stays _ _ e; rw [hCs] at this; cases this
 have loop : codeAny c.M A (.compLoop (.ListComp elt [⟨tgt, iter, [], 0⟩] scope pos) 0 (.ref it) (.ref Dd) (compEnvC scope cl C env)) (compPostX c.M A E' (newEnv scope C env.globals cl env.qual none .none (some env) builtinsNs)) s₃ := by
  refine codeAny_loop rfl (fun _ s' => s' = s₃) (fun k s' hI => ?_) 0 rfl
  subst hI
  show wpAny _ A ((compTurn (.ListComp elt [⟨tgt, iter, [], 0⟩] scope pos) 0 (.ref it) (.ref Dd) (compEnvC scope cl C env)).onRaise (fun x => do noteFrame x (compEnvC scope cl C env); theTreesLotGoes x)) _ _ s'
  refine wpAny_noted ?_
  rw [compTurn_list]
  refine wB (wZ (wB (wM (ItAt.next hi3) (fun r s4 q => ?_) fun _ _ q => q.elim)))
  refine hideG fun G KG => ?_
  (refine x14 q ?_; clear q; rintro v rfl rv hi4 t)
  have J4 := J.step hi3 t hits hitC hitD hitV
  (refine x12 item ?_; clear item; intro ρ1 htg hx)
  refine KG (wB (lotg hi4 (wB (wM (htg.run A _ _ s.heap [] [C] s4 v hA.zero (fun q => nomatch q) J4.fm rv) (fun _ s5 q => ?_) fun _ _ q => q.elim))))
  refine hideG fun G KG => ?_
  (refine x12 q ?_; clear q; intro X5 g5 F5)
  have g05 : Gr s s5 := ⟨fun b o e => g5.keep b o (fun q => by rw [mSz.mp q, hCs] at e; cases e) (J4.gr.keep b o e), Nat.le_trans J4.gr.tok g5.tok, g5.gens.trans J4.gr.gens, g5.os.trans J4.gr.os⟩
  refine KG (wB (wP ?_))
  dsimp only
  erw [if_pos rfl]
  refine wB (wB (wM (hx.run A _ _ s.heap [] X5 s5 B (env :: l) hA (hH.keeps g05.keep) F5 (K.gr g05) fun a ha => .inl (.inl (F.volF (hV a ha)))) (fun _ _ q => q.elim) fun ev s6 fly => ?_))
  obtain ⟨⟨e, t', tk, rfl, hfl, htup, htn⟩, hu, htk, hg6, ho6⟩ := fly
  have hnt : noteFrame (.ref e) (compEnvC scope cl C env) = noteFrame (.ref e) env := noteFrame_congr rfl
  unfold notedBy
  erw [hnt]
  refine wpAny_looks_onW K.stack hf hfl fun h₇ hh7 hu7 => ?_
  have hCX : (compEnvC scope cl C env).locals = C := rfl
  obtain ⟨m5, fps, hns5, _⟩ := F5.sto
  rw [hCX] at hns5
  have hns7 : h₇.Ns C m5 := Ns_up (Ns_up hns5 hu) hu7
  refine ⟨m5, hns7, fun h₈ m8 hns8 hs8 cenv' hfr' => ?_⟩
  have hL : cenv'.frame = some env.locals := hfr'.trans hf
  refine passOn_held (s := { s6 with heap := h₈ }) hL (held_same hh7 hs8 hBC hns7 hns8) fun h₉ hh9 hu9 => ?_
  have hu57 : s.heap.UpToSlots h₇ := ((Heap.UpToSlots.of_keeps g05.keep).trans hu).trans hu7
  have htup9 : h₈.TupAt t' [.str (S m) tk] := by
   have h7 := (htup.of_slots hu7)
   (refine x23 h7 ?_; clear h7; intro ot nt b1 b2 b3)
   refine ⟨ot, nt, (hs8.2 t' fun q => ?_).trans b1, b2, b3⟩
   (refine x33 hns7 ?_; clear hns7; intro oc es ep hc' hcd _)
   have hs8' : (newEnv scope C env.globals cl env.qual none .none (some env) builtinsNs).locals = C := rfl
   rw [hs8'] at q
   rw [q] at b1
   rw [b1] at hc'; cases hc'; rw [hcd] at b3; cases b3
  exact hE _ _ ⟨⟨e, t', tk, rfl, hh9, htup9.of_slots hu9, htn⟩, ((upTo_same hu57 hs8 hCs).trans hu9), Nat.le_trans g05.tok htk, hg6.trans g05.gens, ho6.trans g05.os⟩
 exact codeAny_compStart_list loop (hi3.self loop)
end
end
section
noncomputable def lamPos : Pos := match (show Option Stmt from (mbd 8)[6]?) with
 | some (.Assign _ (.DictComp _ _ [⟨_, .Call _ _ [⟨_, .Lambda _ _ _ p, _⟩] _, _, _⟩] _ _) _) => p
 | _ => ⟨0, 0, 0, 0⟩
noncomputable abbrev stPs : List String := ["self", "tag", "attrs", "new_namespaces", "qname_text"]
noncomputable def stQual : Str := (oS "C14NWriterTarget._start" ++ oS ".<locals>.") ++ oS "<lambda>"
structure SF (c : Cx) (K : Frag) (P : Addr) : Prop where
 hn : c.hn
 XK : K.In c.base
 OK : ClsOk K 171
 flds : ∀ y ∈ initNames, findIn K (.ref 171) (oS y) = some none
 iter : Mth K "_iter_namespaces" 96
 gen : GenOk c 96 (msc 1) (mbd 1)
 cal : Callee c (.ref 96)
 q : ∀ vs : List Value, vs.length = 2 -> IsDefB c 111 (msc 3) ["self", "qname", "uri"] (mbd 3) ⟨vs, []⟩ (vs ++ [.none])
 qnl : ¬ c.lsc (msc 3)
 qm : Mth K "_qname" 111
 qget : specialIn K (.ref 111) "__get__" = some (some (.builtin "function.__get__"))
 qtk : takesIn K (.ref 111) = some false
 qfd : ∃ o fd, c.base.get? 111 = some o /\ o.data = .func fd
 set : c.mg (oS "set") = none /\ c.mb (oS "set") = some (.type "set")
 sorted : c.mg (oS "sorted") = none /\ c.mb (oS "sorted") = some (.builtin "sorted")
 code : CodeHd c.base 146 P
 kcode : kdsCode K (.ref 146) = true
 B : c.base.BuiltinsAt c.mg P
 esc : c.mg (oS "_escape_attrib_c14n") = some (.ref 189)
 escC : Callee c (.ref 189)
 st : ∀ vs : List Value, vs.length = 4 -> DefX c 147 (msc 8) (mbd 8) fun fd => (∀ s : Shared, Keeps c.base s.heap -> BindsTo s fd ⟨vs, []⟩ (bindsOf stPs (vs ++ [.none]))) /\ fd.code = .ref 146 /\ fd.qualname = oS "C14NWriterTarget._start"
 stO : DefOk (msc 8) stPs
 stN : ¬ c.lsc (msc 8)
 stM : Mth K "_start" 147
 stC : Callee c (.ref 147)
 sm : IsDef c 141 (msc 7) ["self", "tag", "attrs"] (mbd 7)
 smM : Mth K "start" 141
 smC : Callee c (.ref 141)
 cm : IsDef c 161 (msc 10) ["self", "text"] (mbd 10)
 cmM : Mth K "comment" 161
 cmC : Callee c (.ref 161)
 pm : IsDef c 168 (msc 11) ["self", "target", "data"] (mbd 11)
 pmM : Mth K "pi" 168
 pmC : Callee c (.ref 168)
 cd : c.mg (oS "_escape_cdata_c14n") = some (.ref 182)
 cdC : Callee c (.ref 182)
noncomputable def SFs (c : Cx) (K : Frag) (P : Addr) : Prop := ∀ B, Keeps c.base B -> SF (c.at B) K P
theorem SFs.at {c : Cx} {K : Frag} {P : Addr} (S : SFs c K P) {B : Heap} (k : Keeps c.base B) : SFs (c.at B) K P := fun B' k' => S B' (k.trans k')
theorem SFs.here {c : Cx} {K : Frag} {P : Addr} (S : SFs c K P) : SF c K P := S c.base (Keeps.refl _)
structure WW (c : Cx) (W : WA) (na : Addr) : Prop where
 st : WSt 171 W c.base
 gl : GLists c.base W.da W.l0 na (.ref W.ta)
theorem WW.at {c : Cx} {W : WA} {na : Addr} (x : WW c W na) {B : Heap} (k : Keeps c.base B) : WW (c.at B) W na := ⟨x.st.keeps k, x.gl.keep fun b o vs e _ => k _ _ e⟩
theorem SF.wb {c : Cx} {K : Frag} {P na : Addr} {W : WA} (S : SF c K P) (x : WW c W na) : WB c K W := ⟨S.hn, S.XK, S.OK, S.flds, x.st⟩
section
variable {c : Cx} {n : Nat} {K : Frag} {W : WA} {P na : Addr} {z : List Nat}
theorem SF.qname (S : SF c K P) (x : WW c W na) (hz : z = cs "a" \/ z = cs "k") : FnC c (n + 2) (.ref 111) [.val (.ref W.wa), sd z] (.tuple [sd z, sd z, sd []]) :=
 qname_fn (S.wb x) x.gl S.iter S.gen S.cal S.q S.qnl S.set hz
theorem CmpR.isNotN {d : D} (h : d = .none) : CmpR c .IsNot d .none false := fun A V s v₁ v₂ hA _ r₁ r₂ => by
 subst h
 cases r₁.inv
 cases r₂.inv
 exact wpAny_isNot_plain rfl ⟨.refl s, rfl⟩
theorem TruR.pair {y : List Nat} {d : D} : TruR c (.dict [(y, d)]) true := fun A V s v _ _ r => by
 (refine x34 r.dictA ?_; rintro a dv ep rfl hsm hD _)
 (refine x26 hD ?_; clear hD; intro o es ho hx' hd hks hps hnd)
 exact wp_end (wpAny_truthy_dict (knd := strKind c.prog c.w) hsm ⟨o, es, ep, ho, hx', hd, hks, hps, hnd⟩ (by simp) ⟨fun _ _ e => e, rfl, rfl, fun _ => rfl⟩)
theorem TruR.base {a : Addr} (h : c.base.IsList a #[]) : TruR c (.val (.ref a)) false := fun A V s v hA hS r => by
 cases r.inv
 (refine x13 h ?_; clear h; intro o ho hcl r9; obtain ⟨n, hd⟩ := r9)
 exact wp_end (wpAny_truthy_list ⟨o, hS.keep _ _ ho, hcl, n, hd⟩ (by simp) ⟨fun _ _ e => e, rfl, rfl, fun _ => rfl⟩)
end
end
section
noncomputable def allVal (ρ : Sto) : Bool := ρ.all fun p => match p.2 with | .val _ => true | _ => false
theorem allVal.to {ρ : Sto} (h : allVal ρ = true) : ∀ p ∈ ρ, ∃ d, p.2 = .val d := fun p hp => by
 have := List.all_eq_true.mp h p hp
 obtain ⟨x, sl⟩ := p
 cases sl with
 | val d => exact ⟨d, rfl⟩
 | _ => cases this
noncomputable def plainL : List Slot -> Bool
 | [] => true
 | .val _ :: l => plainL l
 | _ :: _ => false
noncomputable def plainS (ρ : Sto) : Bool := ρ.all fun p => match p.2 with | .val _ => true | .ownO _ l => plainL l | .res _ => false
theorem RepSL.plain {c : Cx} {V : Addr -> Prop} {s : Shared} : ∀ {sl : List Slot} {vs : List Value} {fp : List Addr}, RepSL c V s sl vs fp -> plainL sl = true -> fp = []
 | [], _, _, r, _ => r.inv.2
 | .val d :: l, _, _, r, h => by
  obtain ⟨v, vs', fp1, fp2, _, rfl, r1, rs⟩ := r.inv
  rw [r1.inv.1, RepSL.plain rs h]; rfl
 | .ownO _ _ :: _, _, _, _, h => nomatch h
 | .res _ :: _, _, _, _, h => nomatch h
theorem StoR.nof {c : Cx} {env : Env} {V : Addr -> Prop} {s : Shared} {m : Str -> Option Value} {ρ : Sto} {fps : List Addr} (h : StoR c env V s m ρ fps) : plainS ρ = true -> ∀ a ∈ fps, ∀ o, s.heap.get? a = some o -> ∀ vs, o.data ≠ .fields vs := by
 induction h with
 | nil => intro _ a ha; cases ha
 | @cons x sl v fp ρ fps l r _ ih =>
  intro hp a ha o ho vs hd
  simp only [plainS, List.all_cons, Bool.and_eq_true] at hp
  rcases mA.mp ha with ha | ha
  · cases sl with
    | val d => rw [r.inv.1] at ha; cases ha
    | res R => cases hp.1
    | ownO q l =>
     obtain ⟨b, ob, ws, n, fpi, _, rfl, _, hob, _, _, hdt, rl⟩ := r.inv
     rw [RepSL.plain rl hp.1] at ha
     rw [mSz.mp ha] at ho
     rw [hob] at ho; cases ho; rw [hdt] at hd; cases hd
  · exact ih hp.2 a ha o ho vs hd
theorem Fm.nofieldsP {c : Cx} {sc : Scope} {env : Env} {V0 : Addr -> Prop} {h0 : Heap} {Cs : List (Str × Addr)} {X : List Addr} {ρ : Sto} {s : Shared} (F : Fm c sc env V0 h0 Cs X ρ s) (hρ : plainS ρ = true) : ∀ a ∈ X, ∀ o, s.heap.get? a = some o -> ∀ vs, o.data ≠ .fields vs := by
 obtain ⟨m, fps, h1, h2, h3, h4, h6, h5⟩ := F.sto
 intro a ha o ho vs hd
 rw [h2] at ha
 rcases mC.mp ha with rfl | ha
 · (refine x33 h1 ?_; clear h1; intro ob es ep e hdd _)
   rw [e] at ho; cases ho
   rw [hdd] at hd; cases hd
 · rcases mA.mp ha with ha | ha
   · (refine x12 (List.mem_map.mp ha) ?_; rintro p hp rfl)
     (refine x22 (h6 p hp) ?_; intro v ob e hdd)
     rw [e] at ho; cases ho
     rw [hdd] at hd; cases hd
   · exact h5.nof hρ a ha o ho vs hd
section
variable {c c' : Cx} {n : Nat} {sc : Scope} {env : Env} {Cs : List (Str × Addr)} {X X' : List Addr} {ρ ρ' : Sto} {s s' s₀ : Shared} {vl : List Addr} {A : Around} {P : Addr} {qual : Str} {pos : Pos}
theorem Wk.nofields (w : Wk c sc env vl Cs s₀ X ρ s) (h : plainS ρ = true) : ∀ a ∈ X, ∀ o, s.heap.get? a = some o -> ∀ vs, o.data ≠ .fields vs := let ⟨_, F, _⟩ := w.fm; F.nofieldsP h
structure Wq (c : Cx) (sc : Scope) (env : Env) (vl : List Addr) (Cs : List (Str × Addr)) (s₀ : Shared) (X : List Addr) (ρ : Sto) (s : Shared) (P : Addr) (qual : Str) (pos : Pos) : Prop where
 w : Wk c sc env vl Cs s₀ X ρ s
 hP : PSt P qual pos s.heap
 kv : ∀ a ∈ vl, a ≠ P -> ∀ o, s₀.heap.get? a = some o -> s.heap.get? a = some o
theorem Wq.next (q : Wq c sc env vl Cs s₀ X ρ s P qual pos) (hv : plainS ρ = true) (hPl : P ∈ vl) (t : Stp X s X' s') (w' : Wk c' sc env vl Cs s₀ X' ρ' s') : Wq c' sc env vl Cs s₀ X' ρ' s' P qual pos := by
 have hnX : ∀ a ∈ vl, a ∉ X := fun a h => (q.w.live0 a h).2
 refine ⟨w', ?_, fun a h hne o e => t.keep _ _ (hnX a h) (q.kv a h hne o e)⟩
 cases q.hP with
 | miss h => exact .miss (t.keep _ _ (hnX P hPl) h)
 | hit c1 h1 h2 =>
  refine .hit c1 (t.keep _ _ (hnX P hPl) h1) ?_
  (refine x44 h2 ?_; clear h2; intro c2 oc vs tq e1 e2 hd h3)
  exact ⟨c2, oc, vs, tq, e1, t.keep _ _ (fun hx => q.w.nofields hv c2 hx oc e2 vs hd) e2, hd, h3⟩
theorem Wq.gr (q : Wq c sc env vl Cs s₀ X ρ s P qual pos) (hv : plainS ρ = true) (hPl : P ∈ vl) (g : Gr s s') : Wq c sc env vl Cs s₀ X ρ s' P qual pos := q.next hv hPl (.of_gr g) (q.w.gr g)
theorem Wq.vo (q : Wq c sc env vl Cs s₀ X ρ s P qual pos) (VO : VlOk vl P s₀.heap) : VlOk vl P s.heap := ⟨VO.mem, fun a ha => by
 by_cases h : a = P
 · exact .inl h
 · rcases VO.seq a ha with q' | ⟨o, e, hd⟩
   · exact .inl q'
   · exact .inr ⟨o, q.kv a ha h o e, hd⟩⟩
theorem Wk.hid (w : Wk c sc env vl Cs s₀ X ρ s) {a : Addr} {o : Obj} (hn : s.heap.get? a = none) (e : s'.heap.get? a = some o) : (hideAll s'.heap (vl ++ X)).get? a = some o :=
 hideAll_get _ e fun q => by
  rcases mA.mp q with q | q
  · obtain ⟨o', e'⟩ := (w.live0 a q).1; rw [hn] at e'; cases e'
  · obtain ⟨o', e'⟩ := w.liveX a q; rw [hn] at e'; cases e'
section
variable {st : Stmt} {rest : List Stmt} {Q : Flow -> Shared -> Prop} {E : Value -> Shared -> Prop}
theorem Wq.sn {ρ2 : Sto} (q : Wq c sc env vl Cs s₀ X ρ s P qual pos) (hv : plainS ρ = true) (hPl : P ∈ vl) (hA : Room c n A) (hO : OwnT c A env sc Cs) (h : Sn c n sc ρ st ρ2)
 (k : ∀ X' s', Wq c sc env vl Cs s₀ X' ρ2 s' P qual pos -> wpAny c.M A (execs rest env) Q E s') : wpAny c.M A (execs (st :: rest) env) Q E s :=
 q.w.sn hA hO h fun X' s' t w' => k X' s' (q.next hv hPl t w')
theorem Wq.sx {G : Sto -> Prop} (q : Wq c sc env vl Cs s₀ X ρ s P qual pos) (hv : plainS ρ = true) (hPl : P ∈ vl) (hA : Room c n A) (hO : OwnT c A env sc Cs) (h : Sx c n sc ρ st fun af ρ' => af = .next /\ G ρ')
 (k : ∀ X' ρ' s', G ρ' -> Wq c sc env vl Cs s₀ X' ρ' s' P qual pos -> wpAny c.M A (execs rest env) Q E s') : wpAny c.M A (execs (st :: rest) env) Q E s :=
 q.w.sx hA hO h (fun _ _ p => p.1) fun X' ρ' s' p t w' => k X' ρ' s' p.2 (q.next hv hPl t w')
end
end
end
section
section
variable {c : Cx} {n : Nat} {env : Env} {Cs : List (Str × Addr)} {X : List Addr} {s s₀ : Shared} {vl : List Addr} {A : Around} {P na : Addr} {K : Frag} {W : WA} {d : D} {Q : Flow -> Shared -> Prop} {E : Value -> Shared -> Prop}
theorem Ev.dict0 {sc : Scope} {k : Bool} {ρ : Sto} {pos : Pos} : Ev c n sc k ρ (.Dict [] [] pos) (.dict []) := Ev.weak <| .mk fun A env V0 h0 Cs X s hA F => by
 rw [eval_Dict_empty]
 refine wB (wZ ?_)
 unfold newDict
 refine wB (wpAny_alloc (wP ⟨.push _, .dict (fun q => ?_) ?_ (Heap.get?_push_size _ rfl) ⟨rfl, rfl, rfl⟩ rfl .nil⟩))
 · obtain ⟨o, e⟩ := (F.st true).live _ q
   rw [get_size] at e; cases e
 · (refine x32 ((F.good.g.keeps F.base).keeps F.keep) ?_; intro _ _ _ e _)
   have := Heap.lt_size e
   have h3 : (3 : Nat) < s.heap.objs.size := this
   have : s.heap.objs.size ≠ (1 : Nat) := by omega
   simpa [sysModules] using this
noncomputable abbrev ρS (W : WA) (na : Addr) (d : D) : Sto := [("self", .val (.val (.ref W.wa))), ("tag", .val (sd (cs "a"))), ("attrs", .val (.dict [(cs "k", d)])), ("new_namespaces", .val (.val (.ref na))), ("qname_text", .val .none)]
noncomputable abbrev tqn (z : List Nat) : D := .tuple [sd z, sd z, sd []]
theorem start_1 (SS : SFs c K P) (WK : WW c W na) (q : Wq c (msc 8) env vl Cs s₀ X (ρS W na d) s P (env.qual ++ "<lambda>") lamPos) (hPl : P ∈ vl) (hA : Room c (n + 3) A) (hO : OwnT c A env (msc 8) Cs) (hcode : env.code = .ref 146)
 (k : ∀ B qa X' s', Keeps c.base B -> SetTwo B qa (S (cs "a")) (S (cs "k")) -> Wq (c.at B) (msc 8) env vl Cs s₀ X' (setS (setS (setS (ρS W na d) "qnames" (.val (.val (.ref qa)))) "resolved_names" (.val (.dict []))) "qattrs" (.val .none)) s' P (env.qual ++ "<lambda>") lamPos ->
  wpAny c.M A (execs ((mbd 8).drop 5) env) Q E s') : wpAny c.M A (execs (mbd 8) env) Q E s := by
 have Y := SS.here.wb WK
 refine q.sn rfl hPl hA hO (.ite (b := false) (.boolop (.and (a := false) (b := false) (.cmp (.fld (d := .none) (v := .none) Y rfl (by decide) (fun m wf => wf.ea) rfl (fun _ _ => .none)) .none (.isNotN rfl)) fun q => nomatch q)) (fun q => nomatch q) fun _ => .nil ⟨rfl, rfl⟩) fun X1 s₁ q₁ => ?_
 -- qnames = {tag, *attrs}
 refine Wk.assign (vl := vl) (s₀ := s₀) (ρ := ρS W na d) hO (by (refine x12 q₁.w.fm ?_; intro _ F _); exact F.scope) (.inl rfl) ?_
 (refine x12 q₁.w.fm ?_; intro h1 F₁ hv₁)
 refine set_disp (K := K) (n := n + 3) SS.here.hn (by decide) SS.here.XK (by rw [hcode]; exact SS.here.kcode) rfl rfl rfl hA F₁ (by decide) (by decide) fun qa s2 g₂ hqn h2 => ?_
 have w2 := q₁.w.gr g₂
 obtain ⟨hk₂, w2'⟩ := w2.rebase
 have q₂ : Wq (c.at (hideAll s2.heap (vl ++ X1))) (msc 8) env vl Cs s₀ X1 (ρS W na d) s2 P (env.qual ++ "<lambda>") lamPos := q₁.next rfl hPl (.of_gr g₂) w2'
 refine ⟨_, .val (.ref qa), X1, w2', .val _, fun X3 s₃ t3 w₃ => ?_⟩
 have q₃ := q₂.next rfl hPl t3 w₃
 have hSet : SetTwo (hideAll s2.heap (vl ++ X1)) qa (S (cs "a")) (S (cs "k")) := h2.at fun o e => q₁.w.hid hqn e
 have SS2 := SS.at hk₂
 have WK2 := WK.at hk₂
 have Y2 := SS2.here.wb WK2
 refine q₃.sn rfl hPl (hA.at _) hO.at (.assign .dict0 (.inl rfl)) fun X4 s4 q₄ => ?_
 refine q₄.sn rfl hPl (hA.at _) hO.at (.ite (b := false) (.cmp (.name rfl) .none (.isNotN rfl)) (fun q => nomatch q) fun _ => .nil ⟨rfl, rfl⟩) fun X5 s5 q₅ => ?_
 refine q₅.sn rfl hPl (hA.at _) hO.at (.ite (b := false) (.boolop (.and (a := false) (b := false) (.cmp (.fld (d := .none) (v := .none) Y2 rfl (by decide) (fun m wf => wf.qa) rfl (fun _ _ => .none)) .none (.isNotN rfl)) fun q => nomatch q)) (fun q => nomatch q) fun _ => .last (.assign .none (.inl rfl))) fun X6 s6 q₆ => ?_
 exact k _ qa X6 s6 hk₂ hSet q₆
end
end
section
section
variable {c : Cx} {n : Nat} {sc : Scope} {ρ ρ' : Sto} {env : Env} {Cs : List (Str × Addr)} {X : List Addr} {s s₀ : Shared} {vl : List Addr} {A : Around} {P na : Addr} {K : Frag} {W : WA} {d : D} {Q : Flow -> Shared -> Prop} {E : Value -> Shared -> Prop} {qual : Str} {pos : Pos}
theorem Wk.sub (w : Wk c sc env vl Cs s₀ X ρ s) (h : SubS ρ' ρ) : ∃ X', (∀ a ∈ X', a ∈ X) /\ Wk c sc env vl Cs s₀ X' ρ' s := by
 (refine x12 w.fm ?_; intro h0 F hv)
 (refine x12 (Ent.sub h env _ h0 Cs X s F) ?_; intro X' hx F')
 exact ⟨X', hx, ⟨h0, F', hv⟩, w.far, w.mn, fun a ha => w.new a (hx a ha)⟩
theorem Wq.sub (q : Wq c sc env vl Cs s₀ X ρ s P qual pos) (h : SubS ρ' ρ) : ∃ X', (∀ a ∈ X', a ∈ X) /\ Wq c sc env vl Cs s₀ X' ρ' s P qual pos := let ⟨X', hx, w⟩ := q.w.sub h; ⟨X', hx, w, q.hP, q.kv⟩
noncomputable abbrev ρQ (W : WA) (na qa : Addr) (d : D) : Sto := setS (setS (setS (ρS W na d) "qnames" (.val (.val (.ref qa)))) "resolved_names" (.val (.dict []))) "qattrs" (.val .none)
theorem Two.sd2 {x y u v : List Nat} (h : Two x y [u, v]) : (u = x /\ v = y) \/ (u = y /\ v = x) := by
 generalize hl : [u, v] = l at h
 cases h with
 | ab => cases hl; exact .inl ⟨rfl, rfl⟩
 | ba => cases hl; exact .inr ⟨rfl, rfl⟩
theorem start_2 {qa : Addr} (SS : SFs c K P) (WK : WW c W na) (q : Wq c (msc 8) env vl Cs s₀ X (ρQ W na qa d) s P (env.qual ++ "<lambda>") lamPos) (hPl : P ∈ vl) (hA : Room c (n + 3) A) (hO : OwnT c A env (msc 8) Cs)
 (k : ∀ B m X' s', Keeps c.base B -> B.get? m = some (methodObj (.ref 111) (.ref W.wa)) -> Wq (c.at B) (msc 8) env vl Cs s₀ X' (setS (ρQ W na qa d) "parse_qname" (.val (.val (.ref m)))) s' P (env.qual ++ "<lambda>") lamPos ->
  wpAny c.M A (execs ((mbd 8).drop 6) env) Q E s') : wpAny c.M A (execs ((mbd 8).drop 5) env) Q E s := by
 refine Wk.assign (vl := vl) (s₀ := s₀) (ρ := ρQ W na qa d) hO (by (refine x12 q.w.fm ?_; intro _ F _); exact F.scope) (.inr rfl) ?_
 (refine x12 q.w.fm ?_; intro h1 F hv)
 refine Attribute_name (wM ((Ev.name (n := n + 3) (k := true) (ρ := ρQ W na qa d) (x := "self") (d := .val (.ref W.wa)) rfl (by decide)).run A env _ h1 Cs X s hA F) (fun v s₁ q₁ => ?_) fun _ _ q => q.elim)
 obtain ⟨g₁, r₁⟩ := q₁
 cases r₁.inv
 have w1 := q.w.gr g₁
 (refine x12 ((WK.st.keeps w1.kb).inst) ?_; intro m I wf)
 refine get_bound (SS.here.XK.keeps w1.kb) SS.here.OK I SS.here.qm.find SS.here.qm.type SS.here.qget SS.here.qtk (by decide +kernel) (wf.meths _ (by decide)) ?_
 have g₂ : Gr s₁ { s₁ with heap := s₁.heap.push (methodObj (.ref 111) (.ref W.wa)), toks := s₁.toks + 1 } := ⟨fun b o e => Heap.get?_push_of_some _ e, Nat.le_succ _, .rfl, rfl⟩
 have w2 := w1.gr g₂
 obtain ⟨hk₂, w2'⟩ := w2.rebase
 have hm := w1.hid (s' := { s₁ with heap := s₁.heap.push (methodObj (.ref 111) (.ref W.wa)), toks := s₁.toks + 1 }) (get_size s₁.heap) (Heap.get?_push_size (o := methodObj (.ref 111) (.ref W.wa)) _ rfl)
 have q₂ := q.next (c' := c.at (hideAll ({ s₁ with heap := s₁.heap.push (methodObj (.ref 111) (.ref W.wa)), toks := s₁.toks + 1 } : Shared).heap (vl ++ X))) rfl hPl (.of_gr (g₁.trans g₂)) w2'
 refine ⟨_, .val (.ref s₁.heap.objs.size), X, w2', .val _, fun X3 s₃ t3 w₃ => ?_⟩
 exact k _ _ X3 s₃ hk₂ hm (q₂.next rfl hPl t3 w₃)
end
end
section
section
variable {c : Cx} {n : Nat} {env : Env} {Cs : List (Str × Addr)} {X : List Addr} {s s₀ : Shared} {vl : List Addr} {A : Around} {P na qa m : Addr} {K : Frag} {W : WA} {d : D} {Q : Flow -> Shared -> Prop} {E : Value -> Shared -> Prop}
noncomputable abbrev ρM (W : WA) (na qa m : Addr) (d : D) : Sto := setS (ρQ W na qa d) "parse_qname" (.val (.val (.ref m)))
noncomputable abbrev dqn (zs : List (List Nat)) : D := .dict (zs.map fun z => (z, tqn z))
theorem swaps_dict {sc : Scope} {kx vx : Expr} {gs : List Comprehension} {scope : Scope} {cp p : Pos} {y : Str} {line : Nat} (h : sc.names.lookup y = some .local) (hf : sc.kind = .function) (hl : (p.line == cp.line) = true)
 (hn : (scope.names.any fun (n, k) => n == y && (k == .local || k == .cell)) = false) (env : Env) (he : env.scope = sc) : swapsWith (.DictComp kx vx gs scope cp) (some (.Name y p)) line env = pure true := by
 have hk : (env.kindOf y == some .local) = true := by
  show (env.scope.names.lookup y == some .local) = true
  erw [he, h]; rfl
 have hb : (env.blockKind == .function) = true := by
  show ((if env.scope.kind.isAnnotationScope then ScopeKind.function else env.scope.kind) == .function) = true
  rw [he, hf]; rfl
 show (pure (env.blockKind == .function && env.kindOf y == some .local && p.line == cp.line && !(scope.names.any fun (n, k) => n == y && (k == .local || k == .cell))) : Sem Bool) = pure true
 erw [hk, hb, hl, hn]; rfl
theorem Wq.sorted {x y : List Nat} {sc : Scope} {ρ : Sto} {v : Value} {s' : Shared} {qual : Str} {pos : Pos} (qq : Wq c sc env vl Cs s₀ X ρ s P qual pos) (R : SortedR c sc env vl Cs s₀ X ρ P qual pos x y s v s') (hPl : P ∈ vl) :
 ∃ (B : Heap) (z1 z2 : List Nat), Keeps c.base B /\ Wq (c.at B) sc env vl Cs s₀ X ρ s' P qual pos /\ Two x y [z1, z2] /\ Rep (c.at B) (Vol (fun a => a ∈ vl) X) s' (.list [sd z1, sd z2]) v := by
 obtain ⟨B, z1, z2, hk, kn, w, ht, r, hP, far⟩ := R
 exact ⟨B, z1, z2, hk, ⟨w, hP, fun a ha hne o e => far.keep _ _ hne (qq.kv a ha hne o e)⟩, ht, r⟩
theorem start_3 (SS : SFs c K P) (WK : WW c W na) (hSet : SetTwo c.base qa (S (cs "a")) (S (cs "k"))) (hm : c.base.get? m = some (methodObj (.ref 111) (.ref W.wa))) (q : Wq c (msc 8) env vl Cs s₀ X (ρM W na qa m d) s P (env.qual ++ "<lambda>") lamPos) (VO : VlOk vl P s₀.heap) (hA : Room c (n + 3) A) (hO : OwnT c A env (msc 8) Cs) (hcode : env.code = .ref 146)
 (k : ∀ B z1 z2 X' s', Keeps c.base B -> Two (cs "a") (cs "k") [z1, z2] -> Wq (c.at B) (msc 8) env vl Cs s₀ X' (setS (ρM W na qa m d) "parsed_qnames" (.val (dqn [z1, z2]))) s' P (env.qual ++ "<lambda>") lamPos ->
  wpAny c.M A (execs ((mbd 8).drop 7) env) Q E s') : wpAny c.M A (execs ((mbd 8).drop 6) env) Q E s := by
 have S0 := SS.here
 have hqX : qa ∉ vl /\ qa ∉ X := by
  have hb : ∃ o, c.base.get? qa = some o := by obtain ⟨_, _, _, _, _, _, ho, _⟩ := hSet; exact ⟨_, ho⟩
  obtain ⟨o, hb⟩ := hb
  refine ⟨fun h => ?_, fun h => ?_⟩
  · rw [q.w.base qa h] at hb; cases hb
  · (refine x12 q.w.fm ?_; intro h0 F hv)
    have := F.base _ _ hb; rw [F.new qa h] at this; cases this
 refine dcomp_assign (n := n + 2) (Cs := Cs) (ρi := [("parse_qname", .val (.val (.ref m)))]) (r := tqn) (ρ := ρM W na qa m d) (sc := msc 8) (hA.mono (Nat.le_succ _)) hO (by (refine x12 q.w.fm ?_; intro _ F _); exact F.ccells) (Capt.of (.cons rfl rfl (by decide) .nil) rfl) (by intro _ _; rfl) S0.hn (swaps_dict rfl rfl rfl rfl env (by (refine x12 q.w.fm ?_; intro _ F _); exact F.scope)) (.inl rfl) ?_
 refine wM (sorted_lam (n := n) (ρ := ρM W na qa m d) (P := P) (cc := 146) (qa := qa) (q := "qnames") (x := cs "a") (y := cs "k") S0.hn q.w hA (allVal.to rfl) ⟨fun _ _ _ _ _ => rfl, rfl, rfl, rfl, fun p hp => by rw [mSz.mp hp]; exact ⟨by decide, by decide⟩, rfl, fun _ => rfl, fun _ => rfl⟩ rfl rfl (by decide) S0.sorted rfl hcode S0.code S0.B (q.vo VO) q.hP (hSet.at fun o e => q.w.kb _ _ e) hqX (by decide) (fun z hz => hz)) (fun xv s₁ R => ?_) fun _ _ q => q
 (refine x34 (q.sorted R VO.mem) ?_; intro B z1 z2 hk q₁ ht r)
 (refine x12 q₁.w.fm ?_; intro h0 F₁ hv₁)
 have hzz : ∀ z ∈ [z1, z2], z = cs "a" \/ z = cs "k" := fun z hz => by
  simp only [mC, List.not_mem_nil, or_false] at hz
  rcases ht.sd2 with ⟨rfl, rfl⟩ | ⟨rfl, rfl⟩ <;> rcases hz with rfl | rfl <;> simp
 have hnd : [z1, z2].Nodup := by rcases ht.sd2 with ⟨rfl, rfl⟩ | ⟨rfl, rfl⟩ <;> decide
 refine ⟨B, fun a => a ∈ vl, h0, X, [z1, z2], F₁, r.weak fun a q => q.2, by simp, hnd, fun z hz => ?_, fun X' s' t F' => k B z1 z2 X' s' hk ht (q₁.next rfl VO.mem t (q₁.w.go t F' hv₁))⟩
 have hm' := hk _ _ hm
 (refine x22 S0.qfd ?_; intro o fd ho hd)
 exact ⟨_, .name (.inl rfl), .cons rfl .nil, .name rfl, .callM (.name rfl) hm' (hk _ _ ho) hd (.cons (.name rfl) .nil) (.bound hm' ((SS.at hk).here.qname (WK.at hk) (hzz z hz)))⟩
end
end
section
section
variable {c : Cx} {n : Nat} {env : Env} {Cs : List (Str × Addr)} {X : List Addr} {s s₀ : Shared} {vl : List Addr} {A : Around} {P na qa m : Addr} {K : Frag} {W : WA} {d : D} {Q : Flow -> Shared -> Prop} {E : Value -> Shared -> Prop} {z1 z2 : List Nat} {qual : Str} {pos : Pos}
noncomputable abbrev ρP (W : WA) (na qa m : Addr) (d : D) (zs : List (List Nat)) : Sto := setS (ρM W na qa m d) "parsed_qnames" (.val (dqn zs))
noncomputable abbrev ρA (W : WA) (d : D) (zs : List (List Nat)) (l : List Slot) : Sto := [("self", .val (.val (.ref W.wa))), ("tag", .val (sd (cs "a"))), ("attrs", .val (.dict [(cs "k", d)])), ("qattrs", .val .none), ("parsed_qnames", .val (dqn zs)), ("attr_list", .own l)]
theorem dqn_at (h : Two (cs "a") (cs "k") [z1, z2]) {z : List Nat} (hz : z = cs "a" \/ z = cs "k") : ([z1, z2].map fun z => (z, tqn z)).lookup z = some (tqn z) := by
 rcases h.sd2 with ⟨rfl, rfl⟩ | ⟨rfl, rfl⟩ <;> rcases hz with rfl | rfl <;> rfl
theorem start_4 (SS : SFs c K P) (WK : WW c W na) (ht : Two (cs "a") (cs "k") [z1, z2]) (q : Wq c (msc 8) env vl Cs s₀ X (ρP W na qa m d [z1, z2]) s P qual pos) (hPl : P ∈ vl) (hA : Room c n A) (hO : OwnT c A env (msc 8) Cs)
 (k : ∀ X' s', Wq c (msc 8) env vl Cs s₀ X' (setS (ρA W d [z1, z2] [.val (.tuple [sd (cs "k"), d])]) "space_behaviour" (.val .none)) s' P qual pos ->
  wpAny c.M A (execs ((mbd 8).drop 10) env) Q E s') : wpAny c.M A (execs ((mbd 8).drop 7) env) Q E s := by
 have hn := SS.here.hn
 refine q.sn rfl hPl hA hO (.ite (b := false) (.val (.name rfl) (TruR.base WK.gl.l1)) (fun q => nomatch q) fun _ => .last (.assignS (sl := .own []) (.lst .nil (by decide)) (.inl rfl))) fun X1 s₁ q₁ => ?_
 refine q₁.sx (G := fun ρ' => SubS (ρA W d [z1, z2] [.val (.tuple [sd (cs "k"), d])]) ρ') rfl hPl hA hO (.ite (b := true) (.val (.name rfl) TruR.pair) (fun _ => .last ?_) fun q => nomatch q) fun X2 ρ2 s2 hs q₂ => ?_
 · refine Sx.forS (xs := [()]) (g := fun _ => .tuple [sd (cs "k"), d]) (fun done => ρA W d [z1, z2] (done.map fun _ => .val (.tuple [sd (cs "k"), d]))) (.sortedItems rfl hn SS.here.sorted rfl rfl) IterR.list (.cons rfl (.cons rfl (.cons rfl (.cons rfl (.cons rfl (.cons rfl .nil)))))) ?_ ⟨rfl, .cons rfl (.cons rfl (.cons rfl (.cons rfl (.cons rfl (.cons rfl .nil)))))⟩
   intro done x rest hd
   have hdone : done = [] := by
    cases done with
    | nil => rfl
    | cons y r => injection hd with _ h; cases r <;> cases h
   subst hdone
   refine ⟨_, .tuple (.cons rfl (.name (.inl rfl)) (.cons rfl (.name (.inl rfl)) .nil)), ?_⟩
   refine .step (.ite (b := false) (.boolop (.and (a := false) (b := false) (.cmp (.name rfl) .none (.isNotN rfl)) fun q => nomatch q)) (fun q => nomatch q) fun _ => .nil ⟨rfl, rfl⟩) ?_
   refine .step (.assignT (d := tqn (cs "k")) (.subD (.name rfl) (.name rfl) (dqn_at ht (.inr rfl))) (.tuple (.cons rfl (.name (.inl rfl)) (.cons rfl (.name (.inl rfl)) (.cons rfl (.name (.inl rfl)) .nil))))) ?_
   refine .last (Sx.mono (.appendG (q := Option.none) (sl := []) (d := .val (.tuple [sd (cs "k"), d])) rfl (.val (.tuple (.cons (.ite (x := false) (.val (.name rfl) (TruR.text (l := []) (by decide))) (fun q => nomatch q) fun _ => .name rfl) (.cons (.name rfl) .nil)) (by rw [sizeLine_eq]; simp))) (by decide)) ?_)
   rintro af _ ⟨rfl, rfl⟩
   exact .cons rfl (.cons rfl (.cons rfl (.cons rfl (.cons rfl (.cons rfl .nil)))))
 · (refine x12 (q₂.sub hs) ?_; intro X3 _ q₃)
   refine q₃.sn rfl hPl hA hO (.assign (.meth (.name rfl) rfl PySem.F.plainAttrs_dict PySem.F.slot_dict_get PySem.F.type_dict_get (.cons .lit .nil) (.dgetNone (by rfl)) rfl) (.inl rfl)) fun X4 s4 q₄ => k X4 s4 q₄
end
end
section
section
variable {c c' : Cx} {n : Nat} {sc : Scope} {ρ ρ' : Sto} {env : Env} {Cs : List (Str × Addr)} {X X' : List Addr} {s s' s₀ : Shared} {vl fl : List Addr} {A : Around} {P na qa m oa : Addr} {K : Frag} {W : WA} {d : D} {Q : Flow -> Shared -> Prop} {E : Value -> Shared -> Prop} {z1 z2 : List Nat} {qual : Str} {pos : Pos} {items : Array Value}
structure Wr (c : Cx) (sc : Scope) (env : Env) (vl fl : List Addr) (Cs : List (Str × Addr)) (s₀ : Shared) (X : List Addr) (ρ : Sto) (s : Shared) (P : Addr) (qual : Str) (pos : Pos) (oa : Addr) (items : Array Value) : Prop where
 w : Wk c sc env vl Cs s₀ X ρ s
 hP : PSt P qual pos s.heap
 ho : ∃ n, s.heap.get? oa = some (listObj items n)
 kf : ∀ a ∈ fl, ∀ o, s₀.heap.get? a = some o -> s.heap.get? a = some o
structure VS (vl fl : List Addr) (P sa oa : Addr) : Prop where
 mP : P ∈ vl
 mS : sa ∈ vl
 mO : oa ∈ vl
 mF : ∀ a ∈ fl, a ∈ vl
 sP : sa ≠ P
 oP : oa ≠ P
 so : sa ≠ oa
 fP : P ∉ fl
 fs : sa ∉ fl
 fo : oa ∉ fl
theorem Wr.next {sa : Addr} (q : Wr c sc env vl fl Cs s₀ X ρ s P qual pos oa items) (hv : plainS ρ = true) (V : VS vl fl P sa oa) (t : Stp X s X' s') (w' : Wk c' sc env vl Cs s₀ X' ρ' s') : Wr c' sc env vl fl Cs s₀ X' ρ' s' P qual pos oa items := by
 have hnX : ∀ a ∈ vl, a ∉ X := fun a h => (q.w.live0 a h).2
 refine ⟨w', ?_, let ⟨n, e⟩ := q.ho; ⟨n, t.keep _ _ (hnX oa V.mO) e⟩, fun a h o e => t.keep _ _ (hnX a (V.mF a h)) (q.kf a h o e)⟩
 cases q.hP with
 | miss h => exact .miss (t.keep _ _ (hnX P V.mP) h)
 | hit c1 h1 h2 =>
  refine .hit c1 (t.keep _ _ (hnX P V.mP) h1) ?_
  (refine x44 h2 ?_; clear h2; intro c2 oc vs tq e1 e2 hd h3)
  exact ⟨c2, oc, vs, tq, e1, t.keep _ _ (fun hx => q.w.nofields hv c2 hx oc e2 vs hd) e2, hd, h3⟩
theorem PSt.same {h h' : Heap} {a : Addr} {o : Obj} (p : PSt P qual pos h) (hs : Heap.SameBut a h h') (hne : a ≠ P) (ho : h.get? a = some o) (hd : ∀ vs, o.data ≠ .fields vs) : PSt P qual pos h' := by
 cases p with
 | miss h1 => exact .miss ((hs.2 _ (Ne.symm hne)).trans h1)
 | hit c1 h1 h2 =>
  refine .hit c1 ((hs.2 _ (Ne.symm hne)).trans h1) ?_
  (refine x44 h2 ?_; clear h2; intro c2 oc vs tq e1 e2 hdd h3)
  exact ⟨c2, oc, vs, tq, e1, (hs.2 _ fun q => by rw [q, ho] at e2; cases e2; exact hd _ hdd).trans e2, hdd, h3⟩
theorem Wk.int (w : Wk c sc env vl Cs s₀ X ρ s) : interactive env = false := by
 (refine x12 w.fm ?_; intro _ F _)
 unfold interactive
 erw [F.scope, F.kind]; rfl
noncomputable abbrev ρB (W : WA) (d : D) (zs : List (List Nat)) : Sto := setS (ρA W d zs [.val (.tuple [sd (cs "k"), d])]) "space_behaviour" (.val .none)
theorem start_5 {n0 no : Nat} {items : Array Value} (SS : SFs c K P) (WK : WW c W na) (q : Wq c (msc 8) env vl Cs s₀ X (ρB W d [z1, z2]) s P qual pos) (V : VS vl fl P W.sa W.oa)
 (hsa : s₀.heap.get? W.sa = some (listObj #[.bool false] n0)) (hoa : s₀.heap.get? W.oa = some (listObj items no)) (hA : Room c n A)
 (k : ∀ s', Wr c (msc 8) env vl fl Cs s₀ X (ρB W d [z1, z2]) s' P qual pos W.oa items -> wpAny c.M A (execs ((mbd 8).drop 11) env) Q E s') : wpAny c.M A (execs ((mbd 8).drop 10) env) Q E s := by
 have Y := SS.here.wb WK
 have evs : ∀ {p1 p2 : Pos}, Ev c n (msc 8) true (ρB W d [z1, z2]) (.Attribute (.Name (oS "self") p1) (oS "_preserve_space") p2) (.val (.ref W.sa)) := Ev.fld (v := .ref W.sa) Y rfl (by decide) (fun m wf => wf.sp) rfl (fun _ _ => .val _)
 (refine x12 q.w.fm ?_; intro h0 F hv)
 have hs0 := q.kv _ V.mS V.sP _ hsa
 refine wE (wpAny_Expr ?_ q.w.int rfl)
 refine wpAny_Call_method (T := "list") (id := "list.append") rfl rfl rfl PySem.F.plainAttrs_list PySem.F.slot_list_append PySem.F.type_list_append ?_
 refine wM (evs.run A env _ h0 Cs X s hA F) (fun v s₁ q₁ => ?_) fun _ _ q => q.elim
 obtain ⟨g₁, r₁⟩ := q₁
 cases r₁.inv
 have hs1 := g₁.keep _ _ hs0
 refine ⟨⟨_, hs1, rfl⟩, fun b hb => by cases hb; exact ⟨_, hs1, rfl⟩, (Callee.builtin (c := c) "list.append").wp (first := [.ref W.sa]) rfl ?_⟩
 refine wI (wpAny_IfExp (wM ((Tst.val (c := c) (n := n) (sc := msc 8) (ρ := ρB W d [z1, z2]) (.name (x := "space_behaviour") (d := .none) rfl) TruR.none).run A env _ h0 Cs X s₁ hA (F.gr g₁)) (fun b s2 q₂ => ?_) fun _ _ q => q.elim)) (starEach_cons rfl)
 obtain ⟨g₂, rfl⟩ := q₂
 erw [if_neg Bool.false_ne_true]
 refine Subscript_ (wM (evs.run A env _ h0 Cs X s2 hA ((F.gr g₁).gr g₂)) (fun v s₃ q₃ => ?_) fun _ _ q => q.elim)
 obtain ⟨g₃, r₃⟩ := q₃
 cases r₃.inv
 have g13 := (g₁.trans g₂).trans g₃
 refine wM ((Ev.neg (k := true) (Ev.int (c := c) (n := n) (sc := msc 8) (ρ := ρB W d [z1, z2]))).run A env _ h0 Cs X s₃ hA (F.gr g13)) (fun i s4 q₄ => ?_) fun _ _ q => q.elim
 obtain ⟨g₄, r₄⟩ := q₄
 obtain ⟨ti, rfl⟩ := r₄.inv
 have g14 := g13.trans g₄
 have hs4 := g14.keep _ _ hs0
 refine tail_any (T := "list") ⟨_, hs4, rfl⟩ slot_list_getitem.lookup (wpAny_getItem_list_neg (l := W.sa) (items := #[.bool false]) ⟨_, hs4, rfl, _, rfl⟩ (by decide) (by decide) (by decide) (x := .bool false) rfl ?_) rfl
 refine wN ⟨((F.gr g14).base.trans (F.gr g14).keep), ?_⟩
 refine append_wp hs4 rfl ⟨rfl, rfl⟩ rfl (fun h' o' n' e1 e2 e3 e4 e5 => ?_) (by decide)
 have w4 := q.w.gr g14
 have w₅ : Wk c (msc 8) env vl Cs s₀ X (ρB W d [z1, z2]) { s4 with heap := h' } := w4.turn V.mS (Far.same e5 (Nat.le_refl _)) ⟨Nat.le_refl _, .rfl, rfl⟩ (fun o e w hw => by rw [hs4] at e; cases e; cases hw) ⟨_, e1⟩
 have q₄ := q.gr rfl V.mP g14
 exact k _ ⟨w₅, q₄.hP.same e5 V.sP hs4 (fun vs q => nomatch q), ⟨no, (e5.2 _ (Ne.symm V.so)).trans (q₄.kv _ V.mO V.oP _ hoa)⟩, fun a h o e => (e5.2 _ fun q => V.fs (q ▸ h)).trans (q₄.kv a (V.mF a h) (fun q => V.fP (q ▸ h)) o e)⟩
end
end
section
section
variable {c c' : Cx} {n : Nat} {sc : Scope} {ρ ρ' : Sto} {env : Env} {Cs : List (Str × Addr)} {X X' : List Addr} {s s' s₀ : Shared} {vl fl : List Addr} {A : Around} {P na qa m oa : Addr} {K : Frag} {W : WA} {d : D} {Q : Flow -> Shared -> Prop} {E : Value -> Shared -> Prop} {z1 z2 : List Nat} {qual : Str} {pos : Pos} {items : Array Value} {st : Stmt} {rest : List Stmt}
theorem Wr.sn {sa : Addr} {ρ2 : Sto} (q : Wr c sc env vl fl Cs s₀ X ρ s P qual pos oa items) (hv : plainS ρ = true) (V : VS vl fl P sa oa) (hA : Room c n A) (hO : OwnT c A env sc Cs) (h : Sn c n sc ρ st ρ2)
 (k : ∀ X' s', Wr c sc env vl fl Cs s₀ X' ρ2 s' P qual pos oa items -> wpAny c.M A (execs rest env) Q E s') : wpAny c.M A (execs (st :: rest) env) Q E s :=
 q.w.sn hA hO h fun X' s' t w' => k X' s' (q.next hv V t w')
theorem Wr.gr {sa : Addr} (q : Wr c sc env vl fl Cs s₀ X ρ s P qual pos oa items) (hv : plainS ρ = true) (V : VS vl fl P sa oa) (g : Gr s s') : Wr c sc env vl fl Cs s₀ X ρ s' P qual pos oa items := q.next hv V (.of_gr g) (q.w.gr g)
noncomputable abbrev ρW (W : WA) (d : D) (zs : List (List Nat)) : Sto := setS (ρB W d zs) "write" (.val (.val (.ref W.ba)))
theorem start_6 (SS : SFs c K P) (WK : WW c W na) (ht : Two (cs "a") (cs "k") [z1, z2]) (q : Wr c (msc 8) env vl fl Cs s₀ X (ρB W d [z1, z2]) s P qual pos W.oa #[]) (V : VS vl fl P W.sa W.oa) (hA : Room c n A) (hO : OwnT c A env (msc 8) Cs)
 (k : ∀ X' s' t, Wr c (msc 8) env vl fl Cs s₀ X' (ρW W d [z1, z2]) s' P qual pos W.oa #[.str (S (cs "<a")) t] -> wpAny c.M A (execs ((mbd 8).drop 13) env) Q E s') : wpAny c.M A (execs ((mbd 8).drop 11) env) Q E s := by
 have Y := SS.here.wb WK
 refine q.sn rfl V hA hO (.assign (.fld (v := .ref W.ba) Y rfl (by decide) (fun m wf => wf.write) rfl (fun _ _ => .val _)) (.inl rfl)) fun X1 s₁ q₁ => ?_
 (refine x12 q₁.w.fm ?_; intro h0 F hv)
 refine wE (wpAny_Expr ?_ q₁.w.int rfl)
 have he : ∀ {p1 p2 : Pos} {es : List Expr}, eval (.Call (.Name (oS "write") p1) es [] p2) env = (do callWith p2 (<- eval (.Name (oS "write") p1) env) [] (backTo p2 (starEach es env)) (backToKw p2 (keywordEach [] env))) := rfl
 erw [he]
 refine wB (wM ((Ev.name (c := c) (n := n) (sc := msc 8) (k := true) (ρ := ρW W d [z1, z2]) (x := "write") (d := .val (.ref W.ba)) rfl).run A env _ h0 Cs X1 s₁ hA F) (fun v s2 q₂ => ?_) fun _ _ q => q.elim)
 obtain ⟨g₂, r₂⟩ := q₂
 cases r₂.inv
 refine callWith_bound (id := "list.append") (pa := W.oa) (noStar_all rfl) (evalArgs_of rfl (wI (wM ((Ev.bin (c := c) (n := n) (sc := msc 8) (k := true) (ρ := ρW W d [z1, z2]) .lit (.subT (.subD (.name rfl) (.name rfl) (dqn_at ht (.inl rfl))) .int (ItemR.tuple (j := 0) (d := sd (cs "a")) rfl rfl)) (BinR.cat (a := cs "<") (b := cs "a") (by decide))).run A env _ h0 Cs X1 s2 hA (F.gr g₂)) (fun v s₃ q₃ => wN ?_) fun _ _ q => q.elim) (starEach_cons rfl)))
 obtain ⟨g₃, r₃⟩ := q₃
 obtain ⟨t, rfl⟩ := r₃.inv
 have g13 := g₂.trans g₃
 have q₃ := q₁.gr rfl V g13
 have hb := (WK.st.ba)
 obtain ⟨no, hoa⟩ := q₃.ho
 have hb3 := q₃.w.kb _ _ hb
 refine ⟨hb3, bound_append hb3 hoa (fun h' n' ho' hs' => ?_) (by decide)⟩
 have w₅ : Wk c (msc 8) env vl Cs s₀ X1 (ρW W d [z1, z2]) { s₃ with heap := h' } := q₃.w.turn V.mO (Far.same hs' (Nat.le_refl _)) ⟨Nat.le_refl _, .rfl, rfl⟩ (fun o e w hw => by rw [hoa] at e; cases e; cases hw) ⟨_, ho'⟩
 exact k X1 _ t ⟨w₅, q₃.hP.same hs' V.oP hoa (fun vs q => nomatch q), ⟨n', ho'⟩, fun a h o e => (hs'.2 _ fun q => V.fo (q ▸ h)).trans (q₃.kf a h o e)⟩
end
end
section
structure Lnd (vl : List Addr) (l : List Env) (B : Heap) (s s₁ : Shared) : Prop where
 far : Far (fun b => b ∈ vl) s s₁
 mn : Mn s s₁
 kb : Keeps (hideAll s.heap vl) B
 kf : ∀ a ∈ l.filterMap (·.frame), ∀ o, s.heap.get? a = some o -> s₁.heap.get? a = some o
 lv : ∀ a ∈ vl, (∃ o, B.get? a = some o) \/ ∃ o, s₁.heap.get? a = some o /\ ∀ vs, o.data ≠ .fields vs
structure ErrQ (vl : List Addr) (l : List Env) (T : String) (m : List Nat) (Post : Heap -> Prop) (s : Shared) (ev : Value) (s' : Shared) : Prop where
 ex : ∃ B s₁, Lnd vl l B s s₁ /\ Post B /\ Fly B l T m s₁ ev s'
theorem FunFrames_at {h h' B : Heap} : ∀ {l : List Env}, (∀ a ∈ l.filterMap (·.frame), ∀ o, h.get? a = some o -> h'.get? a = some o) -> h.FunFrames B l -> h'.FunFrames B l
 | [], _, x => x
 | env :: l, k, ⟨h1, ⟨L, o, a, b, c, d⟩, h3⟩ => by
  have e : (env :: l).filterMap (·.frame) = L :: l.filterMap (·.frame) := by rw [List.filterMap_cons, a]
  rw [e] at k
  exact ⟨h1, ⟨L, o, a, b, k L (.head _) o c, d⟩, FunFrames_at (fun x hx => k x (.tail _ hx)) h3⟩
theorem flyH_leaves {A : Around} {env : Env} {M : Model} {B : Heap} {l : List Env} {T : String} {m : List Nat} {s₁ s : Shared} {ev : Value} {G : Value -> Shared -> Prop} (hf : env.frame = some env.locals) (fly : FlyH B (env :: l) env.locals T m s₁ ev s) (k : ∀ s', Fly B l T m s₁ ev s' -> G ev s') :
 wpAny M A (leaving env ev) (fun _ s'' => G ev s'') (fun e' s'' => G e' s'') s := by
 obtain ⟨⟨e, t, tk, rfl, hh, htup, htn⟩, hu, htk, hg, ho⟩ := fly
 exact leave_held hf hh fun h' hfl hu' => k _ ⟨⟨e, t, tk, rfl, hfl, htup.of_slots hu', htn⟩, hu.trans hu', htk, hg, ho⟩
section
variable {c c' : Cx} {n : Nat} {sc : Scope} {ρ ρ' : Sto} {env : Env} {Cs : List (Str × Addr)} {X X' : List Addr} {s s' s₀ : Shared} {vl fl : List Addr} {A : Around} {P na qa m oa : Addr} {K : Frag} {W : WA} {d : D} {Q : Flow -> Shared -> Prop} {E : Value -> Shared -> Prop} {z1 z2 : List Nat} {qual : Str} {pos : Pos} {items : Array Value} {st : Stmt} {rest : List Stmt} {l : List Env} {B0 : Heap}
theorem Wk.ent (w : Wk c sc env vl Cs s₀ X ρ s) (e : Ent c sc ρ ρ') : ∃ X', (∀ a ∈ X', a ∈ X) /\ Wk c sc env vl Cs s₀ X' ρ' s := by
 (refine x12 w.fm ?_; intro h0 F hv)
 (refine x12 (e env _ h0 Cs X s F) ?_; intro X' hx F')
 exact ⟨X', hx, ⟨h0, F', hv⟩, w.far, w.mn, fun a ha => w.new a (hx a ha)⟩
theorem Wk.stk (w : Wk c sc env vl Cs s₀ X ρ s) (hf : env.frame = some env.locals) (K₀ : Stk c' A B0 l s₀.heap) (hfl : ∀ a ∈ l.filterMap (·.frame), a ∈ vl) (kf : ∀ a ∈ l.filterMap (·.frame), ∀ o, s₀.heap.get? a = some o -> s.heap.get? a = some o) :
 Stk c (A.deeper env) (hideAll s.heap ((env :: l).filterMap (·.frame))) (env :: l) s.heap := by
 (refine x12 w.fm ?_; intro h0 F hv)
 obtain ⟨m, fps, ⟨o, es, ep, ho, hd, _⟩, h2, _⟩ := F.sto
 have hLX : env.locals ∈ X := h2 ▸ .head _
 have hL0 := w.new _ hLX
 have hB : B0.get? env.locals = none := by
  cases q : B0.get? env.locals with
  | none => rfl
  | some o' => have := K₀.stays _ _ q; rw [hL0] at this; cases this
 have hff : s.heap.FunFrames B0 (env :: l) := FunFrames_push (by rw [F.scope, F.kind]; decide) hf hB ho (fun vs q => by rw [hd] at q; cases q) (FunFrames_at kf K₀.frames)
 refine ⟨Around.frames_deeper K₀.stack, fun b o' e => hideAll_get _ (w.kb _ _ e) fun q => ?_, fun b o' e => of_hideAll _ e, frames_hidden hff⟩
 rw [List.filterMap_cons, hf] at q
 rcases mC.mp q with q | q
 · have := F.base _ _ e; rw [q, F.new _ hLX] at this; cases this
 · rw [w.base _ (hfl _ q)] at e; cases e
end
end
section
theorem Ev.fmt {c : Cx} {n : Nat} {sc : Scope} {k : Bool} {ρ : Sto} {e : Expr} {pos : Pos} {l : List Nat} (h : Ev c n sc k ρ e (sd l)) (hz : l.length <= 16777216) : Ev c n sc k ρ (.FormattedValue e (-1) Option.none pos) (sd l) := .mk fun A env V0 h0 Cs X s hA F => by
 refine FormattedValue_plain (wM (h.run A env V0 h0 Cs X s hA F) (fun v s₁ q => ?_) fun _ _ q => q)
 obtain ⟨g, r⟩ := q
 obtain ⟨t, rfl⟩ := r.inv
 exact wp_gr g (wp_end (formatField_str (fun t' tk => ⟨fun _ _ e => e, rfl, rfl, fun _ => .str _ _⟩) (by rw [S_length, sizeLine_eq]; exact hz)))
section
variable {c : Cx} {n : Nat} {env : Env} {Cs : List (Str × Addr)} {X : List Addr} {s s₀ : Shared} {vl : List Addr} {A : Around} {P na : Addr} {K : Frag} {W : WA} {d : D} {Q : Flow -> Shared -> Prop} {z1 z2 : List Nat} {qual : Str} {pos : Pos} {l : List Env} {B0 : Heap} {mm : List Nat} {c₀ : Cx} {t : Tok} {G : Value -> Shared -> Prop}
noncomputable abbrev frs (l : List Env) : List Addr := l.filterMap (·.frame)
noncomputable abbrev ρF (W : WA) (d : D) (zs : List (List Nat)) : Sto := setS (ρW W d zs) "attr_list" (.val (.list [.tuple [sd (cs "k"), d]]))
theorem start_7 (SS : SFs c K P) (WK : WW c W na) (q : Wr c (msc 8) env vl (frs l) Cs s₀ X (ρW W d [z1, z2]) s P qual pos W.oa #[.str (S (cs "<a")) t]) (V : VS vl (frs l) P W.sa W.oa) (hA : Room c n (A.deeper env)) (hf : env.frame = some env.locals)
 (K₀ : Stk c₀ A B0 l s₀.heap) (hesc : FnX c n (.ref 189) [d] "TypeError" mm)
 (k : ∀ B X' s₁ ev s', Wr c (msc 8) env vl (frs l) Cs s₀ X' (ρF W d [z1, z2]) s₁ P qual pos W.oa #[.str (S (cs "<a")) t] -> B = hideAll s₁.heap (frs (env :: l)) -> FlyH B (env :: l) env.locals "TypeError" mm s₁ ev s' -> G ev s') :
 wpAny c.M (A.deeper env) (execs ((mbd 8).drop 13) env) Q G s := by
 have hn := SS.here.hn
 (refine x12 (q.w.ent (Ent.freeze (x := "attr_list") rfl)) ?_; intro X1 hX1 w1)
 have q₁ : Wr c (msc 8) env vl (frs l) Cs s₀ X1 (ρF W d [z1, z2]) s P qual pos W.oa #[.str (S (cs "<a")) t] := ⟨w1, q.hP, q.ho, q.kf⟩
 (refine x12 q₁.w.fm ?_; intro h0 F hv)
 refine wE (wpAny_If (wM ((Tst.val (c := c) (n := n) (sc := msc 8) (ρ := ρF W d [z1, z2]) (.name (x := "attr_list") rfl) (TruR.list (ds := [.tuple [sd (cs "k"), d]]) (by simp))).run (A.deeper env) env _ h0 Cs X1 s hA F) (fun b s2 q₂ => ?_) fun _ _ q => q.elim))
 obtain ⟨g₂, rfl⟩ := q₂
 have q₂ := q₁.gr rfl V g₂
 refine wE (wpAny_Expr_any ?_ q₁.w.int rfl)
 have he : ∀ {p1 p2 : Pos} {es : List Expr}, eval (.Call (.Name (oS "write") p1) es [] p2) env = (do callWith p2 (<- eval (.Name (oS "write") p1) env) [] (backTo p2 (starEach es env)) (backToKw p2 (keywordEach [] env))) := rfl
 erw [he]
 refine wB (wM ((Ev.name (c := c) (n := n) (sc := msc 8) (k := true) (ρ := ρF W d [z1, z2]) (x := "write") (d := .val (.ref W.ba)) rfl).run (A.deeper env) env _ h0 Cs X1 s2 hA (F.gr g₂)) (fun v s₃ q₃ => ?_) fun _ _ q => q.elim)
 obtain ⟨g₃, r₃⟩ := q₃
 cases r₃.inv
 have q₃ := q₂.gr rfl V g₃
 refine callWith_bound (id := "list.append") (pa := W.oa) (noStar_all rfl) (evalArgs_of rfl (wI ?_ (starEach_cons rfl)))
 refine wpAny_Call_method (T := "str") (id := "str.join") rfl rfl rfl PySem.F.plainAttrs_str PySem.F.slot_str_join PySem.F.type_str_join ?_
 refine wM ((Ev.lit (c := c) (n := n) (sc := msc 8) (k := true) (ρ := ρF W d [z1, z2]) (x := "")).run (A.deeper env) env _ h0 Cs X1 s₃ hA ((F.gr g₂).gr g₃)) (fun v s4 q₄ => ?_) fun _ _ q => q.elim
 obtain ⟨g₄, r₄⟩ := q₄
 obtain ⟨tk, rfl⟩ := r₄.inv
 have q₄ := q₃.gr rfl V g₄
 refine ⟨rfl, (fun b hb => nomatch hb), (Callee.builtin (c := c) "str.join").wp (first := [.str (S (cs "")) tk]) rfl (wI ?_ (starEach_cons rfl))⟩
 have K4 := q₄.w.stk hf K₀ V.mF q₄.kf
 (refine x12 q₄.w.fm ?_; intro h4 F4 hv4)
 refine wM (comp_raises (n := n) (sc := msc 8) (ρ := ρF W d [z1, z2]) (ρi := []) (m := mm) (T := "TypeError") hA (.inl (hA.handled hn)) F4 K4 (fun a ha => ?_) hf (.name (x := "attr_list") rfl) IterR.list (Capt.of .nil rfl)
  ⟨_, .tuple (.cons rfl (.name (.inl rfl)) (.cons rfl (.name (.inl rfl)) .nil)), .joined (.cons .lit (by decide) (.cons (y := cs "k") (.fmt (.name rfl) (by decide)) (by decide) (.cons .lit (by decide) (.here (.fmt (.call (.glob SS.here.esc) SS.here.escC (.cons (.name rfl) .nil) hesc))))))⟩ hn) (fun _ _ q => q.elim) fun ev s5 fly => k _ X1 s4 ev s5 q₄ rfl fly
 rw [List.filterMap_cons, hf] at ha
 rcases mC.mp ha with e | ha
 · exact .inr e
 · exact .inl (V.mF a ha)
end
end
section
noncomputable def PostW (P oa : Addr) (h : Heap) : Prop := PSt P stQual lamPos h /\ ∃ n t, h.get? oa = some (listObj #[.str (S (cs "<a")) t] n)
section
variable {c : Cx} {n : Nat} {s : Shared} {A : Around} {P na : Addr} {K : Frag} {W : WA} {d : D} {l : List Env} {B0 : Heap} {mm : List Nat}
noncomputable abbrev vls (W : WA) (P : Addr) (l : List Env) : List Addr := P :: W.sa :: W.oa :: frs l
theorem PSt.tab {h : Heap} {qual : Str} {pos : Pos} (p : PSt P qual pos h) : ∃ ps, h.get? P = some (tabObj ps) := by
 cases p with
 | miss h => exact ⟨_, h⟩
 | hit c' h _ => exact ⟨_, h⟩
theorem PSt.keeps {h h' : Heap} {qual : Str} {pos : Pos} (p : PSt P qual pos h) (k : Keeps h h') : PSt P qual pos h' := by
 cases p with
 | miss h => exact .miss (k _ _ h)
 | hit c' h1 h2 => exact .hit c' (k _ _ h1) (h2.keeps k)
theorem PSt.hide {h : Heap} {qual : Str} {pos : Pos} {ls : List Addr} (p : PSt P qual pos h) (hn : ∀ a ∈ ls, ∀ o, h.get? a = some o -> ∀ vs, o.data ≠ .fields vs) : PSt P qual pos (hideAll h ls) := by
 cases p with
 | miss h1 => exact .miss (hideAll_get _ h1 fun q => hn _ q _ h1 _ rfl)
 | hit c' h1 h2 =>
  refine .hit c' (hideAll_get _ h1 fun q => hn _ q _ h1 _ rfl) ?_
  (refine x44 h2 ?_; clear h2; intro c2 oc vs tq e1 e2 hd h3)
  exact ⟨c2, oc, vs, tq, e1, hideAll_get _ e2 fun q => hn _ q _ e2 _ hd, hd, h3⟩
theorem vs_of {h : Heap} {n0 no : Nat} {xs ys : Array Value} (hP : PSt P stQual lamPos h) (hsa : h.get? W.sa = some (listObj xs n0)) (hoa : h.get? W.oa = some (listObj ys no)) (hso : W.sa ≠ W.oa) (hff : h.FunFrames B0 l) (hfs : W.sa ∉ frs l) (hfo : W.oa ∉ frs l) : VS (vls W P l) (frs l) P W.sa W.oa /\ VlOk (vls W P l) P h := by
 obtain ⟨ps, hp⟩ := hP.tab
 refine ⟨⟨.head _, .tail _ (.head _), .tail _ (.tail _ (.head _)), fun a h => .tail _ (.tail _ (.tail _ h)), fun q => ?_, fun q => ?_, hso, fun q => ?_, hfs, hfo⟩, ⟨.head _, fun a ha => ?_⟩⟩
 · rw [q, hp] at hsa; cases hsa
 · rw [q, hp] at hoa; cases hoa
 · obtain ⟨_, o, ho, hd⟩ := hff.mem q
   rw [hp] at ho; cases ho; exact hd _ rfl
 · rcases mC.mp ha with rfl | ha
   · exact .inl rfl
   · rcases mC.mp ha with rfl | ha
     · exact .inr ⟨_, hsa, fun vs q => nomatch q⟩
     · rcases mC.mp ha with rfl | ha
       · exact .inr ⟨_, hoa, fun vs q => nomatch q⟩
       · obtain ⟨_, o, ho, hd⟩ := hff.mem ha
         exact .inr ⟨o, ho, hd⟩
theorem start_X {n0 no : Nat} {vs : List Value} (SS : SFs c K P) (WK : WW c W na) (hesc : ∀ B, Keeps c.base B -> FnX (c.at B) (n + 3) (.ref 189) [d] "TypeError" mm) (hA : Room c (n + 4) A) (hS : St c (fun a => a ∈ vls W P l) s) (K₀ : Stk c A B0 l s.heap) (hvb : ∀ a ∈ vls W P l, c.base.get? a = none)
 (hP : PSt P stQual lamPos s.heap) (hsa : s.heap.get? W.sa = some (listObj #[.bool false] n0)) (hoa : s.heap.get? W.oa = some (listObj #[] no)) (hso : W.sa ≠ W.oa) (hfs : W.sa ∉ frs l) (hfo : W.oa ∉ frs l)
 (r : RepL c (fun a => a ∈ vls W P l) s [.val (.ref W.wa), sd (cs "a"), .dict [(cs "k", d)], .val (.ref na)] vs) :
 wpAny c.M A (call (.ref 147) vs) (fun _ _ => False) (ErrQ (vls W P l) l "TypeError" mm (PostW P W.oa) s) s := by
 have S0 := SS.here
 have hl : vs.length = 4 := r.length.symm
 obtain ⟨V, VO⟩ := vs_of hP hsa hoa hso K₀.frames hfs hfo
 refine wT (Nat.le_refl _) (wpAny_call (codeAny_mono (fn_enterSX (fp := []) (n := n + 3) (V := fun a => a ∈ vls W P l) (Q := fun _ _ => False) (E := ErrQ (vls W P l) l "TypeError" mm (PostW P W.oa) s) (ps := stPs) (sls := [.val (.val (.ref W.wa)), .val (sd (cs "a")), .val (.dict [(cs "k", d)]), .val (.val (.ref na)), .val .none]) S0.stO (S0.st vs hl) rfl hA hS (fun a h => nomatch h) .nil (fun a h => nomatch h) ?_ fun env X s₁ hbd hf hnl g F hO hX hfX => ?_) fun r s' q => ?_))
 · exact RepL.slots (ds := [.val (.ref W.wa), sd (cs "a"), .dict [(cs "k", d)], .val (.ref na)] ++ [.none]) (RepL.weak (V := fun a => a ∈ vls W P l) (r.append (.cons .none .nil)) fun a (q : a ∈ vls W P l \/ a ∈ []) => q.elim id fun h => nomatch h)
 · (refine x13 hbd ?_; clear hbd; rintro fd ⟨hcd, hql⟩ e1 e2)
   have hcode : env.code = .ref 146 := e1.trans hcd
   have hqual : env.qual ++ oS "<lambda>" = stQual := by rw [e2, hql]; rfl
   have hA1 : Room c (n + 3) (A.deeper env) := hA.deeper env
   have hOT : OwnT c (A.deeper env) env (msc 8) env.cells := ⟨hO, fun q => absurd q S0.stN⟩
   have F' : Fm c (msc 8) env (fun a => a ∈ vls W P l) (hideAll s.heap []) env.cells X (ρS W na d) s₁ := F
   have w := Wk.enter F' hvb g fun a ha => (hX a ha).elim id fun h => nomatch h
   have q : Wq c (msc 8) env (vls W P l) env.cells s X (ρS W na d) s₁ P (env.qual ++ oS "<lambda>") lamPos := ⟨w, by rw [hqual]; exact hP.keeps g.keep, fun a _ _ o e => g.keep _ _ e⟩
   refine start_1 SS WK q V.mP hA1 hOT hcode fun B1 qa X1 s1' hk₁ hSet q₁ => ?_
   refine start_2 (c := c.at B1) (SS.at hk₁) (WK.at hk₁) q₁ V.mP (hA1.at _) hOT.at fun B2 m X2 s2 hk₂ hm q₂ => ?_
   have hk12 := hk₁.trans hk₂
   refine start_3 (c := c.at B2) (SS.at hk12) (WK.at hk12) (hSet.at fun o e => hk₂ _ _ e) hm q₂ VO (hA1.at _) hOT.at hcode fun B3 z1 z2 X3 s₃ hk₃ ht q₃ => ?_
   have hk13 := hk12.trans hk₃
   have SS3 := SS.at hk13
   have WK3 := WK.at hk13
   rw [hqual] at q₃
   refine start_4 (c := c.at B3) SS3 WK3 ht q₃ V.mP (hA1.at _) hOT.at fun X4 s4 q₄ => ?_
   refine start_5 (c := c.at B3) SS3 WK3 q₄ V hsa hoa (hA1.at _) fun s5 q₅ => ?_
   refine start_6 (c := c.at B3) SS3 WK3 ht q₅ V (hA1.at _) hOT.at fun X6 s6 t q₆ => ?_
   refine start_7 (c := c.at B3) SS3 WK3 q₆ V (hA1.at _) hf K₀ (hesc B3 hk13) fun B X' s7 ev s8 q7 hB fly => ?_
   have K7 := q7.w.stk hf K₀ V.mF q7.kf
   have hLp : ∀ a o, s.heap.get? a = some o -> a ≠ env.locals := fun a o e q => by rw [q, hnl] at e; cases e
   refine flyH_leaves (G := fun e s'' => s.toks <= s''.toks -> ErrQ (vls W P l) l "TypeError" mm (PostW P W.oa) s e s'') hf fly fun s9 fly' _ => ⟨B, s7, ⟨q7.w.far, q7.w.mn, fun b o e => ?_, q7.kf, fun a ha => ?_⟩, ?_, fly'⟩
   · have hb := of_hideAll _ e
     have hbv : b ∉ vls W P l := fun q => by rw [hideAll_none _ q] at e; cases e
     subst hB
     refine hideAll_get _ (q7.w.far.keep b o hbv hb) fun q => ?_
     rw [frs, List.filterMap_cons, hf] at q
     rcases mC.mp q with q | q
     · exact hLp b o hb q
     · exact hbv (V.mF b q)
   · obtain ⟨o, e⟩ := (q7.w.live0 a ha).1
     by_cases h : a ∈ frs l
     · obtain ⟨_, o', e', hd⟩ := K7.frames.mem (b := a) (by rw [List.filterMap_cons, hf]; exact .tail _ h)
       exact .inr ⟨o', e', hd⟩
     · subst hB
       refine .inl ⟨o, hideAll_get _ e fun q => ?_⟩
       rw [frs, List.filterMap_cons, hf] at q
       rcases mC.mp q with q | q
       · (refine x12 q7.w.fm ?_; intro _ F7 _)
         obtain ⟨_, _, _, h2, _⟩ := F7.sto
         exact (q7.w.live0 a ha).2 (q ▸ h2 ▸ .head _)
       · exact h q
   · subst hB
     refine ⟨q7.hP.hide fun a ha o e => ?_, ?_⟩
     · obtain ⟨_, o', e', hd⟩ := K7.frames.mem ha
       rw [e] at e'; cases e'; exact hd
     · obtain ⟨no', e⟩ := q7.ho
       refine ⟨no', t, hideAll_get _ e fun q => ?_⟩
       rw [frs, List.filterMap_cons, hf] at q
       rcases mC.mp q with q | q
       · exact hLp _ _ hoa q
       · exact hfo q
 · cases r with
   | error e => exact q
   | ok f =>
    cases f with
    | ret v => exact fun ht => (q ht)
    | _ => exact q.elim
end
end
section
section
variable {c c' : Cx} {n : Nat} {sc : Scope} {ρ ρ' : Sto} {env : Env} {Cs : List (Str × Addr)} {X X' : List Addr} {s s' s₀ : Shared} {vl vl' fl : List Addr} {A : Around} {P na : Addr} {K : Frag} {W : WA} {d : D} {qual : Str} {pos : Pos} {l : List Env} {B0 : Heap} {mm : List Nat} {T : String} {Post : Heap -> Prop} {ev : Value}
theorem PSt.stp (p : PSt P qual pos s.heap) (t : Stp X s X' s') (hP : P ∉ X) (hn : ∀ a ∈ X, ∀ o, s.heap.get? a = some o -> ∀ vs, o.data ≠ .fields vs) : PSt P qual pos s'.heap := by
 cases p with
 | miss h => exact .miss (t.keep _ _ hP h)
 | hit c1 h1 h2 =>
  refine .hit c1 (t.keep _ _ hP h1) ?_
  (refine x44 h2 ?_; clear h2; intro c2 oc vs tq e1 e2 hd h3)
  exact ⟨c2, oc, vs, tq, e1, t.keep _ _ (fun hx => hn c2 hx oc e2 vs hd) e2, hd, h3⟩
theorem ErrQ.leaves {G : Value -> Shared -> Prop} {M : Model} (w : Wk c sc env vl Cs s₀ X ρ s) (hst : A.frames = some (env :: l)) (hf : env.frame = some env.locals) (hs : ∀ a ∈ vl', a ∈ vl \/ a = env.locals) (kf : ∀ a ∈ l.filterMap (·.frame), ∀ o, s₀.heap.get? a = some o -> s.heap.get? a = some o) (q : ErrQ vl' (env :: l) T mm Post s ev s')
 (k : ∀ s'', ErrQ vl l T mm Post s₀ ev s'' -> G ev s'') : wpAny M A (leaving env ev) (fun _ s'' => G ev s'') (fun e' s'' => G e' s'') s' := by
 obtain ⟨B, s₁, ⟨far, mn, hk, kf', lv⟩, hp, fly⟩ := q
 obtain ⟨⟨e, t, tk, rfl, hfl, htup, ht⟩, hu, htk, hg, ho⟩ := fly
 have hL0 : s₀.heap.get? env.locals = none := by
  (refine x12 w.fm ?_; intro h0 F hv)
  obtain ⟨_, _, _, h2, _⟩ := F.sto
  exact w.new _ (h2 ▸ .head _)
 have hb' : ∀ b o, b ∉ vl -> s₀.heap.get? b = some o -> b ∉ vl' := fun b o nb e q => (hs b q).elim nb fun q => by rw [q, hL0] at e; cases e
 have hkl : ∀ b o, b ∉ vl' -> s.heap.get? b = some o -> B.get? b = some o := fun b o nb e => hk _ _ (hideAll_get _ e nb)
 refine wpAny_leaves_onW hst hf hfl fun h' hfl' hu' => k _ ⟨B, s₁, ⟨⟨fun b o nb e => far.keep b o (hb' b o nb e) (w.far.keep b o nb e), Nat.le_trans w.far.tok far.tok⟩, w.mn.trans mn, fun b o e => ?_, fun a ha o e => kf' a (by rw [List.filterMap_cons, hf]; exact .tail _ ha) o (kf a ha o e), fun a ha => ?_⟩, hp, ⟨⟨e, t, tk, rfl, hfl', htup.of_slots hu', ht⟩, hu.trans hu', htk, hg, ho⟩⟩
 rotate_left
 · by_cases h : a ∈ vl'
   · exact lv a h
   · obtain ⟨o, e⟩ := (w.live0 a ha).1
     exact .inl ⟨o, hkl a o h e⟩
 have hb := of_hideAll _ e
 have nb : b ∉ vl := fun q => by rw [hideAll_none _ q] at e; cases e
 exact hk _ _ (hideAll_get _ (w.far.keep b o nb hb) (hb' b o nb hb))
end
end
section
section
variable {c : Cx} {n : Nat} {s : Shared} {A : Around} {P : Addr} {K : Frag} {W : WA} {d : D} {l : List Env} {B0 : Heap} {mm : List Nat}
noncomputable abbrev vld (W : WA) (P : Addr) (l : List Env) : List Addr := W.da :: vls W P l
noncomputable abbrev ρ0 (W : WA) (d : D) : Sto := [("self", .val (.val (.ref W.wa))), ("tag", .val (sd (cs "a"))), ("attrs", .val (.dict [(cs "k", d)]))]
theorem wb_of (SS : SFs c K P) (st : WSt 171 W c.base) : WB c K W := ⟨SS.here.hn, SS.here.XK, SS.here.OK, SS.here.flds, st⟩
theorem startM_X {n0 no n1 : Nat} {vs : List Value} (SS : SFs c K P) (st : WSt 171 W c.base) (hesc : ∀ B, Keeps c.base B -> FnX (c.at B) (n + 3) (.ref 189) [d] "TypeError" mm) (hA : Room c (n + 5) A) (hS : St c (fun a => a ∈ vld W P l) s) (K₀ : Stk c A B0 l s.heap) (hvb : ∀ a ∈ vld W P l, c.base.get? a = none)
 (hP : PSt P stQual lamPos s.heap) (hsa : s.heap.get? W.sa = some (listObj #[.bool false] n0)) (hoa : s.heap.get? W.oa = some (listObj #[] no)) (hda : s.heap.get? W.da = some (listObj #[.ref W.l0] n1)) (hso : W.sa ≠ W.oa) (hds : W.da ≠ W.sa) (hdo : W.da ≠ W.oa) (hfs : W.sa ∉ frs l) (hfo : W.oa ∉ frs l) (hfd : W.da ∉ frs l)
 (r : RepL c (fun a => a ∈ vld W P l) s [.val (.ref W.wa), sd (cs "a"), .dict [(cs "k", d)]] vs) :
 wpAny c.M A (call (.ref 141) vs) (fun _ _ => False) (ErrQ (vld W P l) l "TypeError" mm (PostW P W.oa) s) s := by
 have S0 := SS.here
 have hn := S0.hn
 have Y := wb_of SS st
 obtain ⟨V, VO⟩ := vs_of hP hsa hoa hso K₀.frames hfs hfo
 obtain ⟨ps, hPt⟩ := hP.tab
 have hdP : W.da ≠ P := fun q => by rw [q, hPt] at hda; cases hda
 refine wT (Nat.le_refl _) (fn_enter (Q := fun _ s' => s.toks <= s'.toks -> False) (E := fun e s' => s.toks <= s'.toks -> ErrQ (vld W P l) l "TypeError" mm (PostW P W.oa) s e s') S0.sm.toIsDefL rfl hA hS r fun env X s₁ hf hnl g F hO hX => ?_)
 refine hideE fun E' hE => ?_
 have hA1 : Room c (n + 4) (A.deeper env) := hA.deeper env
 have hOT : OwnT c (A.deeper env) env (msc 7) env.cells := ⟨hO, fun q => absurd q S0.sm.nl⟩
 have F' : Fm c (msc 7) env (fun a => a ∈ vld W P l) s.heap env.cells X (ρ0 W d) s₁ := F
 have w := Wk.enter F' hvb g hX
 have q : Wq c (msc 7) env (vld W P l) env.cells s X (ρ0 W d) s₁ P stQual lamPos := ⟨w, hP.keeps g.keep, fun a _ _ o e => g.keep _ _ e⟩
 have mP : P ∈ vld W P l := .tail _ (.head _)
 refine q.sn rfl mP hA1 hOT (.ite (b := false) (.boolop (.and (a := false) (b := false) (.cmp (.fld (d := .none) (v := .none) Y rfl (by decide) (fun m wf => wf.et) rfl (fun _ _ => .none)) .none (.isNotN rfl)) fun q => nomatch q)) (fun q => nomatch q) fun _ => .nil ⟨rfl, rfl⟩) fun X2 s2 q₂ => ?_
 refine q₂.sn rfl mP hA1 hOT (.ite (b := false) (.val (.fld (d := .val (.ref W.la)) (v := .ref W.la) Y rfl (by decide) (fun m wf => wf.data) rfl (fun _ _ => .val _)) (TruR.base ⟨_, st.la, rfl, _, rfl⟩)) (fun q => nomatch q) fun _ => .nil ⟨rfl, rfl⟩) fun X3 s₃ q₃ => ?_
 -- new_namespaces = []
 refine Wk.assign (vl := vld W P l) (s₀ := s) (ρ := ρ0 W d) hOT (by (refine x12 q₃.w.fm ?_; intro _ F _); exact F.scope) (.inl rfl) ?_
 refine wpAny_List (wN ⟨by rw [sizeLine_eq]; simp, ?_⟩)
 have g₄ : Gr s₃ { s₃ with heap := s₃.heap.push (listObj #[] 0) } := .push _
 have w4 := q₃.w.gr g₄
 obtain ⟨hk₄, w4'⟩ := w4.rebase
 have hna := q₃.w.hid (s' := { s₃ with heap := s₃.heap.push (listObj #[] 0) }) (get_size s₃.heap) (Heap.get?_push_size (o := listObj #[] 0) _ rfl)
 have q₄ := q₃.next (c' := c.at (hideAll ({ s₃ with heap := s₃.heap.push (listObj #[] 0) } : Shared).heap (vld W P l ++ X3))) rfl mP (.of_gr g₄) w4'
 refine ⟨_, .val (.ref s₃.heap.objs.size), X3, w4', .val _, fun X5 s5 t5 w₅ => ?_⟩
 have q₅ := q₄.next rfl mP t5 w₅
 generalize s₃.heap.objs.size = na at hna q₅ w₅ ⊢
 generalize (hideAll ({ s₃ with heap := s₃.heap.push (listObj #[] 0) } : Shared).heap (vld W P l ++ X3)) = B1 at hk₄ hna q₅ w₅ ⊢
 have SS1 := SS.at hk₄
 have st1 : WSt 171 W (c.at B1).base := st.keeps hk₄
 have Y₁ := wb_of SS1 st1
 have hA5 : Room (c.at B1) (n + 4) (A.deeper env) := hA1.at _
 have hO5 : OwnT (c.at B1) (A.deeper env) env (msc 7) env.cells := hOT.at
 have hkv : ∀ a ∈ vld W P l, a ≠ P -> a ≠ W.da -> ∀ o, s.heap.get? a = some o -> s5.heap.get? a = some o := fun a h h1 _ o e => q₅.kv a h h1 o e
 -- self._declared_ns_stack.append(new_namespaces)
 (refine x12 q₅.w.fm ?_; intro h5 F5 hv5)
 have hd5 := q₅.kv _ (.head _) hdP _ hda
 refine wE (wpAny_Expr ?_ q₅.w.int rfl)
 refine wpAny_Call_method (T := "list") (id := "list.append") rfl rfl rfl PySem.F.plainAttrs_list PySem.F.slot_list_append PySem.F.type_list_append ?_
 refine wM ((Ev.fld (n := n + 4) (sc := msc 7) (k := true) (ρ := setS (ρ0 W d) "new_namespaces" (.val (.val (.ref na)))) (x := "self") (y := "_declared_ns_stack") (d := .val (.ref W.da)) (v := .ref W.da) Y₁ rfl (by decide) (fun m wf => wf.decl) rfl (fun _ _ => .val _)).run (A.deeper env) env _ h5 env.cells X5 s5 hA5 F5) (fun v s6 q₆ => ?_) fun _ _ q => q.elim
 obtain ⟨g6, r6⟩ := q₆
 cases r6.inv
 have hd6 := g6.keep _ _ hd5
 refine ⟨⟨_, hd6, rfl⟩, (fun b hb => by cases hb; exact ⟨_, hd6, rfl⟩), (Callee.builtin (c := c.at B1) "list.append").wp (first := [.ref W.da]) rfl ?_⟩
 refine wI (wM ((Ev.name (c := c.at B1) (n := n + 4) (sc := msc 7) (k := true) (ρ := setS (ρ0 W d) "new_namespaces" (.val (.val (.ref na)))) (x := "new_namespaces") (d := .val (.ref na)) rfl).run (A.deeper env) env _ h5 env.cells X5 s6 hA5 (F5.gr g6)) (fun v s7 q7 => ?_) fun _ _ q => q.elim) (starEach_cons rfl)
 obtain ⟨g7, r7⟩ := q7
 cases r7.inv
 have g67 := g6.trans g7
 have hd7 := g67.keep _ _ hd5
 refine wN ⟨((F5.gr g67).base.trans (F5.gr g67).keep), ?_⟩
 refine append_wp hd7 rfl ⟨rfl, rfl⟩ rfl (fun h' o' n' e1 e2 e3 e4 e5 => ?_) (by simp)
 have w8 : Wk (c.at B1) (msc 7) env (vld W P l) env.cells s X5 (setS (ρ0 W d) "new_namespaces" (.val (.val (.ref na)))) { s7 with heap := h' } := (q₅.w.gr g67).turn (.head _) (Far.same e5 (Nat.le_refl _)) ⟨Nat.le_refl _, .rfl, rfl⟩ (fun o e w hw => by rw [hd7] at e; cases e; cases hw) ⟨_, e1⟩
 have hd8 : h'.get? W.da = some (listObj #[.ref W.l0, .ref na] n') := by rw [e1, obj_eq e2 e3 e4]; rfl
 have hP8 : PSt P stQual lamPos h' := (q₅.hP.keeps g67.keep).same e5 hdP hd7 (fun vs q => nomatch q)
 have kv8 : ∀ a ∈ vld W P l, a ≠ P -> a ≠ W.da -> ∀ o, s.heap.get? a = some o -> h'.get? a = some o := fun a h h1 h2 o e => (e5.2 a h2).trans (g67.keep _ _ (hkv a h h1 h2 o e))
 -- no qname aware tags
 refine w8.sn hA5 hO5 (.ite (b := false) (.boolop (.and (a := false) (b := false) (.cmp (.fld (d := .none) (v := .none) Y₁ rfl (by decide) (fun m wf => wf.qt) rfl (fun _ _ => .none)) .none (.isNotN rfl)) fun q => nomatch q)) (fun q => nomatch q) fun _ => .nil ⟨rfl, rfl⟩) fun X9 s9 t9 w9 => ?_
 have nX : ∀ a ∈ vld W P l, a ∉ X5 := fun a h => (w8.live0 a h).2
 have hP9 : PSt P stQual lamPos s9.heap := PSt.stp hP8 t9 (nX P mP) (w8.nofields rfl)
 have hd9 := t9.keep _ _ (nX _ (.head _)) hd8
 have kv9 : ∀ a ∈ vld W P l, a ≠ P -> a ≠ W.da -> ∀ o, s.heap.get? a = some o -> s9.heap.get? a = some o := fun a h h1 h2 o e => t9.keep _ _ (nX a h) (kv8 a h h1 h2 o e)
 clear hkv kv8 hP8
 -- self._start(..)
 (refine x12 w9.fm ?_; intro h9 F9 hv9)
 refine wE (wpAny_Expr_any ?_ w9.int rfl)
 refine Call_meth rfl rfl rfl rfl (wM ((Ev.name (c := c.at B1) (n := n + 4) (sc := msc 7) (k := true) (ρ := setS (ρ0 W d) "new_namespaces" (.val (.val (.ref na)))) (x := "self") (d := .val (.ref W.wa)) rfl).run (A.deeper env) env _ h9 env.cells X9 s9 hA5 F9) (fun ov sa qa => ?_) fun _ _ q => q.elim)
 obtain ⟨ga, ra⟩ := qa
 cases ra.inv
 intro pl
 refine wM (meth_wp Y₁ SS1.here.stM ((F9.gr ga).base.trans (F9.gr ga).keep) (by decide)) (fun r' sb qb => ?_) fun _ _ q => q.elim
 obtain ⟨rfl, rfl⟩ := qb
 refine SS1.here.stC.wp (first := [.ref W.wa]) rfl (wM ((EvL.cons (c := c.at B1) (n := n + 4) (sc := msc 7) (k := true) (ρ := setS (ρ0 W d) "new_namespaces" (.val (.val (.ref na)))) (d := sd (cs "a")) (.name rfl) (.cons (d := .dict [(cs "k", d)]) (.name rfl) (.cons (d := .val (.ref na)) (.name rfl) .nil))).run (A.deeper env) env _ h9 env.cells X9 sb _ hA5 (F9.gr ga)) (fun us sc' qc => ?_) fun _ _ q => q.elim)
 obtain ⟨gc, rc⟩ := qc
 have gac := ga.trans gc
 have wc := w9.gr gac
 refine ⟨wc.kb, ?_⟩
 (refine x12 wc.fm ?_; intro hc0 Fc hvc)
 have hLX : env.locals ∈ X9 := by obtain ⟨_, _, _, h2, _⟩ := Fc.sto; exact h2 ▸ .head _
 have hL0 : s.heap.get? env.locals = none := wc.new _ hLX
 have hPc := hP9.keeps gac.keep
 have hdc := gac.keep _ _ hd9
 have mS : W.sa ∈ vld W P l := .tail _ V.mS
 have mO : W.oa ∈ vld W P l := .tail _ V.mO
 have hsc := gac.keep _ _ (kv9 _ mS V.sP (Ne.symm hds) _ hsa)
 have hoc := gac.keep _ _ (kv9 _ mO V.oP (Ne.symm hdo) _ hoa)
 have hsub : ∀ a ∈ vls W P (env :: l), a ∈ vld W P l \/ a = env.locals := fun a ha => by
  rcases mC.mp ha with rfl | ha
  · exact .inl mP
  · rcases mC.mp ha with rfl | ha
    · exact .inl mS
    · rcases mC.mp ha with rfl | ha
      · exact .inl mO
      · rw [frs, List.filterMap_cons, hf] at ha
        rcases mC.mp ha with q | ha
        · exact .inr q
        · exact .inl (.tail _ (V.mF a ha))
 have hlL : ∀ a o, s.heap.get? a = some o -> a ≠ env.locals := fun a o e q => by rw [q, hL0] at e; cases e
 have hfr : ∀ a o, s.heap.get? a = some o -> a ∉ frs l -> a ∉ frs (env :: l) := fun a o e h q => by
  rw [frs, List.filterMap_cons, hf] at q
  exact (mC.mp q).elim (hlL a o e) h
 have kfc : ∀ a ∈ frs l, ∀ o, s.heap.get? a = some o -> sc'.heap.get? a = some o := fun a h o e => gac.keep _ _ (kv9 a (.tail _ (V.mF a h)) (fun q => V.fP (q ▸ h)) (fun q => hfd (q ▸ h)) o e)
 have K9 := wc.stk hf K₀ (fun a h => .tail _ (V.mF a h)) kfc
 -- the base for _start
 have hBn : ∀ a, a ∈ vls W P (env :: l) ++ X9 -> B1.get? a = none := fun a ha => by
  have hx : ∀ b ∈ X9, B1.get? b = none := fun b hb => by
   cases e : B1.get? b with
   | none => rfl
   | some o => have := Fc.base _ _ e; rw [Fc.new _ hb] at this; cases this
  rcases mA.mp ha with ha | ha
  · rcases hsub a ha with h | h
    · exact wc.base a h
    · exact hx a (h ▸ hLX)
  · exact hx a ha
 have hk₂ : Keeps B1 (hideAll sc'.heap (vls W P (env :: l) ++ X9)) := fun b o e => hideAll_get _ (wc.kb _ _ e) fun q => by rw [hBn b q] at e; cases e
 have hdv : W.da ∉ vls W P (env :: l) ++ X9 := fun q => by
  rcases mA.mp q with q | q
  · rcases mC.mp q with q | q
    · exact hdP q
    · rcases mC.mp q with q | q
      · exact hds q
      · rcases mC.mp q with q | q
        · exact hdo q
        · exact hfr _ _ hda hfd q
  · exact (wc.live0 _ (.head _)).2 q
 have Gd : ((c.at B1).at (hideAll sc'.heap (vls W P (env :: l) ++ X9))).Good := ⟨Fc.good.g.keeps hk₂, Fc.good.b.keeps hk₂, Fc.good.lim.keeps hk₂⟩
 have hk02 : Keeps c.base (hideAll sc'.heap (vls W P (env :: l) ++ X9)) := hk₄.trans hk₂
 have rr : RepL (c.at (hideAll sc'.heap (vls W P (env :: l) ++ X9))) (fun a => a ∈ vls W P (env :: l)) sc' [sd (cs "a"), .dict [(cs "k", d)], .val (.ref na)] us :=
  RepL.mapA (c := c.at B1) (c' := c.at (hideAll sc'.heap (vls W P (env :: l) ++ X9))) (V' := fun a => a ∈ vls W P (env :: l)) (V := VK true (fun a => a ∈ vld W P l) X9) rfl (fun a o nv e _ => ⟨fun h => nv ⟨rfl, (hsub a h).imp id fun (q : a = env.locals) => q ▸ hLX⟩, e⟩) rc
 have hrun := start_X (c := c.at (hideAll sc'.heap (vls W P (env :: l) ++ X9))) (n := n) (na := na) (l := env :: l) (B0 := hideAll sc'.heap (frs (env :: l))) (A := A.deeper env) (s := sc') (vs := [.ref W.wa] ++ us) (d := d) (mm := mm) (W := W) (n0 := n0) (no := no) (SS.at hk02)
  ⟨st.keeps hk02, ⟨_, hideAll_get _ hdc hdv, rfl, _, rfl⟩, ⟨_, hk02 _ _ st.l0, rfl, _, rfl⟩, ⟨_, hk₂ _ _ hna, rfl, _, rfl⟩⟩ (fun B hB => hesc B (hk02.trans hB)) (hA1.at _)
  ⟨Gd, fun b o e => of_hideAll _ e, Fc.tok, fun a ha => (hsub a ha).elim (fun h => (wc.live0 a h).1) fun h => h ▸ wc.liveX _ hLX⟩
  ⟨K9.stack, (fun b o e => hideAll_get _ (of_hideAll _ e) fun q => by rw [hideAll_none _ (mL _ (.tail _ (.tail _ (.tail _ q))))] at e; cases e), K9.stays, K9.frames⟩
  (fun a ha => hideAll_none _ (mL _ ha)) hPc hsc hoc hso (hfr _ _ hsa hfs) (hfr _ _ hoa hfo)
  (.cons (.val _) rr)
 refine wM hrun (fun _ _ q => q.elim) fun ev s'' q => hE _ _ ?_
 exact ErrQ.leaves (G := fun e s'' => s.toks <= s''.toks -> s.toks <= s''.toks -> ErrQ (vld W P l) l "TypeError" mm (PostW P W.oa) s e s'') wc K9.stack hf hsub kfc q fun s3 q3 _ _ => q3
end
end
section
section
variable {c : Cx} {n : Nat} {K : Frag} {W : WA}
theorem EvX.wWrite {sc : Scope} {ρ : Sto} {x T : String} {m : List Nat} {e : Expr} {xp ap pos : Pos} (Y : WB c K W) (hx : ρ.lookup x = some (.val (.val (.ref W.wa)))) (h : EvX c n sc ρ e T m)
 (hp : plainE e = true := by rfl) (hxd : x ≠ "__debug__" := by decide) (hline : (ap.endLine == pos.line) = true := by rfl)
 (hbase : ∀ env : Env, attributeBase (.Name (oS x) xp) (oS "_write") env (eval (.Name (oS x) xp) env) = eval (.Name (oS x) xp) env := by intro _; rfl) :
 EvX c n sc ρ (.Call (.Attribute (.Name (oS x) xp) (oS "_write") ap) [e] [] pos) T m := .mk fun A env V0 h0 Cs X s B l hA hH F KK hV => by
 refine Call_meth (hbase env) (by simp [hp]) rfl hline (wM ((Ev.name (k := true) hx hxd).run A env V0 h0 Cs X s hA F) (fun ov s₁ q₁ => ?_) fun _ _ q => q.elim)
 obtain ⟨g₁, r₁⟩ := q₁
 cases r₁.inv
 intro pl
 have F₁ := F.gr g₁
 (refine x12 ((Y.st.keeps (F₁.base.trans F₁.keep)).inst) ?_; intro m' I wf)
 refine get_methField (Y.XK.keeps (F₁.base.trans F₁.keep)) Y.OK I (Y.flds "_write" (by decide)) wf.write rfl ?_
 have g₂ : Gr s₁ { s₁ with toks := s₁.toks + 1 } := Gr.toks (Nat.le_succ _)
 have g₁₂ := g₁.trans g₂
 refine callWith_bound (id := "list.append") (pa := W.oa) (noStar_all (by simp [hp])) (evalArgs_of (by simp [hp]) (wI ?_ (starEach_cons hp)))
 exact wM (h.run A env V0 h0 Cs X _ B l hA (hH.keeps g₁₂.keep) (F.gr g₁₂) (KK.gr g₁₂) hV) (fun _ _ q => q.elim) fun _ _ q => q.gr g₁₂
theorem Ev.fB {sc : Scope} {ρ : Sto} {k : Bool} {x y : String} {b : Bool} {xp pos : Pos} (Y : WB c K W) (hx : ρ.lookup x = some (.val (.val (.ref W.wa)))) (hy : y ∈ initNames) (hf : ∀ m, WF W.ba W.la W.da W.sa m -> m (oS y) = some (.bool b)) (hxd : x ≠ "__debug__" := by decide) :
 Ev c n sc k ρ (.Attribute (.Name (oS x) xp) (oS y) pos) (.bool b) := .fld (v := .bool b) Y hx hy hf rfl (fun _ _ => .bool _) hxd
theorem Ev.fDepth {sc : Scope} {ρ : Sto} {k : Bool} {x : String} {xp pos : Pos} (Y : WB c K W) (hx : ρ.lookup x = some (.val (.val (.ref W.wa)))) (hxd : x ≠ "__debug__" := by decide) :
 Ev c n sc k ρ (.Attribute (.Name (oS x) xp) (oS "_ignored_depth") pos) (.int 0) := .mk fun A env V0 h0 Cs X s hA F => by
 refine Attribute_name (wM ((Ev.name (k := true) hx hxd).run A env V0 h0 Cs X s hA F) (fun v s₁ q₁ => ?_) fun _ _ q => q)
 obtain ⟨g₁, r₁⟩ := q₁
 cases r₁.inv
 have F₁ := F.gr g₁
 (refine x12 ((Y.st.keeps (F₁.base.trans F₁.keep)).inst) ?_; intro m' I wf)
 obtain ⟨t, ht⟩ := wf.depth
 refine get_field (Y.XK.keeps (F₁.base.trans F₁.keep)) Y.OK I (Y.flds _ (by decide)) ht rfl ⟨g₁.trans (Gr.toks (Nat.le_succ _)), .int _ _⟩
theorem comment_X {d : D} {mm : List Nat} (Y : WB c K W) (hd : IsDef c 161 (msc 10) ["self", "text"] (mbd 10)) (he : c.mg (oS "_escape_cdata_c14n") = some (.ref 182)) (hec : Callee c (.ref 182)) (hesc : FnX c n (.ref 182) [d] "TypeError" mm) :
 FnX c (n + 1) (.ref 161) [.val (.ref W.wa), d] "TypeError" mm := .mk fun A V s vs B l hA hH KK hV hS r => by
 refine wT (Nat.le_refl _) (fn_enter (Q := fun _ s' => s.toks <= s'.toks -> False) (E := fun e s' => s.toks <= s'.toks -> Fly B l "TypeError" mm s e s') hd.toIsDefL rfl hA hS r fun env X s₁ hf hnl g F hO hX => ?_)
 have hA1 := hA.deeper env
 refine if_skip hA1 F (.to (.not (.val (.fB Y rfl (by decide) (fun m wf => wf.com)) TruR.bool)) rfl) fun s2 g₂ => ?_
 refine if_skip hA1 (F.gr g₂) (.to (.val (.fDepth Y rfl) TruR.int) rfl) fun s₃ g₃ => ?_
 refine if_skip2 hA1 (F.gr (g₂.trans g₃)) (.val (.fB Y rfl (by decide) (fun m wf => wf.done)) TruR.bool) (.to (.boolop (.and (a := false) (b := false) (.val (.fB Y rfl (by decide) (fun m wf => wf.seen)) TruR.bool) fun q => nomatch q)) rfl) fun s4 g₄ => ?_
 have gg := (g₂.trans g₃).trans g₄
 refine wM (last_raises (n := n) (.wWrite Y rfl (.joined (.cons .lit (by decide) (.here (.fmt (.call (.glob he) hec (.cons (.name rfl) .nil) hesc)))))) hA1 hH KK hV hf hnl (g.trans gg) (F.gr gg) rfl) (fun f s' q => q) fun e s' q => ?_
 exact wM q (fun _ _ q h _ => q h) fun _ _ q h _ => q h
theorem pi_X {x : List Nat} {d : D} {mm : List Nat} (Y : WB c K W) (hd : IsDef c 168 (msc 11) ["self", "target", "data"] (mbd 11)) (he : c.mg (oS "_escape_cdata_c14n") = some (.ref 182)) (hec : Callee c (.ref 182)) (hesc : FnX c n (.ref 182) [d] "TypeError" mm) (hx : x.length <= 100) (ht : TruR c d true) :
 FnX c (n + 1) (.ref 168) [.val (.ref W.wa), sd x, d] "TypeError" mm := .mk fun A V s vs B l hA hH KK hV hS r => by
 refine wT (Nat.le_refl _) (fn_enter (Q := fun _ s' => s.toks <= s'.toks -> False) (E := fun e s' => s.toks <= s'.toks -> Fly B l "TypeError" mm s e s') hd.toIsDefL rfl hA hS r fun env X s₁ hf hnl g F hO hX => ?_)
 have hA1 := hA.deeper env
 refine if_skip hA1 F (.to (.val (.fDepth Y rfl) TruR.int) rfl) fun s₃ g₃ => ?_
 refine if_skip2 hA1 (F.gr g₃) (.val (.fB Y rfl (by decide) (fun m wf => wf.done)) TruR.bool) (.to (.boolop (.and (a := false) (b := false) (.val (.fB Y rfl (by decide) (fun m wf => wf.seen)) TruR.bool) fun q => nomatch q)) rfl) fun s4 g₄ => ?_
 have gg := g₃.trans g₄
 refine wM (last_raises (n := n) (.wWrite Y rfl (.ite (.val (.name rfl) ht) (.joined (.cons .lit (by decide) (.cons (.fmt (.name rfl) (by exact lt4 (by assumption) rfl)) hx (.cons .lit (by decide) (.here (.fmt (.call (.glob he) hec (.cons (.name rfl) .nil) hesc))))))))) hA1 hH KK hV hf hnl (g.trans gg) (F.gr gg) rfl) (fun f s' q => q) fun e s' q => ?_
 exact wM q (fun _ _ q h _ => q h) fun _ _ q h _ => q h
end
end
section
section
variable {c c' : Cx} {n : Nat} {sc : Scope} {ρ ρ' : Sto} {env : Env} {V0 Pv : Addr -> Prop} {h0 h0' : Heap} {Cs : List (Str × Addr)} {X X' : List Addr} {s s' s₀ s₁ : Shared} {vl vl' fr : List Addr} {A : Around} {l : List Env} {B B0 : Heap}
theorem Fm.noted2 (F : Fm c sc env V0 h0 Cs X ρ s) (keep : ∀ b o, ¬ Pv b -> b ∉ fr -> s.heap.get? b = some o -> s'.heap.get? b = some o) (up : ∀ b o, b ∈ fr -> s.heap.get? b = some o -> ∃ sl, s'.heap.get? b = some { o with slots := sl }) (htk : s.toks <= s'.toks)
 (hfr : ∀ a ∈ fr, V0 a \/ a = env.locals) (hP : ∀ a, Pv a -> V0 a) (hlv : ∀ a, Pv a -> ∃ o, s'.heap.get? a = some o) (hb : Keeps c.base h0') (hk : Keeps h0' s'.heap) (hn : ∀ a ∈ X, h0'.get? a = none) (hcs : Cs = env.cells) : Fm c sc env V0 h0' Cs X ρ s' := by
 obtain ⟨m, fps, h1, h2, h3, h4, h6, h5⟩ := F.sto
 have hLX : env.locals ∈ X := h2 ▸ .head _
 have hPX : ∀ a ∈ X, ¬ Pv a := fun a ha q => (F.live0 a (hP a q)).2 ha
 have hoff : ∀ a, ¬ Vol V0 X a -> a ∉ fr := fun a na q => (hfr a q).elim (fun q => na (.inl q)) fun q => na (.inr (q ▸ hLX))
 have hoffP : ∀ a, ¬ Vol V0 X a -> ¬ Pv a := fun a na q => na (.inl (hP a q))
 have hX : ∀ a ∈ X, a ≠ env.locals -> a ∉ fr := fun a ha hne q => (hfr a q).elim (fun q => (F.live0 a q).2 ha) hne
 have hlive : ∀ a o, s.heap.get? a = some o -> ∃ o', s'.heap.get? a = some o' := fun a o e => by
  by_cases q : a ∈ fr
  · obtain ⟨sl, e'⟩ := up a o q e; exact ⟨_, e'⟩
  · exact (Classical.em (Pv a)).elim (fun p => hlv a p) fun p => ⟨o, keep a o p q e⟩
 have hndL : env.locals ∉ Cs.map (·.2) ++ fps := (List.nodup_cons.mp (h2 ▸ h3)).1
 have hcm : Calm (Vol V0 X) s s' := ⟨htk, fun b o nb e _ => keep b o (hoffP b nb) (hoff b nb) e⟩
 have hns : s'.heap.Ns env.locals m := by
  (refine x33 h1 ?_; clear h1; intro o es ep ho hd r)
  by_cases q : env.locals ∈ fr
  · obtain ⟨sl, e'⟩ := up _ o q ho; exact ⟨_, es, ep, e', hd, r⟩
  · exact ⟨o, es, ep, keep _ o (hPX _ hLX) q ho, hd, r⟩
 refine ⟨F.good, F.scope, F.kind, F.globals, F.builtins, hb, hk, fun e => F.tok (Nat.le_zero.mp (e ▸ htk)), fun a q => ⟨let ⟨o, e⟩ := (F.live0 a q).1; hlive a o e, (F.live0 a q).2⟩, F.ccells, hn, F.cells, F.cinj,
  m, fps, hns, h2, h3, fun a ha => let ⟨o, e⟩ := h4 a ha; hlive a o e, fun p hp => ?_, h5.change hcm (fun a ha o e => keep a o (hPX a (h2 ▸ .tail _ (mR _ ha))) ?_ e) (fun _ _ _ => rfl) fun p hp a o w hc e hw => ?_⟩
 · (refine x22 (h6 p hp) ?_; intro v o e d)
   have hp2 : p.2 ∈ Cs.map (·.2) := List.mem_map_of_mem hp
   have hpx : p.2 ∈ X := h2 ▸ .tail _ (mL _ hp2)
   exact ⟨v, o, keep _ o (hPX _ hpx) (hX _ hpx fun q => hndL (q ▸ mL _ hp2)) e, d⟩
 · exact hX a (h2 ▸ .tail _ (mR _ ha)) fun q => hndL (q ▸ mR _ ha)
 · have hp2 : a ∈ Cs.map (·.2) := by rw [hcs]; exact List.mem_map.mpr ⟨_, mem_lookup hc, rfl⟩
   have hax : a ∈ X := h2 ▸ .tail _ (mL _ hp2)
   exact keep a o (hPX a hax) (hX a hax fun q => hndL (q ▸ mL _ hp2)) e
theorem Lnd.keep (L : Lnd vl' l B s s₁) {h : Heap} (hst : B.StaysIn h) {b : Addr} {o : Obj} (hb : b ∉ vl') (e : s.heap.get? b = some o) : h.get? b = some o := hst b o (L.kb _ _ (hideAll_get _ e hb))
theorem Lnd.up (L : Lnd vl' l B s s₁) {h : Heap} (hu : s₁.heap.UpToSlots h) (hff : s.heap.FunFrames B0 l) {b : Addr} {o : Obj} (hb : b ∈ l.filterMap (·.frame)) (e : s.heap.get? b = some o) : ∃ sl, h.get? b = some { o with slots := sl } := by
 obtain ⟨_, o', e', hd⟩ := hff.mem hb
 rw [e] at e'; cases e'
 exact hu b o (L.kf b hb o e) hd
theorem Lnd.alive (L : Lnd vl' l B s s₁) {h : Heap} (hst : B.StaysIn h) (hu : s₁.heap.UpToSlots h) {b : Addr} (hb : b ∈ vl') : ∃ o, h.get? b = some o := by
 rcases L.lv b hb with ⟨o, e⟩ | ⟨o, e, hd⟩
 · exact ⟨o, hst b o e⟩
 · obtain ⟨sl, e'⟩ := hu b o e hd; exact ⟨_, e'⟩
theorem Lnd.fm (L : Lnd vl' (env :: l) B s s₁) (w : Wk c sc env vl Cs s₀ X ρ s) (hf : env.frame = some env.locals) (hff : s.heap.FunFrames B0 (env :: l)) (hfl : ∀ a ∈ l.filterMap (·.frame), a ∈ vl) (hs : ∀ a ∈ vl', a ∈ vl \/ a = env.locals) (hst : B.StaysIn s'.heap) (hu : s₁.heap.UpToSlots s'.heap) (htk : s₁.toks <= s'.toks) (hcs : Cs = env.cells) :
 Fm c sc env (fun a => a ∈ vl) c.base Cs X ρ s' := by
 (refine x12 w.fm ?_; intro h0 F hv)
 have hL : env.locals ∈ (env :: l).filterMap (·.frame) := by rw [List.filterMap_cons, hf]; exact .head _
 have hLX : env.locals ∈ X := by obtain ⟨_, _, _, h2, _⟩ := F.sto; exact h2 ▸ .head _
 have hbX : ∀ a ∈ X, c.base.get? a = none := fun a ha => by
  cases e : c.base.get? a with
  | none => rfl
  | some o => have := F.base _ _ e; rw [F.new _ ha] at this; cases this
 refine F.noted2 (Pv := fun a => a ∈ vl' /\ a ∉ (env :: l).filterMap (·.frame)) (fr := (env :: l).filterMap (·.frame)) (fun b o np nf e => L.keep hst (fun q => np ⟨q, nf⟩) e) (fun b o hb e => L.up hu hff hb e) (Nat.le_trans L.far.tok htk) (fun a ha => ?_) (fun a q => (hs a q.1).elim id fun h => absurd (h ▸ hL) q.2) (fun a q => L.alive hst hu q.1) (Keeps.refl _) (fun b o e => L.keep hst (fun q => ?_) (w.kb _ _ e)) hbX hcs
 · rw [List.filterMap_cons, hf] at ha
   rcases mC.mp ha with h | h
   · exact .inr h
   · exact .inl (hfl a h)
 · rcases hs b q with h | h
   · rw [w.base b h] at e; cases e
   · rw [h, hbX _ hLX] at e; cases e
end
end
section
theorem FlyingW.keeps {B : Heap} {l : List Env} {e : Addr} {cls a0 : Value} {h h' : Heap} (x : Heap.FlyingW B l e cls a0 h) (k : Keeps h h') : Heap.FlyingW B l e cls a0 h' := by
 (refine x04 x ?_; clear x; intro f1 f2 f3 r9; refine x59 r9 ?_; clear r9; intro oe vs T oT ts a1 a2 a3 a4 a5 a6 a7 a8 a9)
 exact ⟨fun b o q => k _ _ (f1 b o q), f2, f3.of_keeps fun b o q _ => ⟨o, k _ _ q, rfl⟩, oe, vs, T, oT, ts, k _ _ a1, a2, a3, a4, a5, a6, k _ _ a7, a8, a9⟩
noncomputable def OutAt (od : List D) (oa : Addr) (h : Heap) : Prop := ∃ n vs, h.get? oa = some (listObj vs n) /\ ((od = [] /\ vs = #[]) \/ (od = [sd (cs "<a")] /\ ∃ t, vs = #[.str (S (cs "<a")) t]))
structure WQ (P : Addr) (l : List Env) (s s' : Shared) : Prop where
 keep : ∀ b o, b ≠ P -> b ∉ frs l -> s.heap.get? b = some o -> s'.heap.get? b = some o
 up : ∀ b o, b ∈ frs l -> s.heap.get? b = some o -> ∃ sl, s'.heap.get? b = some { o with slots := sl }
 mn : Mn s s'
 hP : PSt P stQual lamPos s'.heap
theorem OutAt.rep {c : Cx} {V : Addr -> Prop} {s : Shared} {od : List D} {oa : Addr} (h : OutAt od oa s.heap) (hv : ¬ V oa) : Rep c V s (.list od) (.ref oa) := by
 (refine x22 h ?_; clear h; intro n vs ho h)
 rcases h with ⟨rfl, rfl⟩ | ⟨rfl, t, rfl⟩
 · exact .list hv ho rfl ⟨rfl, rfl⟩ rfl .nil
 · exact .list hv ho rfl ⟨rfl, rfl⟩ rfl (.cons (.str _ _) .nil)
section
variable {c : Cx} {n : Nat} {sc : Scope} {ρ : Sto} {env : Env} {X : List Addr} {s s' s₀ s₁ : Shared} {vl vl' : List Addr} {A : Around} {l : List Env} {B B0 : Heap} {P oa : Addr} {c₀ : Cx} {mm : List Nat} {od : List D} {ev : Value} {V : Addr -> Prop}
theorem Fm.dc {V0 : Addr -> Prop} {h0 : Heap} {Cs : List (Str × Addr)} (F : Fm c sc env V0 h0 Cs X ρ s) (hρ : allVal ρ = true) : ∀ a ∈ X, ∀ o, s.heap.get? a = some o -> (∃ es ep, o.data = .dict es ep) \/ ∃ v, o.data = .cell v := by
 obtain ⟨m, fps, h1, h2, h3, h4, h6, h5⟩ := F.sto
 intro a ha o ho
 rw [h2, h5.vals (allVal.to hρ), List.append_nil] at ha
 rcases mC.mp ha with rfl | ha
 · (refine x33 h1 ?_; clear h1; intro ob es ep e hdd _)
   rw [e] at ho; cases ho
   exact .inl ⟨_, _, hdd⟩
 · (refine x12 (List.mem_map.mp ha) ?_; rintro p hp rfl)
   (refine x22 (h6 p hp) ?_; intro v ob e hdd)
   rw [e] at ho; cases ho
   exact .inr ⟨_, hdd⟩
theorem handled {p1 p2 p3 p4 p5 p6 p7 p8 : Pos} {kk : Nat} (hn : c.hn) (w : Wk c sc env vl env.cells s₀ X ρ s) (hv : allVal ρ = true) (hA : Room c n (A.deeper env)) (hf : env.frame = some env.locals) (K₀ : Stk c₀ A B0 l s₀.heap) (hfl : ∀ a ∈ frs l, a ∈ vl) (kf : ∀ a ∈ frs l, ∀ o, s₀.heap.get? a = some o -> s.heap.get? a = some o)
 (hs : ∀ a ∈ vl', a ∈ vl \/ a = env.locals) (hvl : ∀ a ∈ vl, a = P \/ a ∈ frs l \/ s₀.heap.get? a = none) (hPl : P ∈ vl) (hol : oa ∈ vl) (ho0 : s₀.heap.get? oa = none) (hP0 : ∃ o, s₀.heap.get? P = some o) (hVl : ∀ a, V a -> ∃ o, s₀.heap.get? a = some o) (hout : ρ.lookup "out" = some (.val (.val (.ref oa))))
 (hT : c.mg (oS "TypeError") = none /\ c.mb (oS "TypeError") = some (.type "TypeError")) (hS : c.mg (oS "str") = none /\ c.mb (oS "str") = some (.type "str"))
 (hG : sc.names.lookup (oS "TypeError") = some .globalImplicit) (hG2 : sc.names.lookup (oS "str") = some .globalImplicit) (hloc : sc.names.lookup (oS "error") = some .local)
 (q : ErrQ vl' (env :: l) "TypeError" mm (fun h => PSt P stQual lamPos h /\ OutAt od oa h) s ev s') :
 wpAny c.M (A.deeper env) (noteFrame ev env) (fun _ s4 => wpAny c.M (A.deeper env) (setFlight ev none) (fun _ s5 => wpAny c.M (A.deeper env) (handleBy ev env [.ExceptHandler (some (.Name (oS "TypeError") p1)) (some (oS "error")) [.Return (some (.Tuple [.Call (.Name (oS "str") p2) [.Name (oS "error") p3] [] p4, .Name (oS "out") p5] kk p6)) p7] p8])
  (fun f s6 => ∃ v, f = .ret v /\ WQ P l s₀ s6 /\ Rep c V s6 (.tuple [sd mm, .list od]) v) (fun _ _ => False) s5) (fun _ _ => False) s4) (fun _ _ => False) s' := by
 generalize hQQ : (fun (f : Flow) (s6 : Shared) => ∃ v, f = .ret v /\ WQ P l s₀ s6 /\ Rep c V s6 (.tuple [sd mm, .list od]) v) = QQ
 replace hQQ : ∀ f s6, (∃ v, f = .ret v /\ WQ P l s₀ s6 /\ Rep c V s6 (.tuple [sd mm, .list od]) v) -> QQ f s6 := fun f s6 h => by rw [<- hQQ]; exact h
 obtain ⟨B, s₁, L, ⟨hPB, hOB⟩, ⟨e, t', tk, rfl, hfl0, htup, htn⟩, hu, htk, hg3, ho3⟩ := q
 have Ks := w.stk hf K₀ hfl kf
 refine wpAny_looks_onW Ks.stack hf hfl0 fun h₄ hh4 hu4 => wpAny_landsW hh4 fun h₅ hfl5 hu5 => ?_
 have hu05 := (hu.trans hu4).trans hu5
 have F5 : Fm c sc env (fun a => a ∈ vl) c.base env.cells X ρ { s' with heap := h₅ } := L.fm w hf Ks.frames hfl hs hfl5.1 hu05 htk rfl
 have hA5 : Room c.h n ((A.deeper env).mark (some (.ref e))) := hA.h _
 refine wpAny_handleBy_builtin_as (X := "TypeError") (T := "TypeError") (b := true) PySem.F.isExc_TypeError PySem.F.notTuple_TypeError (by rw [isSubtype_type]; kernel_rfl) ?_
 refine wM ((Ev.blt (c := c.h) (n := n) (k := true) (ρ := ρ) hT.1 hT.2 hG).run _ env _ _ _ X _ hA5 F5.h) (fun cv s6 q₆ => ?_) fun _ _ q => q.elim
 obtain ⟨g6, r6⟩ := q₆
 cases r6.inv
 have hfl6 := FlyingW.keeps hfl5 g6.keep
 refine ⟨rfl, ?_, ?_⟩
 · (refine x12 hfl6.there ?_; intro ob h1 h2)
   exact ⟨ob, h1, h2⟩
 erw [if_pos rfl]
 refine lands_againW hfl6 fun h₇ hfl7 hu7 => ?_
 have hu07 := (hu05.trans (Heap.UpToSlots.of_keeps g6.keep)).trans hu7
 have F7 : Fm c sc env (fun a => a ∈ vl) c.base env.cells X ρ { s6 with heap := h₇ } := L.fm w hf Ks.frames hfl hs hfl7.1 hu07 (Nat.le_trans htk g6.tok) rfl
 refine wM (Fm.store (x := "error") (sl := .val (.val (.ref e))) (v := .ref e) (fp := []) F7 (.refl _) (fun q => by rw [hloc] at q; cases q) (.inl hloc) (.val (.val _)) .nil fun _ q => nomatch q) (fun _ s8 q8 => ?_) fun _ _ q => q.elim
 (refine x12 q8 ?_; clear q8; intro X' t8 F8)
 have hst7 := hfl7.1
 (refine x04 hfl7 ?_; clear hfl7; intro f1 f2 f3 r9; refine x59 r9 ?_; clear r9; intro oe ws TT oT ts a1 a2 a3 a4 a5 a6 a7 a8 a9)
 have htup7 : h₇.TupAt t' [.str (S mm) tk] := ((((htup.of_slots hu4).of_slots hu5).of_slots (Heap.UpToSlots.of_keeps g6.keep)).of_slots hu7)
 (refine x23 htup7 ?_; clear htup7; intro ot nt b1 b2 b3)
 have hdc := F7.dc hv
 have heX : e ∉ X := fun q => by
  rcases hdc e q oe a1 with ⟨_, _, h⟩ | ⟨_, h⟩ <;> rw [a3] at h <;> cases h
 have htX : t' ∉ X := fun q => by
  rcases hdc t' q ot b1 with ⟨_, _, h⟩ | ⟨_, h⟩ <;> rw [b3] at h <;> cases h
 have hex8 : s8.heap.ExcAt e "TypeError" (.ref t') := ⟨oe, ws, t8.keep e oe heX a1, a2.1, a3, a2.2⟩
 have htu8 : s8.heap.TupAt t' [.str (S mm) tk] := ⟨ot, nt, t8.keep t' ot htX b1, b2, b3⟩
 have hcall : eval (.Call (.Name (oS "str") p2) [.Name (oS "error") p3] [] p4) env = (do callWith p4 (<- eval (.Name (oS "str") p2) env) [] (backTo p4 (starEach [.Name (oS "error") p3] env)) (backToKw p4 (keywordEach [] env))) := rfl
 refine wE (wpAny_Return_some (wpAny_Tuple (wI ?_ (starEach_cons rfl))))
 refine hideQ fun Q1 hQ1 => ?_
 erw [hcall]
 refine wB (wM ((Ev.blt (c := c.h) (n := n) (k := true) (ρ := setS ρ "error" (.val (.val (.ref e)))) hS.1 hS.2 hG2).run _ env _ _ _ X' s8 hA5 F8.h) (fun fv s9 q9 => ?_) fun _ _ q => q.elim)
 obtain ⟨g9, r₉⟩ := q9
 cases r₉.inv
 refine (Callee.type (c := c) "str").wp rfl (wM ((EvL.cons (c := c.h) (n := n) (k := true) (ρ := setS ρ "error" (.val (.val (.ref e)))) (.name rfl) .nil).run _ env _ _ _ X' s9 p4 hA5 (F8.gr g9).h) (fun vs s10 q10 => ?_) fun _ _ q => q.elim)
 obtain ⟨g10, r10⟩ := q10
 replace r10 := r10.o1
 (refine x12 r10 ?_; clear r10; rintro _ rfl r₁)
 cases r₁.inv
 have gg := g9.trans g10
 have F10 := F8.gr gg
 refine ⟨F10.base.trans F10.keep, ?_⟩
 (refine x22 hex8 ?_; clear hex8; intro oe8 ws8 c1 c2)
 (refine x22 htu8 ?_; clear htu8; intro ot8 nt8 d1 d2)
 refine PySem.P.str_of_exc_one PySem.F.excStr_TypeError (by have := hA5.units; omega) ⟨oe8, ws8, gg.keep _ _ c1, c2⟩ ⟨ot8, nt8, gg.keep _ _ d1, d2⟩ ?_
 refine hQ1 _ _ ?_
 have hout8 : (setS ρ "error" (.val (.val (.ref e)))).lookup "out" = some (.val (.val (.ref oa))) := by
  have h2 := delS_lookup (x := "error") (y := "out") (by decide) ρ
  unfold setS
  rw [List.lookup_cons, show ("out" == "error") = false from by decide]
  exact h2.trans hout
 refine wI (wM ((Ev.name (c := c.h) (n := n) (k := true) (ρ := setS ρ "error" (.val (.val (.ref e)))) (x := "out") (d := .val (.ref oa)) hout8).run _ env _ _ _ X' s10 hA5 F10.h) (fun v s11 q11 => wN ⟨by rw [sizeLine_eq]; simp, ?_⟩) fun _ _ q => q.elim) (starEach_cons rfl)
 obtain ⟨g11, r11⟩ := q11
 cases r11.inv
 have g12 : Gr s11 { s11 with heap := s11.heap.push { cls := .type "tuple", data := .seq [Value.str (S mm) tk, .ref oa].toArray } } := .push _
 have g812 := (gg.trans g11).trans g12
 have F12 := F8.gr g812
 have htp : (s11.heap.push { cls := .type "tuple", data := .seq [Value.str (S mm) tk, .ref oa].toArray }).get? s11.heap.objs.size = some { cls := .type "tuple", data := .seq [Value.str (S mm) tk, .ref oa].toArray } := Heap.get?_push_size _ rfl
 have htn' : s11.heap.get? s11.heap.objs.size = none := get_size _
 obtain ⟨m12, _, hns, _⟩ := F12.sto
 have hke : env.scope.kind = .function := by rw [F5.scope]; exact F5.kind
 refine wpAny_nameGoes (by show env.scope.names.lookup _ = _; rw [F5.scope]; exact hloc) hns (by erw [hke]; rfl) fun h13 m13 hn13 hs13 => ?_
 generalize s11.heap.objs.size = ta at htp htn' ⊢
 have hLX : env.locals ∈ X := by obtain ⟨_, _, _, h2, _⟩ := F7.sto; exact h2 ▸ .head _
 have hL0 : s₀.heap.get? env.locals = none := w.new _ hLX
 have hlL : ∀ b o, s₀.heap.get? b = some o -> b ≠ env.locals := fun b o e' q => by rw [q, hL0] at e'; cases e'
 have hXv : ∀ b ∈ vl, b ∉ X := fun b hb => (F7.live0 b hb).2
 have hLv : env.locals ∉ vl := fun h => hXv _ h hLX
 -- from h₇ to the end
 have late : ∀ b o, b ∉ X -> h₇.get? b = some o -> h13.get? b = some o := fun b o hb e' => (hs13.2 b fun q => hb (q ▸ hLX)).trans (g812.keep _ _ (t8.keep b o hb e'))
 have hs0X : ∀ b o, s₀.heap.get? b = some o -> b ∉ X := fun b o e' h => by rw [w.new b h] at e'; cases e'
 have hfrL : ∀ b, b ∈ frs l -> b ∈ (env :: l).filterMap (·.frame) := fun b h => by rw [List.filterMap_cons, hf]; exact .tail _ h
 have hPX : P ∉ X := hXv _ hPl
 have hoX : oa ∉ X := hXv _ hol
 have hP7 : PSt P stQual lamPos h₇ := hPB.keeps hst7
 (refine x22 hOB ?_; clear hOB; intro no os ho7 hod)
 have ho13 : h13.get? oa = some (listObj os no) := late oa _ hoX (hst7 _ _ ho7)
 have hP8 : PSt P stQual lamPos s8.heap := PSt.stp (s := { s6 with heap := h₇ }) hP7 t8 hPX (F7.nofields (allVal.to hv))
 have hP13 : PSt P stQual lamPos h13 := by
  (refine x33 hns ?_; clear hns; intro oL es ep hoL hdL _)
  exact (hP8.keeps g812.keep).same hs13 (fun q => hPX (q ▸ hLX)) hoL fun vs q => by rw [hdL] at q; cases q
 have hoP : oa ≠ P := fun q => by
  obtain ⟨ps, hp⟩ := hP13.tab
  rw [q, hp] at ho13; cases ho13
 have hfr0 : ∀ b ∈ frs l, ∃ o, s₀.heap.get? b = some o := fun b h => let ⟨_, o, e', _⟩ := K₀.frames.mem h; ⟨o, e'⟩
 have hofr : oa ∉ frs l := fun h => by obtain ⟨o, e'⟩ := hfr0 _ h; rw [ho0] at e'; cases e'
 have hta : s₀.heap.get? ta = none := by
  cases e' : s₀.heap.get? ta with
  | none => rfl
  | some o =>
   exfalso
   have h7 : ∃ o', h₇.get? ta = some o' := by
    by_cases hx : ta ∈ vl
    · exact (F7.live0 ta hx).1
    · have h1 := w.far.keep ta o hx e'
      by_cases hy : ta ∈ vl'
      · exact (hs ta hy).elim (fun h => absurd h hx) fun h => absurd h (hlL ta o e')
      · exact ⟨o, L.keep hst7 hy h1⟩
   obtain ⟨o7, e7⟩ := h7
   have := g11.keep _ _ (gg.keep _ _ (t8.keep ta o7 (hs0X ta o e') e7))
   rw [htn'] at this; cases this
 have ht13 : h13.get? ta = some { cls := .type "tuple", data := .seq [Value.str (S mm) tk, .ref oa].toArray } := (hs13.2 ta fun q => by
  (refine x33 hns ?_; clear hns; intro oL es ep hoL hdL _)
  rw [<- q] at hoL
  have : oL = { cls := .type "tuple", data := .seq [Value.str (S mm) tk, .ref oa].toArray } := Option.some.inj (hoL.symm.trans htp)
  rw [this] at hdL; cases hdL).trans htp
 refine hQQ _ _ ⟨_, rfl, ⟨fun b o hb1 hb2 e' => ?_, fun b o hb e' => ?_, ⟨?_, ?_, ?_⟩, hP13⟩, .tuple (fun h => ?_) ht13 rfl ⟨rfl, rfl⟩ rfl (.cons (.str _ _) (.cons (OutAt.rep (s := { s11 with heap := h13, toks := s11.toks + 1 }) ⟨no, os, ho13, hod⟩ fun h => ?_) .nil))⟩
 · have hbv : b ∉ vl := fun h => by
    rcases hvl b h with q | q | q
    · exact hb1 q
    · exact hb2 q
    · rw [q] at e'; cases e'
   refine late b o (hs0X b o e') (L.keep hst7 (fun h => (hs b h).elim hbv (hlL b o e')) (w.far.keep b o hbv e'))
 · obtain ⟨sl, e7⟩ := L.up hu07 Ks.frames (hfrL b hb) (kf b hb o e')
   exact ⟨sl, late b _ (hs0X b o e') e7⟩
 · exact Nat.le_trans w.mn.tok (Nat.le_trans L.mn.tok (Nat.le_trans htk (Nat.le_trans g6.tok (Nat.le_trans t8.tok (Nat.le_trans g812.tok (Nat.le_succ _))))))
 · exact (g812.gens.trans (t8.gens.trans (g6.gens.trans hg3))).trans (L.mn.gens.trans w.mn.gens)
 · exact (g812.os.trans (t8.os.trans (g6.os.trans ho3))).trans (L.mn.os.trans w.mn.os)
 · obtain ⟨o, e'⟩ := hVl _ h; rw [hta] at e'; cases e'
 · obtain ⟨o, e'⟩ := hVl _ h; rw [ho0] at e'; cases e'
end
end
section
section
variable {c : Cx} {n : Nat} {sc : Scope} {ρ ρ' : Sto} {env : Env} {Cs : List (Str × Addr)} {X : List Addr} {s s' s₀ s₁ : Shared} {vl vl' : List Addr} {A : Around} {l : List Env} {B B0 : Heap} {P oa : Addr} {c₀ : Cx} {mm : List Nat} {od : List D} {ev : Value}
theorem Wk.adds (as : List Addr) (w : Wk c sc env vl Cs s₀ X ρ s) (hn : ∀ a ∈ as, s.heap.get? a = none) (g : Gr s s') (ha : ∀ a ∈ as, ∃ o, s'.heap.get? a = some o) : Wk c sc env (as ++ vl) Cs s₀ X ρ s' := by
 (refine x12 w.fm ?_; intro h0 F hv)
 have F' := (F.addL as hn g ha).weakV (V1 := fun a => a ∈ as ++ vl) fun a q => ((mA.mp q).symm)
 refine ⟨⟨h0, F', fun a q => ?_⟩, ⟨fun b o nb e => g.keep _ _ (w.far.keep b o (fun q => nb (mR _ q)) e), Nat.le_trans w.far.tok g.tok⟩, w.mn.trans g.mn, w.new⟩
 rcases mA.mp q with q | q
 · cases e : h0.get? a with
   | none => rfl
   | some o => have := F.keep _ _ e; rw [hn a q] at this; cases this
 · exact hv a q
theorem fly_err (Ks : Stk c A (hideAll s.heap (frs (env :: l))) (env :: l) s.heap) (hP : PSt P stQual lamPos s.heap) (ho : OutAt od oa s.heap) (hof : oa ∉ frs (env :: l)) (fly : Fly (hideAll s.heap (frs (env :: l))) (env :: l) "TypeError" mm s ev s') :
 ErrQ (P :: oa :: frs (env :: l)) (env :: l) "TypeError" mm (fun h => PSt P stQual lamPos h /\ OutAt od oa h) s ev s' := by
 have hnf : ∀ a ∈ frs (env :: l), ∀ o, s.heap.get? a = some o -> ∀ vs, o.data ≠ .fields vs := fun a ha o e => by
  obtain ⟨_, o', e', hd⟩ := Ks.frames.mem ha
  rw [e] at e'; cases e'; exact hd
 have ho' : OutAt od oa (hideAll s.heap (frs (env :: l))) := by
  (refine x22 ho ?_; clear ho; intro n vs e h)
  exact ⟨n, vs, hideAll_get _ e hof, h⟩
 have hP' := hP.hide hnf
 refine ⟨_, s, ⟨.of_keeps (Keeps.refl _) (Nat.le_refl _), .refl s, fun b o e => hideAll_get _ (of_hideAll _ e) fun q => ?_, fun a _ o e => e, fun a ha => ?_⟩, ⟨hP', ho'⟩, fly⟩
 · rw [hideAll_none _ (.tail _ (.tail _ q))] at e; cases e
 · rcases mC.mp ha with rfl | ha
   · obtain ⟨ps, e⟩ := hP'.tab; exact .inl ⟨_, e⟩
   · rcases mC.mp ha with rfl | ha
     · (refine x22 ho' ?_; clear ho'; intro n vs e _); exact .inl ⟨_, e⟩
     · obtain ⟨_, o', e', hd⟩ := Ks.frames.mem ha
       exact .inr ⟨o', e', hd⟩
structure Wo (c : Cx) (env : Env) (vl : List Addr) (l : List Env) (s₀ : Shared) (X : List Addr) (ρ : Sto) (s : Shared) (P oa : Addr) : Prop where
 w : Wk c (sc09 17) env vl env.cells s₀ X ρ s
 hP : PSt P stQual lamPos s.heap
 ho : OutAt [] oa s.heap
 kf : ∀ a ∈ frs l, ∀ o, s₀.heap.get? a = some o -> s.heap.get? a = some o
 fl : ∀ a ∈ frs l, a ∈ vl
 vr : ∀ a ∈ vl, a = P \/ a ∈ frs l \/ s₀.heap.get? a = none
 mP : P ∈ vl
 mO : oa ∈ vl
 o0 : s₀.heap.get? oa = none
theorem Wo.gr (q : Wo c env vl l s₀ X ρ s P oa) (g : Gr s s') : Wo c env vl l s₀ X ρ s' P oa :=
 ⟨q.w.gr g, q.hP.keeps g.keep, let ⟨n, vs, e, h⟩ := q.ho; ⟨n, vs, g.keep _ _ e, h⟩, fun a h o e => g.keep _ _ (q.kf a h o e), q.fl, q.vr, q.mP, q.mO, q.o0⟩
theorem Wo.stp {X' : List Addr} (q : Wo c env vl l s₀ X ρ s P oa) (hv : plainS ρ = true) (t : Stp X s X' s') {B : Heap} (w' : Wk (c.at B) (sc09 17) env vl env.cells s₀ X' ρ' s') : Wo (c.at B) env vl l s₀ X' ρ' s' P oa := by
 have nX : ∀ a ∈ vl, a ∉ X := fun a h => (q.w.live0 a h).2
 exact ⟨w', PSt.stp q.hP t (nX _ q.mP) (q.w.nofields hv), let ⟨n, vs, e, h⟩ := q.ho; ⟨n, vs, t.keep _ _ (nX _ q.mO) e, h⟩, fun a h o e => t.keep _ _ (nX a (q.fl a h)) (q.kf a h o e), q.fl, q.vr, q.mP, q.mO, q.o0⟩
theorem Wo.oL (q : Wo c env vl l s₀ X ρ s P oa) (hf : env.frame = some env.locals) (K₀ : Stk c₀ A B0 l s₀.heap) : oa ∉ frs (env :: l) := fun h => by
 rw [frs, List.filterMap_cons, hf] at h
 rcases mC.mp h with h | h
 · (refine x12 q.w.fm ?_; intro _ F _)
   obtain ⟨_, _, _, h2, _⟩ := F.sto
   exact (q.w.live0 _ q.mO).2 (h ▸ h2 ▸ .head _)
 · obtain ⟨_, o, e, _⟩ := K₀.frames.mem h
   rw [q.o0] at e; cases e
theorem Wo.raises {e : Expr} (q : Wo c env vl l s₀ X ρ s P oa) (hn : c.hn) (hf : env.frame = some env.locals) (K₀ : Stk c₀ A B0 l s₀.heap) (hA : Room c n (A.deeper env)) (h : EvX c n (sc09 17) ρ e "TypeError" mm) :
 wpAny c.M (A.deeper env) (eval e env) (fun _ _ => False) (ErrQ (P :: oa :: frs (env :: l)) (env :: l) "TypeError" mm (fun h => PSt P stQual lamPos h /\ OutAt [] oa h) s) s := by
 have Ks := q.w.stk hf K₀ q.fl q.kf
 (refine x12 q.w.fm ?_; intro h0 F hv)
 refine wM (h.run (A.deeper env) env _ h0 env.cells X s _ (env :: l) hA (.inl (hA.handled hn)) F Ks fun a ha => ?_) (fun _ _ q => q) fun ev s' fly => fly_err Ks q.hP q.ho (q.oL hf K₀) fly
 rw [List.filterMap_cons, hf] at ha
 rcases mC.mp ha with h | h
 · exact .inr h
 · exact .inl (q.fl a h)
end
end
section
theorem getAttr_append' {M : Program} {w : World} {A : Around} {E : Value -> Shared -> Prop} {s : Shared} {a : Addr} {vs : Array Value} {nn : Nat} {expr : Bool} {Q : Value -> Shared -> Prop} (hx : s.heap.get? a = some (listObj vs nn))
 (hq : Q (.ref s.heap.objs.size) { s with heap := s.heap.push (boundObj "list.append" a), toks := s.toks + 1 }) : wpAny (model M w) A (getAttr (.ref a) (oS "append") expr) Q E s := by
 obtain ⟨h, g, d, t, os⟩ := s
 exact getAttr_append hx hq
theorem WSt.at {C : Addr} {W : WA} {h h' : Heap} (x : WSt C W h) (k : ∀ a ∈ [W.wa, W.dx, W.l0, W.ta, W.la, W.ba], ∀ o, h.get? a = some o -> h'.get? a = some o) : WSt C W h' := by
 obtain ⟨⟨m, ⟨i1, i2⟩, wf⟩, b, l, t, a⟩ := x
 exact ⟨⟨m, ⟨k _ (.head _) _ i1, i2.keeps fun o e => k _ (.tail _ (.head _)) o e⟩, wf⟩, k _ (.tail _ (.tail _ (.tail _ (.tail _ (.tail _ (.head _)))))) _ b, k _ (.tail _ (.tail _ (.head _))) _ l, k _ (.tail _ (.tail _ (.tail _ (.head _)))) _ t, k _ (.tail _ (.tail _ (.tail _ (.tail _ (.head _))))) _ a⟩
section
variable {c : Cx} {n : Nat} {ρ : Sto} {env : Env} {X : List Addr} {s s₀ : Shared} {vl : List Addr} {A : Around} {l : List Env} {P oa f na : Addr} {kvs : List (Str × Value)} {ep : Nat} {K : Frag} {rest : List Stmt} {Q : Flow -> Shared -> Prop} {E : Value -> Shared -> Prop}
structure NewW (W : WA) (B : Heap) (h : Heap) (oa : Addr) (s₀ : Heap) : Prop where
 eo : W.oa = oa
 st : WSt 171 W B
 da : h.get? W.da = some (listObj #[.ref W.l0] 0)
 sa : h.get? W.sa = some (listObj #[.bool false] 0)
 ds : W.da ≠ W.sa
 so : W.sa ≠ oa
 do' : W.da ≠ oa
 s0 : s₀.get? W.sa = none
 d0 : s₀.get? W.da = none
theorem Wo.make {kc : Nat} {p0 p1 p2 p3 p4 p5 p9 pos : Pos} (q : Wo c env vl l s₀ X ρ s P oa) (hv : plainS ρ = true) (Y : KC c K 171 f na kvs ep) (hg : c.mg (oS "C14NWriterTarget") = some (.ref 171)) (hout : ρ.lookup "out" = some (.val (.val (.ref oa)))) (hA : Room c (n + 2) A) (hO : OwnT c A env (sc09 17) env.cells)
 (k : ∀ W B X' s', Keeps c.base B -> NewW W B s'.heap oa s₀.heap -> Wo (c.at B) env (W.da :: W.sa :: vl) l s₀ X' (setS ρ "writer" (.val (.val (.ref W.wa)))) s' P oa -> wpAny c.M A (execs rest env) Q E s') :
 wpAny c.M A (execs (.Assign [.Name (oS "writer") p0] (.Call (.Name (oS "C14NWriterTarget") p1) [.Attribute (.Name (oS "out") p2) (oS "append") p3] [⟨some (oS "with_comments"), .Constant (.bool true) kc p4, p5⟩] p9) pos :: rest) env) Q E s := by
 (refine x12 q.w.fm ?_; intro h0 F hv0)
 refine wE (wpAny_Assign_Name ?_ rfl)
 have he : eval (.Call (.Name (oS "C14NWriterTarget") p1) [.Attribute (.Name (oS "out") p2) (oS "append") p3] [⟨some (oS "with_comments"), .Constant (.bool true) kc p4, p5⟩] p9) env =
  (do callWith p9 (<- eval (.Name (oS "C14NWriterTarget") p1) env) [] (backTo p9 (starEach [.Attribute (.Name (oS "out") p2) (oS "append") p3] env)) (backToKw p9 (keywordEach [⟨some (oS "with_comments"), .Constant (.bool true) kc p4, p5⟩] env))) := rfl
 erw [he]
 refine wB (wM ((Ev.glob (n := n + 2) (sc := sc09 17) (k := true) (ρ := ρ) hg rfl).run A env _ h0 _ X s hA F) (fun fv s₁ q₁ => ?_) fun _ _ q => q.elim)
 obtain ⟨g₁, r₁⟩ := q₁
 cases r₁.inv
 refine callWith_KW (K := K) (h₀ := c.base) Y.XK Y.keeps rfl (wI (Attribute_name (wM ((Ev.name (n := n + 2) (sc := sc09 17) (k := true) (ρ := ρ) hout).run A env _ h0 _ X s₁ hA (F.gr g₁)) (fun ov s2 q₂ => ?_) fun _ _ q => q.elim)) (starEach_cons rfl))
 obtain ⟨g₂, r₂⟩ := q₂
 cases r₂.inv
 have g12 := g₁.trans g₂
 (refine x22 q.ho ?_; intro no os hoa hos)
 have hoa2 := g12.keep _ _ hoa
 refine getAttr_append' hoa2 ?_
 have g₃ : Gr s2 { s2 with heap := s2.heap.push (boundObj "list.append" oa), toks := s2.toks + 1 } := ⟨fun b o e => Heap.get?_push_of_some _ e, Nat.le_succ _, .rfl, rfl⟩
 have hba3 : (s2.heap.push (boundObj "list.append" oa)).get? s2.heap.objs.size = some (boundObj "list.append" oa) := Heap.get?_push_size _ rfl
 have hban : s2.heap.get? s2.heap.objs.size = none := get_size _
 have g13 := g12.trans g₃
 have F₃ := F.gr g13
 refine wN (kwAll_cons (wM ((Ev.bool (c := c) (n := n + 2) (sc := sc09 17) (k := true) (ρ := ρ)).run A env _ h0 _ X _ hA F₃) (fun bv s4 q₄ => ?_) fun _ _ q => q.elim))
 obtain ⟨g₄, r₄⟩ := q₄
 cases r₄.inv
 have g14 := g13.trans g₄
 have F4 := F.gr g14
 have hba4 := g₄.keep _ _ hba3
 generalize s2.heap.objs.size = ba at hba3 hban hba4 ⊢
 have hbas : s.heap.get? ba = none := gr_none g12 hban
 refine kwAll_nil ⟨Y.XK.keeps (F4.base.trans F4.keep), ?_⟩
 refine wM (make_run (n := n) (ba := ba) (oa := oa) Y hA (F4.st true) hba4) (fun v s5 q₅ => ?_) fun _ _ q => q.elim
 obtain ⟨W, rfl, g5, eb, eo, st, hda, hsa, nd, nw⟩ := q₅
 have g15 := g14.trans g5
 have nws : ∀ a ∈ W.fp, s.heap.get? a = none := fun a ha => gr_none g14 (nw a ha)
 have mda : W.da ∈ W.fp := (.tail _ (.tail _ (.tail _ (.head _))))
 have msa : W.sa ∈ W.fp := (.tail _ (.tail _ (.head _)))
 have hoas : s.heap.get? oa = some (listObj os no) := hoa
 have hne : ∀ a ∈ W.fp, a ≠ oa := fun a ha q => by rw [<- q, nws a ha] at hoas; cases hoas
 have n1 := List.nodup_cons.mp nd
 have n2 := List.nodup_cons.mp n1.2
 have n3 := List.nodup_cons.mp n2.2
 have n4 := List.nodup_cons.mp n3.2
 have hds : W.da ≠ W.sa := fun q => n3.1 (q ▸ .head _)
 have w₅ : Wk c (sc09 17) env ([W.da, W.sa] ++ vl) env.cells s₀ X ρ s5 := q.w.adds [W.da, W.sa] (fun a ha => nws a (by simp only [mC, List.not_mem_nil, or_false] at ha; rcases ha with rfl | rfl <;> assumption)) g15 fun a ha => (by
  simp only [mC, List.not_mem_nil, or_false] at ha
  rcases ha with rfl | rfl
  · exact ⟨_, hda⟩
  · exact ⟨_, hsa⟩)
 obtain ⟨hk5, w5'⟩ := w₅.rebase
 have hs0 : ∀ a ∈ W.fp, s₀.heap.get? a = none := fun a ha => by
  cases e : s₀.heap.get? a with
  | none => rfl
  | some o =>
   by_cases hx : a ∈ vl
   · obtain ⟨o', e'⟩ := (q.w.live0 a hx).1; rw [nws a ha] at e'; cases e'
   · have := q.w.far.keep a o hx e; rw [nws a ha] at this; cases this
 have hnin : ∀ a, s.heap.get? a = none -> a ≠ W.da -> a ≠ W.sa -> a ∉ ([W.da, W.sa] ++ vl) ++ X := fun a hn h1 h2 h => by
  rcases mA.mp h with h | h
  · rcases mA.mp h with h | h
    · simp only [mC, List.not_mem_nil, or_false] at h
      exact h.elim h1 h2
    · obtain ⟨o, e⟩ := (q.w.live0 a h).1; rw [hn] at e; cases e
  · obtain ⟨o, e⟩ := q.w.liveX a h; rw [hn] at e; cases e
 have hbn : ∀ a ∈ W.fp, W.ba ≠ a := fun a ha h => by
  rw [eb] at h
  have := nw a ha; rw [<- h, hba4] at this; cases this
 have stB : WSt 171 W (hideAll s5.heap (([W.da, W.sa] ++ vl) ++ X)) := st.at fun a ha o e => hideAll_get _ e (by
  simp only [mC, List.not_mem_nil, or_false] at ha
  rcases ha with rfl | rfl | rfl | rfl | rfl | rfl
  · exact hnin _ (nws _ (.head _)) (fun h => n1.1 (by erw [h]; exact (.tail _ (.tail _ (.head _))))) (fun h => n1.1 (by erw [h]; exact (.tail _ (.head _))))
  · exact hnin _ (nws _ (.tail _ (.head _))) (fun h => n2.1 (by rw [h]; exact (.tail _ (.head _)))) (fun h => n2.1 (by rw [h]; exact (.head _)))
  · exact hnin _ (nws _ (.tail _ (.tail _ (.tail _ (.tail _ (.head _)))))) (fun h => n4.1 (by rw [<- h]; exact (.head _))) (fun h => n3.1 (by rw [<- h]; exact (.tail _ (.head _))))
  · exact hnin _ (nws _ (.tail _ (.tail _ (.tail _ (.tail _ (.tail _ (.head _))))))) (fun h => n4.1 (by rw [<- h]; exact (.tail _ (.head _)))) (fun h => n3.1 (by rw [<- h]; exact (.tail _ (.tail _ (.head _)))))
  · exact hnin _ (nws _ (.tail _ (.tail _ (.tail _ (.tail _ (.tail _ (.tail _ (.head _)))))))) (fun h => n4.1 (by rw [<- h]; exact (.tail _ (.tail _ (.head _))))) (fun h => n3.1 (by rw [<- h]; exact (.tail _ (.tail _ (.tail _ (.head _))))))
  · exact hnin _ (eb ▸ hbas) (hbn _ mda) (hbn _ msa))
 have q5 : Wo c env (W.da :: W.sa :: vl) l s₀ X ρ s5 P oa := ⟨w₅, q.hP.keeps g15.keep, ⟨no, os, g15.keep _ _ hoa, hos⟩, fun a h o e => g15.keep _ _ (q.kf a h o e), fun a h => .tail _ (.tail _ (q.fl a h)), fun a ha => by
  rcases mC.mp ha with rfl | ha
  · exact .inr (.inr (hs0 _ mda))
  · rcases mC.mp ha with rfl | ha
    · exact .inr (.inr (hs0 _ msa))
    · exact q.vr a ha, .tail _ (.tail _ q.mP), .tail _ (.tail _ q.mO), q.o0⟩
 refine wM (Wk.put (A := A) w5' hO.at (.inl rfl) (.val (.ref W.wa)) (Q := fun _ s' => wpAny c.M A (execs rest env) Q E s') fun X' s' t w' => k W _ X' s' hk5 ⟨eo, stB, t.keep _ _ (w₅.live0 _ (.head _)).2 hda, t.keep _ _ (w₅.live0 _ (.tail _ (.head _))).2 hsa, hds, hne _ msa, hne _ mda, hs0 _ msa, hs0 _ mda⟩ (q5.stp hv t w')) (fun _ _ q => q) fun _ _ q => q.elim
end
end
section
structure W9 (c : Cx) (K : Frag) (P na : Addr) (kvs : List (Str × Value)) (ep : Nat) : Prop where
 SS : SFs c K P
 KY : KC c K 171 88 na kvs ep
 gW : c.mg (oS "C14NWriterTarget") = some (.ref 171)
 g0 : c.mg (oS "_escape_attrib") = some (.ref 65)
 g2 : c.mg (oS "_escape_attrib_html") = some (.ref 72)
 g3 : c.mg (oS "_escape_cdata") = some (.ref 58)
 g8 : c.mg (oS "_raise_serialization_error") = some (.ref 51)
 c0 : Callee c (.ref 65)
 c2 : Callee c (.ref 72)
 c3 : Callee c (.ref 58)
 c8 : Callee c (.ref 51)
 T : c.mg (oS "TypeError") = none /\ c.mb (oS "TypeError") = some (.type "TypeError")
 S : c.mg (oS "str") = none /\ c.mb (oS "str") = some (.type "str")
 wd : IsDef c 215 (sc09 17) ["thing", "who"] (bd09 17)
noncomputable def Bad (c : Cx) (n : Nat) (d : D) (mm : List Nat) : Prop := ∀ B, Keeps c.base B -> ∀ f : Addr, f ∈ [65, 189, 72, 58, 182, 51] -> FnX (c.at B) n (.ref f) [d] "TypeError" mm
section
variable {c : Cx} {n : Nat} {ρ : Sto} {env : Env} {X : List Addr} {s s' s₀ : Shared} {vl : List Addr} {A : Around} {l : List Env} {P oa na : Addr} {kvs : List (Str × Value)} {ep : Nat} {K : Frag} {d : D} {mm : List Nat} {od : List D} {ev : Value} {B0 : Heap} {c₀ : Cx} {who : Nat} {b : Bool}
inductive ErrIn (c : Cx) (env : Env) (l : List Env) (s₀ : Shared) (P oa : Addr) (mm : List Nat) (od : List D) (ev : Value) (s' : Shared) : Prop
 | mk (B : Heap) (vl vl' X : List Addr) (ρ : Sto) (s : Shared) (q : Wo (c.at B) env vl l s₀ X ρ s P oa) (hv : allVal ρ = true) (hout : ρ.lookup "out" = some (.val (.val (.ref oa)))) (hs : ∀ a ∈ vl', a ∈ vl \/ a = env.locals)
  (eq : ErrQ vl' (env :: l) "TypeError" mm (fun h => PSt P stQual lamPos h /\ OutAt od oa h) s ev s') : ErrIn c env l s₀ P oa mm od ev s'
theorem mem_frs (hf : env.frame = some env.locals) {a : Addr} (h : a ∈ frs (env :: l)) : a = env.locals \/ a ∈ frs l := by
 rw [frs, List.filterMap_cons, hf] at h
 exact mC.mp h
theorem Wo.errIn {e : Expr} {B : Heap} (q : Wo (c.at B) env vl l s₀ X ρ s P oa) (hv : allVal ρ = true) (hout : ρ.lookup "out" = some (.val (.val (.ref oa)))) (hn : c.hn) (hf : env.frame = some env.locals) (K₀ : Stk c₀ A B0 l s₀.heap) (hA : Room c n (A.deeper env)) (h : EvX (c.at B) n (sc09 17) ρ e "TypeError" mm) :
 wpAny c.M (A.deeper env) (eval e env) (fun _ _ => False) (ErrIn c env l s₀ P oa mm []) s :=
 wM (q.raises (n := n) (c := c.at B) hn hf K₀ (hA.at B) h) (fun _ _ q => q) fun ev s' eq => ⟨B, vl, _, X, ρ, s, q, hv, hout, fun a ha => by
  rcases mC.mp ha with rfl | ha
  · exact .inl q.mP
  · rcases mC.mp ha with rfl | ha
    · exact .inl q.mO
    · exact (mem_frs hf ha).symm.imp (q.fl a) id, eq⟩
noncomputable abbrev ρO (d : D) (who : Nat) (oa : Addr) : Sto := setS [("thing", .val d), ("who", .val (.int who))] "out" (.val (.val (.ref oa)))
theorem lt5_X {p0 p1 p2 p3 p4 p5 p6 p7 p8 p9 : Pos} (Y : W9 c K P na kvs ep) (hB : Bad c n d mm) (hw : who < 5) :
 EvX c n (sc09 17) (ρO d who oa) (.Call (.Subscript (.List [.Name (oS "_escape_attrib") p0, .Name (oS "_escape_attrib_c14n") p1, .Name (oS "_escape_attrib_html") p2, .Name (oS "_escape_cdata") p3, .Name (oS "_escape_cdata_c14n") p4] p5) (.Name (oS "who") p6) p7) [.Name (oS "thing") p8] [] p9) "TypeError" mm := by
 have hl : Ev c n (sc09 17) true (ρO d who oa) (.List [.Name (oS "_escape_attrib") p0, .Name (oS "_escape_attrib_c14n") p1, .Name (oS "_escape_attrib_html") p2, .Name (oS "_escape_cdata") p3, .Name (oS "_escape_cdata_c14n") p4] p5) (.list [.val (.ref 65), .val (.ref 189), .val (.ref 72), .val (.ref 58), .val (.ref 182)]) :=
  .list (.cons (.glob Y.g0) (.cons (.glob Y.SS.here.esc) (.cons (.glob Y.g2) (.cons (.glob Y.g3) (.cons (.glob Y.SS.here.cd) .nil))))) (by erw [sizeLine_eq]; simp)
 have hF : ∀ f ∈ [65, 189, 72, 58, 182, 51], FnX c n (.ref f) [d] "TypeError" mm := hB c.base (Keeps.refl _)
 have key : ∀ f : Addr, ([65, 189, 72, 58, 182] : List Addr)[who]? = some f -> Callee c (.ref f) -> EvX c n (sc09 17) (ρO d who oa) (.Call (.Subscript (.List [.Name (oS "_escape_attrib") p0, .Name (oS "_escape_attrib_c14n") p1, .Name (oS "_escape_attrib_html") p2, .Name (oS "_escape_cdata") p3, .Name (oS "_escape_cdata_c14n") p4] p5) (.Name (oS "who") p6) p7) [.Name (oS "thing") p8] [] p9) "TypeError" mm := fun f hf hc => by
  refine .call (fv := .ref f) (.subL (i := who) hl (.name rfl) (ItemR.list (by exact Int.natCast_nonneg _) ?_ (by omega))) hc (.cons (.name rfl) .nil) (hF f ?_)
  · have h2 : (([65, 189, 72, 58, 182] : List Addr).map fun a => D.val (.ref a))[who]? = some (.val (.ref f)) := by erw [List.getElem?_map, hf]; rfl
    rw [Int.toNat_natCast]; exact h2
  · have := List.mem_of_getElem? hf
    simp only [mC, List.not_mem_nil, or_false] at this ⊢
    rcases this with h | h | h | h | h
    · exact .inl h
    · exact .inr (.inl h)
    · exact .inr (.inr (.inl h))
    · exact .inr (.inr (.inr (.inl h)))
    · exact .inr (.inr (.inr (.inr (.inl h))))
 have hcl : ∀ f ∈ ([65, 189, 72, 58, 182] : List Addr), Callee c (.ref f) :=
  List.forall_mem_cons.mpr ⟨Y.c0, List.forall_mem_cons.mpr ⟨Y.SS.here.escC, List.forall_mem_cons.mpr ⟨Y.c2, List.forall_mem_cons.mpr ⟨Y.c3, List.forall_mem_cons.mpr ⟨Y.SS.here.cdC, fun _ h => nomatch h⟩⟩⟩⟩⟩
 have hf : ([65, 189, 72, 58, 182] : List Addr)[who]? = some ([65, 189, 72, 58, 182] : List Addr)[who] := List.getElem?_eq_getElem hw
 exact key _ hf (hcl _ (List.mem_of_getElem? hf))
end
end
section
section
variable {c : Cx} {n : Nat} {ρ : Sto} {env : Env} {X : List Addr} {s s' s₀ : Shared} {vl : List Addr} {A : Around} {l : List Env} {P oa na : Addr} {kvs : List (Str × Value)} {ep : Nat} {K : Frag} {d : D} {mm : List Nat} {od : List D} {ev : Value} {B0 B : Heap} {c₀ : Cx} {who : Nat} {W : WA}
theorem ErrQ.post {vl' : List Addr} {T : String} {m : List Nat} {Po Po' : Heap -> Prop} (q : ErrQ vl' l T m Po s ev s') (h : ∀ h, Po h -> Po' h) : ErrQ vl' l T m Po' s ev s' := let ⟨B, s₁, L, p, f⟩ := q; ⟨B, s₁, L, h _ p, f⟩
theorem NewW.gr {h0 : Heap} (x : NewW W B s.heap oa h0) (g : Gr s s') : NewW W B s'.heap oa h0 := ⟨x.eo, x.st, g.keep _ _ x.da, g.keep _ _ x.sa, x.ds, x.so, x.do', x.s0, x.d0⟩
noncomputable abbrev ρN (d : D) (who : Nat) (oa : Addr) (W : WA) : Sto := setS (ρO d who oa) "writer" (.val (.val (.ref W.wa)))
set_option maxHeartbeats 4000000 in
theorem w_start {p0 p1 p2 p3 p4 p5 p6 : Pos} {k1 k2 : Nat} (SS : SFs (c.at B) K P) (q : Wo (c.at B) env (W.da :: W.sa :: vl) l s₀ X (ρN d who oa W) s P oa) (N : NewW W B s.heap oa s₀.heap) (hB : ∀ B', Keeps B B' -> FnX (c.at B') (n + 3) (.ref 189) [d] "TypeError" mm) (hf : env.frame = some env.locals) (K₀ : Stk c₀ A B0 l s₀.heap) (hA : Room c (n + 5) (A.deeper env)) (hline : (p1.endLine == p6.line) = true) :
 wpAny c.M (A.deeper env) (eval (.Call (.Attribute (.Name (oS "writer") p0) (oS "start") p1) [.Constant (.str (oS "a")) k1 p2, .Dict [some (.Constant (.str (oS "k")) k2 p3)] [.Name (oS "thing") p4] p5] [] p6) env) (fun _ _ => False) (ErrIn c env l s₀ P oa mm [sd (cs "<a")]) s := by
 have hA' : Room (c.at B) (n + 5) (A.deeper env) := hA.at B
 have Y := wb_of SS N.st
 (refine x12 q.w.fm ?_; intro h0 F hv0)
 refine Call_meth rfl rfl rfl hline (wM ((Ev.name (c := c.at B) (n := n + 5) (sc := sc09 17) (k := true) (ρ := ρN d who oa W) (x := "writer") (d := .val (.ref W.wa)) rfl).run (A.deeper env) env _ h0 env.cells X s hA' F) (fun ov sa qa => ?_) fun _ _ q => q.elim)
 obtain ⟨ga, ra⟩ := qa
 cases ra.inv
 intro pl
 refine wM (meth_wp (c := c.at B) Y SS.here.smM ((F.gr ga).base.trans (F.gr ga).keep) (by decide)) (fun r' sb qb => ?_) fun _ _ q => q.elim
 obtain ⟨rfl, rfl⟩ := qb
 refine SS.here.smC.wp (first := [.ref W.wa]) rfl (wM ((EvL.cons (c := c.at B) (n := n + 5) (sc := sc09 17) (k := true) (ρ := ρN d who oa W) (d := sd (cs "a")) .lit (.cons (d := .dict [(cs "k", d)]) (.dict (.cons .lit (.name rfl) .nil) (by simp) (by simp) (by simp)) .nil)).run (A.deeper env) env _ h0 env.cells X sb _ hA' (F.gr ga)) (fun us sc' qc => ?_) fun _ _ q => q.elim)
 obtain ⟨gc, rc⟩ := qc
 have gac := ga.trans gc
 have qc := q.gr gac
 have Nc := N.gr gac
 refine ⟨qc.w.kb, ?_⟩
 (refine x12 qc.w.fm ?_; intro hc0 Fc hvc)
 have hLX : env.locals ∈ X := by obtain ⟨_, _, _, h2, _⟩ := Fc.sto; exact h2 ▸ .head _
 have eo := N.eo
 have mda : W.da ∈ W.da :: W.sa :: vl := .head _
 have msa : W.sa ∈ W.da :: W.sa :: vl := .tail _ (.head _)
 have hsub : ∀ a ∈ vld W P (env :: l), a ∈ W.da :: W.sa :: vl \/ a = env.locals := fun a ha => by
  rcases mC.mp ha with rfl | ha
  · exact .inl mda
  · rcases mC.mp ha with rfl | ha
    · exact .inl qc.mP
    · rcases mC.mp ha with rfl | ha
      · exact .inl msa
      · rcases mC.mp ha with rfl | ha
        · exact .inl (eo ▸ qc.mO)
        · exact (mem_frs hf ha).symm.imp (qc.fl a) id
 have hfrn : ∀ a, s₀.heap.get? a = none -> a ∈ W.da :: W.sa :: vl -> a ∉ frs (env :: l) := fun a hn hm h => by
  rcases mem_frs hf h with h | h
  · exact (qc.w.live0 a hm).2 (h ▸ hLX)
  · obtain ⟨_, o, e, _⟩ := K₀.frames.mem h; rw [hn] at e; cases e
 have hbX : B.get? env.locals = none := by
  cases e : B.get? env.locals with
  | none => rfl
  | some o => have := Fc.base _ _ e; rw [Fc.new _ hLX] at this; cases this
 (refine x22 qc.ho ?_; intro no os hoc hos)
 have hos' : os = #[] := by
  rcases hos with ⟨_, h⟩ | ⟨h, _⟩
  · exact h
  · cases h
 subst hos'
 have rr : RepL (c.at B) (fun a => a ∈ vld W P (env :: l)) sc' [sd (cs "a"), .dict [(cs "k", d)]] us :=
  RepL.mapA (c := c.at B) (c' := c.at B) (V' := fun a => a ∈ vld W P (env :: l)) (V := VK true (fun a => a ∈ W.da :: W.sa :: vl) X) rfl (fun a o nv e _ => ⟨fun h => nv ⟨rfl, (hsub a h).imp id fun (q : a = env.locals) => q ▸ hLX⟩, e⟩) rc
 have hrun := startM_X (c := c.at B) (n := n) (l := env :: l) (A := A.deeper env) (s := sc') (vs := [.ref W.wa] ++ us) (d := d) (mm := mm) (W := W) (no := no) SS Nc.st (fun B' h => hB B' h) hA'
  ⟨Fc.good, qc.w.kb, Fc.tok, fun a ha => (hsub a ha).elim (fun h => (qc.w.live0 a h).1) fun h => h ▸ qc.w.liveX _ hLX⟩
  (qc.w.stk hf K₀ qc.fl qc.kf) (fun a ha => (hsub a ha).elim (qc.w.base a) fun h => h ▸ hbX) qc.hP Nc.sa (eo ▸ hoc) Nc.da (by rw [eo]; exact N.so) N.ds (by rw [eo]; exact N.do') (hfrn _ N.s0 msa) (by rw [eo]; exact hfrn _ q.o0 qc.mO) (hfrn _ N.d0 mda) (.cons (.val _) rr)
 refine wM hrun (fun _ _ q => q) fun ev s'' eq => ⟨B, W.da :: W.sa :: vl, _, X, _, sc', qc, rfl, rfl, hsub, eq.post fun h hp => ⟨hp.1, ?_⟩⟩
 (refine x21 hp.2 ?_; intro n' t e)
 exact ⟨n', _, eo ▸ e, .inr ⟨rfl, t, rfl⟩⟩
theorem w_comment {p0 p1 p2 p6 : Pos} (SS : SFs (c.at B) K P) (q : Wo (c.at B) env (W.da :: W.sa :: vl) l s₀ X (ρN d who oa W) s P oa) (N : NewW W B s.heap oa s₀.heap) (hB : FnX (c.at B) n (.ref 182) [d] "TypeError" mm) (hf : env.frame = some env.locals) (K₀ : Stk c₀ A B0 l s₀.heap) (hA : Room c (n + 1) (A.deeper env)) (hline : (p1.endLine == p6.line) = true) :
 wpAny c.M (A.deeper env) (eval (.Call (.Attribute (.Name (oS "writer") p0) (oS "comment") p1) [.Name (oS "thing") p2] [] p6) env) (fun _ _ => False) (ErrIn c env l s₀ P oa mm []) s := by
 have Y := wb_of SS N.st
 refine q.errIn (n := n + 1) rfl rfl SS.here.hn hf K₀ hA (.mk fun A env V0 h0 Cs X s B' l hA hH F KK hV => ?_)
 refine Call_meth rfl rfl rfl hline (wM ((Ev.name (c := c.at B) (n := n + 1) (sc := sc09 17) (k := true) (ρ := ρN d who oa W) (x := "writer") (d := .val (.ref W.wa)) rfl).run A env _ h0 Cs X s hA F) (fun ov sa qa => ?_) fun _ _ q => q.elim)
 obtain ⟨ga, ra⟩ := qa
 cases ra.inv
 intro pl
 refine wM (meth_wp (c := c.at B) Y SS.here.cmM ((F.gr ga).base.trans (F.gr ga).keep) (by decide)) (fun r' sb qb => ?_) fun _ _ q => q.elim
 obtain ⟨rfl, rfl⟩ := qb
 refine SS.here.cmC.wp (first := [.ref W.wa]) rfl (wM ((EvL.cons (c := c.at B) (n := n + 1) (sc := sc09 17) (k := true) (ρ := ρN d who oa W) (d := d) (.name rfl) .nil).run A env _ h0 Cs X sb _ hA (F.gr ga)) (fun us sc' qc => ?_) fun _ _ q => q.elim)
 obtain ⟨gc, rc⟩ := qc
 have gac := ga.trans gc
 refine ⟨(F.gr gac).base.trans (F.gr gac).keep, ?_⟩
 refine wM ((comment_X Y SS.here.cm SS.here.cd SS.here.cdC hB).run A (Vol V0 X) sc' _ B' l hA (hH.keeps gac.keep) (KK.gr gac) (fun a ha => F.volF (hV a ha)) (((F.gr gac).st true).weak fun a q => ⟨rfl, q⟩) (.cons (.val _) (rc.weak fun a q => ⟨rfl, q⟩))) (fun _ _ q => q) fun _ _ q => q.gr gac
theorem w_pi {p0 p1 p2 p3 p6 : Pos} {k1 : Nat} (SS : SFs (c.at B) K P) (q : Wo (c.at B) env (W.da :: W.sa :: vl) l s₀ X (ρN d who oa W) s P oa) (N : NewW W B s.heap oa s₀.heap) (hB : FnX (c.at B) n (.ref 182) [d] "TypeError" mm) (ht : TruR (c.at B) d true) (hf : env.frame = some env.locals) (K₀ : Stk c₀ A B0 l s₀.heap) (hA : Room c (n + 1) (A.deeper env)) (hline : (p1.endLine == p6.line) = true) :
 wpAny c.M (A.deeper env) (eval (.Call (.Attribute (.Name (oS "writer") p0) (oS "pi") p1) [.Constant (.str (oS "m")) k1 p2, .Name (oS "thing") p3] [] p6) env) (fun _ _ => False) (ErrIn c env l s₀ P oa mm []) s := by
 have Y := wb_of SS N.st
 refine q.errIn (n := n + 1) rfl rfl SS.here.hn hf K₀ hA (.mk fun A env V0 h0 Cs X s B' l hA hH F KK hV => ?_)
 refine Call_meth rfl rfl rfl hline (wM ((Ev.name (c := c.at B) (n := n + 1) (sc := sc09 17) (k := true) (ρ := ρN d who oa W) (x := "writer") (d := .val (.ref W.wa)) rfl).run A env _ h0 Cs X s hA F) (fun ov sa qa => ?_) fun _ _ q => q.elim)
 obtain ⟨ga, ra⟩ := qa
 cases ra.inv
 intro pl
 refine wM (meth_wp (c := c.at B) Y SS.here.pmM ((F.gr ga).base.trans (F.gr ga).keep) (by decide)) (fun r' sb qb => ?_) fun _ _ q => q.elim
 obtain ⟨rfl, rfl⟩ := qb
 refine SS.here.pmC.wp (first := [.ref W.wa]) rfl (wM ((EvL.cons (c := c.at B) (n := n + 1) (sc := sc09 17) (k := true) (ρ := ρN d who oa W) (d := sd (cs "m")) .lit (.cons (d := d) (.name rfl) .nil)).run A env _ h0 Cs X sb _ hA (F.gr ga)) (fun us sc' qc => ?_) fun _ _ q => q.elim)
 obtain ⟨gc, rc⟩ := qc
 have gac := ga.trans gc
 refine ⟨(F.gr gac).base.trans (F.gr gac).keep, ?_⟩
 refine wM ((pi_X (x := cs "m") Y SS.here.pm SS.here.cd SS.here.cdC hB (by decide) ht).run A (Vol V0 X) sc' _ B' l hA (hH.keeps gac.keep) (KK.gr gac) (fun a ha => F.volF (hV a ha)) (((F.gr gac).st true).weak fun a q => ⟨rfl, q⟩) (.cons (.val _) (rc.weak fun a q => ⟨rfl, q⟩))) (fun _ _ q => q) fun _ _ q => q.gr gac
end
end
section
noncomputable abbrev tryB : List Stmt := match (show Option Stmt from (bd09 17)[1]?) with
 | some (.Try b _ _ _ _) => b
 | _ => []
noncomputable def outD (who : Nat) : List D := if who = 7 then [sd (cs "<a")] else []
section
variable {c : Cx} {n : Nat} {ρ : Sto} {env : Env} {X : List Addr} {s s' s₀ : Shared} {vl : List Addr} {A : Around} {l : List Env} {P oa na : Addr} {kvs : List (Str × Value)} {ep : Nat} {K : Frag} {d : D} {mm : List Nat} {od : List D} {ev : Value} {B0 B : Heap} {c₀ : Cx} {who : Nat} {W : WA} {b : Bool}
theorem Wo.tst {t : Expr} {body orelse : List Stmt} {pos : Pos} {rest : List Stmt} {b : Bool} {E : Value -> Shared -> Prop} {B : Heap} {Q : Flow -> Shared -> Prop} (q : Wo (c.at B) env vl l s₀ X ρ s P oa) (hA : Room c n A) (ht : Tst (c.at B) n (sc09 17) ρ t b)
 (k : ∀ s', Gr s s' -> Wo (c.at B) env vl l s₀ X ρ s' P oa -> if b = true then wpAny c.M A (execs body env) (fun _ _ => False) E s' else wpAny c.M A (execs orelse env) (fun _ _ => False) E s') : wpAny c.M A (execs (.If t body orelse pos :: rest) env) Q E s := by
 (refine x12 q.w.fm ?_; intro h0 F hv)
 refine wE (wpAny_If (wM (ht.run A env _ h0 env.cells X s (hA.at B) F) (fun r s' qq => ?_) fun _ _ q => q.elim))
 obtain ⟨g, rfl⟩ := qq
 have := k s' g (q.gr g)
 cases r with
 | true => exact wM this (fun _ _ q => q.elim) fun _ _ q => q
 | false => exact wM this (fun _ _ q => q.elim) fun _ _ q => q
theorem Wo.expr {e : Expr} {pos : Pos} {rest : List Stmt} {E : Value -> Shared -> Prop} {Q : Flow -> Shared -> Prop} {B : Heap} (q : Wo (c.at B) env vl l s₀ X ρ s P oa) (h : wpAny c.M A (eval e env) (fun _ _ => False) E s) (hs : swapsWith e none pos.line env = pure false) : wpAny c.M A (execs (.Expr e pos :: rest) env) Q E s :=
 wE (wpAny_Expr_any (wM h (fun _ _ q => q.elim) fun _ _ q => q) q.w.int hs)
set_option maxHeartbeats 4000000 in
theorem w_body (Y : W9 c K P na kvs ep) (hB : Bad c (n + 3) d mm) (hw : who <= 8) (htr : ∀ B, TruR (c.at B) d b) (q : Wo c env vl l s₀ X (ρO d who oa) s P oa) (hf : env.frame = some env.locals) (K₀ : Stk c₀ A B0 l s₀.heap) (hA : Room c (n + 5) (A.deeper env)) (hO : OwnT c (A.deeper env) env (sc09 17) env.cells) :
 wpAny c.M (A.deeper env) (execs tryB env) (fun _ _ => False) (ErrIn c env l s₀ P oa mm (outD who)) s := by
 have hn := Y.SS.here.hn
 have q0 : Wo (c.at c.base) env vl l s₀ X (ρO d who oa) s P oa := q
 have hB0 : ∀ f ∈ [65, 189, 72, 58, 182, 51], FnX c (n + 3) (.ref f) [d] "TypeError" mm := hB c.base (Keeps.refl _)
 have hA3 : Room c (n + 3) (A.deeper env) := hA.mono (by omega)
 refine q0.tst (n := n + 5) (b := decide ((who : Int) < 5)) hA (.cmp (.name rfl) .int CmpR.ltI) fun s₁ g₁ q₁ => ?_
 by_cases h5 : who < 5
 · rw [if_pos (decide_eq_true (by omega))]
   have ho : outD who = [] := if_neg (by omega)
   erw [ho]
   exact q₁.expr (q₁.errIn (n := n + 3) rfl rfl hn hf K₀ hA3 (lt5_X (c := c) Y hB h5)) rfl
 rw [if_neg (fun h => absurd (of_decide_eq_true h) (by omega))]
 refine q₁.tst (n := n + 5) (b := decide ((who : Int) = 8)) hA (.cmp (.name rfl) .int CmpR.eqI) fun s2 g₂ q₂ => ?_
 by_cases h8 : who = 8
 · rw [if_pos (decide_eq_true (by omega))]
   have ho : outD who = [] := if_neg (by omega)
   erw [ho]
   exact q₂.expr (q₂.errIn (n := n + 3) rfl rfl hn hf K₀ hA3 (.call (c := c) (.glob Y.g8) Y.c8 (.cons (.name rfl) .nil) (hB0 51 (by simp)))) rfl
 rw [if_neg (fun h => absurd (of_decide_eq_true h) (by omega))]
 have q2' : Wo c env vl l s₀ X (ρO d who oa) s2 P oa := q₂
 refine q2'.make (n := n + 3) rfl Y.KY Y.gW rfl (hA.mono (by exact Nat.le_refl _)) hO fun W B X3 s₃ hk N q₃ => ?_
 have SSB := Y.SS.at hk
 refine q₃.tst (n := n + 5) (b := decide ((who : Int) = 7)) hA (.cmp (.name rfl) .int CmpR.eqI) fun s4 g₄ q₄ => ?_
 have N4 := N.gr g₄
 by_cases h7 : who = 7
 · rw [if_pos (decide_eq_true (by omega))]
   have ho : outD who = [sd (cs "<a")] := if_pos h7
   erw [ho]
   exact q₄.expr (w_start (n := n) SSB q₄ N4 (fun B' h => hB B' (hk.trans h) 189 (by exact .tail _ (.head _))) hf K₀ hA rfl) rfl
 rw [if_neg (fun h => absurd (of_decide_eq_true h) (by omega))]
 have ho : outD who = [] := if_neg h7
 erw [ho]
 have hC : FnX (c.at B) (n + 3) (.ref 182) [d] "TypeError" mm := hB B hk 182 (by simp)
 refine q₄.tst (n := n + 5) (b := decide ((who : Int) = 6) && b) hA (.boolop (.and (a := decide ((who : Int) = 6)) (b := b) (.cmp (.name rfl) .int CmpR.eqI) fun _ => ?_)) fun s5 g5 q₅ => ?_
 · exact Eq.mp (congrArg (Tsts (c.at B) (n + 5) (sc09 17) (ρN d who oa W) .And _) (Bool.and_true b)) (.and (.val (.name rfl) (htr B)) fun _ => .nilAnd)
 have N5 := N4.gr g5
 have hA4 : Room c (n + 3 + 1) (A.deeper env) := hA.mono (by omega)
 cases hb : (decide ((who : Int) = 6) && b) with
 | true =>
  erw [if_pos rfl]
  have hb' : b = true := by simp only [Bool.and_eq_true] at hb; exact hb.2
  exact q₅.expr (w_pi (n := n + 3) SSB q₅ N5 hC (hb' ▸ htr B) hf K₀ hA4 rfl) rfl
 | false =>
  erw [if_neg Bool.false_ne_true]
  exact q₅.expr (w_comment (n := n + 3) SSB q₅ N5 hC hf K₀ hA4 rfl) rfl
end
end
section
section
variable {c : Cx} {n : Nat} {s : Shared} {A : Around} {l : List Env} {P na : Addr} {kvs : List (Str × Value)} {ep : Nat} {K : Frag} {d : D} {mm : List Nat} {B0 : Heap} {who : Nat} {b : Bool} {vs : List Value} {V : Addr -> Prop}
set_option maxHeartbeats 4000000 in
theorem words_X (Y : W9 c K P na kvs ep) (hB : Bad c (n + 3) d mm) (hw : who <= 8) (htr : ∀ B, TruR (c.at B) d b) (hA : Room c (n + 6) A) (hS : St c V s) (hPV : V P) (hfV : ∀ a ∈ frs l, V a) (K₀ : Stk c A B0 l s.heap) (hvb : ∀ a ∈ P :: frs l, c.base.get? a = none) (hP : PSt P stQual lamPos s.heap)
 (r : RepL c V s [d, .int who] vs) :
 wpAny c.M A (call (.ref 215) vs) (fun v s' => WQ P l s s' /\ Rep c V s' (.tuple [sd mm, .list (outD who)]) v) (fun _ _ => False) s := by
 have hn := Y.SS.here.hn
 have hsub : ∀ a, a ∈ P :: frs l -> V a := fun a ha => (mC.mp ha).elim (fun q => q ▸ hPV) (hfV a)
 refine fn_enter (V := fun a => a ∈ P :: frs l) (Q := fun v s' => WQ P l s s' /\ Rep c V s' (.tuple [sd mm, .list (outD who)]) v) (E := fun _ _ => False) Y.wd.toIsDefL rfl hA (hS.weak hsub) (r.weak hsub) fun env X s₁ hf hnl g F hO hX => ?_
 have hA1 : Room c (n + 5) (A.deeper env) := hA.deeper env
 have hOT : OwnT c (A.deeper env) env (sc09 17) env.cells := ⟨hO, fun q => absurd q Y.wd.nl⟩
 have F' : Fm c (sc09 17) env (fun a => a ∈ P :: frs l) s.heap env.cells X [("thing", .val d), ("who", .val (.int who))] s₁ := F
 have w := Wk.enter F' hvb g hX
 refine wE (wpAny_Assign_Name (wpAny_List (wN ⟨by rw [sizeLine_eq]; simp, ?_⟩)) rfl)
 have g₂ : Gr s₁ { s₁ with heap := s₁.heap.push (listObj #[] 0) } := .push _
 have hoa : (s₁.heap.push (listObj #[] 0)).get? s₁.heap.objs.size = some (listObj #[] 0) := Heap.get?_push_size _ rfl
 have hon : s₁.heap.get? s₁.heap.objs.size = none := get_size _
 have w2 : Wk c (sc09 17) env (s₁.heap.objs.size :: P :: frs l) env.cells s X [("thing", .val d), ("who", .val (.int who))] { s₁ with heap := s₁.heap.push (listObj #[] 0) } := w.adds [s₁.heap.objs.size] (fun a ha => by rw [mSz.mp ha]; exact hon) g₂ fun a ha => by erw [mSz.mp ha]; exact ⟨_, hoa⟩
 have g02 := g.trans g₂
 have ho0 : s.heap.get? s₁.heap.objs.size = none := gr_none g hon
 have q₂ : Wo c env (s₁.heap.objs.size :: P :: frs l) l s X [("thing", .val d), ("who", .val (.int who))] { s₁ with heap := s₁.heap.push (listObj #[] 0) } P s₁.heap.objs.size :=
  ⟨w2, hP.keeps g02.keep, ⟨0, #[], hoa, .inl ⟨rfl, rfl⟩⟩, fun a h o e => g02.keep _ _ e, fun a h => .tail _ (.tail _ h), fun a ha => by
   rcases mC.mp ha with rfl | ha
   · exact .inr (.inr ho0)
   · exact (mC.mp ha).imp id .inl, .tail _ (.head _), .head _, ho0⟩
 generalize s₁.heap.objs.size = oa at hoa hon w2 ho0 q₂ ⊢
 refine wM (Wk.put (A := A.deeper env) w2 hOT (.inl rfl) (.val (.ref oa)) (Q := fun _ s' => ∃ X', Wo c env (oa :: P :: frs l) l s X' (ρO d who oa) s' P oa) fun X' s' t w' => ⟨X', q₂.stp (B := c.base) rfl t w'⟩) (fun _ s₃ q => ?_) fun _ _ q => q.elim
 obtain ⟨X3, q₃⟩ := q
 refine wE (wpAny_Try_except (wM (w_body Y hB hw htr q₃ hf K₀ hA1 hOT) (fun _ _ q => q.elim) fun ev s4 er => ?_))
 obtain ⟨B, vl, vl', X4, ρ4, s5, q₅, hv, hout, hs, eq⟩ := er
 have hP0 : ∃ o, s.heap.get? P = some o := let ⟨ps, e⟩ := hP.tab; ⟨_, e⟩
 refine wM (handled (c := c.at B) (n := n + 5) hn q₅.w hv (hA1.at B) hf K₀ q₅.fl q₅.kf hs q₅.vr q₅.mP q₅.mO q₅.o0 hP0 hS.live hout Y.T Y.S rfl rfl rfl eq) (fun _ s6 q => wM q (fun _ s7 q => wM q (fun f s8 q => ?_) fun _ _ q => q.elim) fun _ _ q => q.elim) fun _ _ q => q.elim
 (refine x13 q ?_; clear q; rintro v rfl wq rep)
 exact fun _ => ⟨wq, Rep.cx (show (c.at B).w = c.w from rfl) rep⟩
end
end
section
section
variable {c : Cx} {n : Nat} {s s' s'' : Shared} {P : Addr} {l : List Env} {V V' : Addr -> Prop}
theorem WQ.refl (h : PSt P stQual lamPos s.heap) : WQ P l s s := ⟨fun _ _ _ _ e => e, fun _ o _ e => ⟨o.slots, e⟩, .refl s, h⟩
theorem WQ.trans (a : WQ P l s s') (b : WQ P l s' s'') : WQ P l s s'' := ⟨fun x o h1 h2 e => b.keep x o h1 h2 (a.keep x o h1 h2 e), fun x o h e => by
 obtain ⟨sl, e1⟩ := a.up x o h e
 obtain ⟨sl2, e2⟩ := b.up x _ h e1
 exact ⟨sl2, e2⟩, a.mn.trans b.mn, b.hP⟩
theorem WQ.gr (a : WQ P l s s') (g : Gr s' s'') : WQ P l s s'' := a.trans ⟨fun x o _ _ e => g.keep _ _ e, fun x o _ e => ⟨o.slots, g.keep _ _ e⟩, g.mn, a.hP.keeps g.keep⟩
theorem WQ.calm (a : WQ P l s s') (hP : V P) (hf : ∀ b ∈ frs l, V b) : Calm V s s' := ⟨a.mn.tok, fun b o nb e _ => a.keep b o (fun q => nb (q ▸ hP)) (fun q => nb (hf b q)) e⟩
theorem WQ.alive (a : WQ P l s s') {b : Addr} {o : Obj} (e : s.heap.get? b = some o) : ∃ o', s'.heap.get? b = some o' := by
 by_cases h1 : b = P
 · obtain ⟨ps, e'⟩ := a.hP.tab; exact ⟨_, h1 ▸ e'⟩
 · by_cases h2 : b ∈ frs l
   · obtain ⟨sl, e'⟩ := a.up b o h2 e; exact ⟨_, e'⟩
   · exact ⟨o, a.keep b o h1 h2 e⟩
theorem WQ.new (a : WQ P l s s') {b : Addr} {h' : Heap} {tk : Nat} (hn : s.heap.get? b = none) (hs : Heap.SameBut b s'.heap h') (ht : s'.toks <= tk) (hbP : b ≠ P) {o : Obj} (ho : s'.heap.get? b = some o) (hd : ∀ vs, o.data ≠ .fields vs) : WQ P l s { s' with heap := h', toks := tk } := by
 have ne : ∀ x o, s.heap.get? x = some o -> x ≠ b := fun x o e q => by rw [q, hn] at e; cases e
 exact ⟨fun x o h1 h2 e => (hs.2 x (ne x o e)).trans (a.keep x o h1 h2 e), fun x o h e => let ⟨sl, e1⟩ := a.up x o h e; ⟨sl, (hs.2 x (ne x o e)).trans e1⟩, ⟨Nat.le_trans a.mn.tok ht, a.mn.gens, a.mn.os⟩, a.hP.same hs hbP ho hd⟩
theorem WQ.fm {sc : Scope} {env : Env} {V0 : Addr -> Prop} {h0 h0' : Heap} {Cs : List (Str × Addr)} {X : List Addr} {ρ : Sto} (a : WQ P l s s') (F : Fm c sc env V0 h0 Cs X ρ s) (hP : V0 P) (hfr : ∀ b ∈ frs l, V0 b \/ b = env.locals) (hb : Keeps c.base h0') (hk : Keeps h0' s'.heap) (hn : ∀ a ∈ X, h0'.get? a = none) (hcs : Cs = env.cells) : Fm c sc env V0 h0' Cs X ρ s' :=
 F.noted2 (Pv := fun b => b = P) (fr := frs l) (fun b o h1 h2 e => a.keep b o h1 h2 e) (fun b o h e => a.up b o h e) a.mn.tok hfr (fun b q => q ▸ hP) (fun b q => by obtain ⟨ps, e⟩ := a.hP.tab; exact ⟨_, q ▸ e⟩) hb hk hn hcs
theorem WQ.kb (a : WQ P l s s') {B : Heap} (k : Keeps B s.heap) (hP : B.get? P = none) (hf : ∀ b ∈ frs l, B.get? b = none) : Keeps B s'.heap := fun b o e => a.keep b o (fun q => by rw [q, hP] at e; cases e) (fun q => by rw [hf b q] at e; cases e) (k b o e)
end
end
section
section
variable {c : Cx} {n : Nat} {sc : Scope} {ρ : Sto} {env : Env} {V0 Pv : Addr -> Prop} {h0 h0' : Heap} {Cs : List (Str × Addr)} {X fr fp : List Addr} {s s' : Shared} {A : Around} {P na : Addr} {l : List Env} {kvs : List (Str × Value)} {ep : Nat} {K : Frag} {d : D} {mm : List Nat} {B0 : Heap} {who : Nat} {b : Bool}
theorem Fm.noted3 (F : Fm c sc env V0 h0 Cs X ρ s) (keep : ∀ b o, ¬ Pv b -> b ∉ fr -> s.heap.get? b = some o -> s'.heap.get? b = some o) (up : ∀ b o, b ∈ fr -> s.heap.get? b = some o -> ∃ sl, s'.heap.get? b = some { o with slots := sl }) (htk : s.toks <= s'.toks)
 (hfr : ∀ a ∈ fr, V0 a \/ a = env.locals) (hP : ∀ a, Pv a -> V0 a) (hlv : ∀ a, Pv a -> ∃ o, s'.heap.get? a = some o) (hb : Keeps c.base h0') (hk : Keeps h0' s'.heap) (hn : ∀ a ∈ X, h0'.get? a = none) (hcs : Cs = env.cells)
 (hfn : ∀ a ∈ fp, s.heap.get? a = none) (hfl : ∀ a ∈ fp, ∃ o, s'.heap.get? a = some o) : Fm c sc env (fun a => V0 a \/ a ∈ fp) h0' Cs X ρ s' := by
 have F' := F.noted2 keep up htk hfr hP hlv hb hk hn hcs
 obtain ⟨m, fps, h1, h2, h3, h4, h6, h5⟩ := F.sto
 obtain ⟨m', fps', h1', h2', h3', h4', h6', h5'⟩ := F'.sto
 have hLX : env.locals ∈ X := h2 ▸ .head _
 have hPX : ∀ a ∈ X, ¬ Pv a := fun a ha q => (F.live0 a (hP a q)).2 ha
 have hoff : ∀ a, ¬ Vol V0 X a -> a ∉ fr := fun a na q => (hfr a q).elim (fun q => na (.inl q)) fun q => na (.inr (q ▸ hLX))
 have hoffP : ∀ a, ¬ Vol V0 X a -> ¬ Pv a := fun a na q => na (.inl (hP a q))
 have hX : ∀ a ∈ X, a ≠ env.locals -> a ∉ fr := fun a ha hne q => (hfr a q).elim (fun q => (F.live0 a q).2 ha) hne
 have hndL : env.locals ∉ Cs.map (·.2) ++ fps := (List.nodup_cons.mp (h2 ▸ h3)).1
 have hns : s'.heap.Ns env.locals m := by
  (refine x33 h1 ?_; clear h1; intro o es ep ho hd r)
  by_cases q : env.locals ∈ fr
  · obtain ⟨sl, e'⟩ := up _ o q ho; exact ⟨_, es, ep, e', hd, r⟩
  · exact ⟨o, es, ep, keep _ o (hPX _ hLX) q ho, hd, r⟩
 refine ⟨F'.good, F'.scope, F'.kind, F'.globals, F'.builtins, F'.base, F'.keep, F'.tok, fun a q => ?_, F'.ccells, F'.new, F'.cells, F'.cinj, m, fps, hns, h2, h3, h4', h6', ?_⟩
 · rcases q with q | q
   · exact F'.live0 a q
   · refine ⟨hfl a q, fun hx => ?_⟩
     obtain ⟨o, e⟩ := h4 a hx; rw [hfn a q] at e; cases e
 · have h5e := h5.ext (W := fun b => b ∈ fp) hfn
   have hcm : Calm (fun a => Vol V0 X a \/ a ∈ fp) s s' := ⟨htk, fun b o nb e _ => keep b o (hoffP b fun q => nb (.inl q)) (hoff b fun q => nb (.inl q)) e⟩
   have h5f : StoR c env (fun a => Vol V0 X a \/ a ∈ fp) s' m ρ fps := h5e.change (s := s) (s' := s') hcm (fun a ha o e => keep a o (hPX a (h2 ▸ .tail _ (mR _ ha))) (hX a (h2 ▸ .tail _ (mR _ ha)) fun q => hndL (q ▸ mR _ ha)) e) (fun _ _ _ => rfl) fun p hp a o w hc e hw => by
    have hp2 : a ∈ Cs.map (·.2) := by rw [hcs]; exact List.mem_map.mpr ⟨_, mem_lookup hc, rfl⟩
    have hax : a ∈ X := h2 ▸ .tail _ (mL _ hp2)
    exact keep a o (hPX a hax) (hX a hax fun q => hndL (q ▸ mL _ hp2)) e
   refine h5f.weak fun b q => ?_
   rcases q with (q | q) | q
   · exact .inl (.inl q)
   · exact .inr q
   · exact .inl (.inr q)
theorem words_call {e1 e2 : Expr} {p0 pos : Pos} (Y : W9 c K P na kvs ep) (hB : Bad c (n + 3) d mm) (hw : who <= 8) (htr : ∀ B, TruR (c.at B) d b) (gw : c.mg (oS "_law_words") = some (.ref 215)) (cw : Callee c (.ref 215)) (hG : sc.names.lookup (oS "_law_words") = some .globalImplicit)
 (h1 : Ev c (n + 6) sc true ρ e1 d) (h2 : Ev c (n + 6) sc true ρ e2 (.int who)) (hp1 : plainE e1 = true) (hp2 : plainE e2 = true) (hA : Room c (n + 6) A) (F : Fm c sc env V0 h0 Cs X ρ s) (K₀ : Stk c A B0 l s.heap) (hPV : Vol V0 X P) (hfV : ∀ a ∈ frs l, Vol V0 X a) (hvb : ∀ a ∈ P :: frs l, c.base.get? a = none) (hP : PSt P stQual lamPos s.heap) :
 wpAny c.M A (eval (.Call (.Name (oS "_law_words") p0) [e1, e2] [] pos) env) (fun v s' => WQ P l s s' /\ Rep c (Vol V0 X) s' (.tuple [sd mm, .list (outD who)]) v) NoE s := by
 have he : eval (.Call (.Name (oS "_law_words") p0) [e1, e2] [] pos) env = (do callWith pos (<- eval (.Name (oS "_law_words") p0) env) [] (backTo pos (starEach [e1, e2] env)) (backToKw pos (keywordEach [] env))) := rfl
 erw [he]
 refine wB (wM ((Ev.glob (n := n + 6) (k := true) (ρ := ρ) gw hG).run A env V0 h0 Cs X s hA F) (fun fv s₁ q₁ => ?_) fun _ _ q => q.elim)
 obtain ⟨g₁, r₁⟩ := q₁
 cases r₁.inv
 refine cw.wp (by simp [hp1, hp2]) (wM ((EvL.cons (k := true) h1 (.cons h2 .nil hp2) hp1).run A env V0 h0 Cs X s₁ pos hA (F.gr g₁)) (fun vs s2 q₂ => ⟨((F.gr g₁).gr q₂.1).base.trans ((F.gr g₁).gr q₂.1).keep, ?_⟩) fun _ _ q => q.elim)
 obtain ⟨g₂, r₂⟩ := q₂
 have g := g₁.trans g₂
 have hvk : VK true V0 X = Vol V0 X := by funext a; simp [VK]
 rw [hvk] at r₂
 refine wM (words_X Y hB hw htr hA (((F.gr g).st true).weak fun a q => ⟨rfl, q⟩) hPV hfV (K₀.gr g) hvb (hP.keeps g.keep) r₂) (fun v s₃ q => ⟨?_, q.2⟩) fun _ _ q => q
 exact ((WQ.refl hP).gr g).trans q.1
end
end
section
section
variable {c : Cx} {n : Nat} {sc sci : Scope} {ρ : Sto} {env E : Env} {V0 Vi : Addr -> Prop} {h0 : Heap} {Cs : List (Str × Addr)} {X : List Addr} {s s' s'' : Shared} {A : Around} {P na C Dd it : Addr} {l : List Env} {kvs : List (Str × Value)} {ep : Nat} {K : Frag} {d : D} {mm : List Nat} {B0 : Heap} {b : Bool} {rest : List D} {xs : List D}
theorem Fm.stk1 (F : Fm c sc env V0 h0 Cs X ρ s) (hf : env.frame = some env.locals) (hA : A.frames = some [env]) : Stk c A c.base [env] s.heap := by
 obtain ⟨m, fps, ⟨o, es, ep, ho, hd, _⟩, h2, _⟩ := F.sto
 have hn : c.base.get? env.locals = none := by
  cases e : c.base.get? env.locals with
  | none => rfl
  | some o => have := F.base _ _ e; rw [F.new _ (h2 ▸ .head _)] at this; cases this
 exact ⟨hA, Keeps.refl _, fun b o e => F.keep _ _ (F.base _ _ e), by rw [F.scope, F.kind]; decide, ⟨env.locals, o, hf, hn, ho, fun vs q => by rw [hd] at q; cases q⟩, trivial⟩
theorem ItAt.vs1 {c : Cx} {V : Addr -> Prop} {ds : List D} (h : ItAt c V s it ds) : ∃ o vs T, s.heap.get? it = some o /\ o.cls = .type T /\ o.data = .fields vs /\ ∀ q t, vs[1]? ≠ some (.str q t) := by
 cases h with
 | list h => (refine x13 h ?_; clear h; intro o h1 h2 h3); exact ⟨o, _, _, h1, h2, h3, fun q t h => nomatch h⟩
 | tuple h => (refine x13 h ?_; clear h; intro o h1 h2 h3); exact ⟨o, _, _, h1, h2, h3, fun q t h => nomatch h⟩
 | range h => exact ⟨_, _, "range_iterator", h, rfl, rfl, fun q t h => nomatch h⟩
 | ascii h => (refine x13 h ?_; clear h; intro o h1 h2 h3); exact ⟨o, _, _, h1, h2, h3, fun q t h => nomatch h⟩
 | wide h => (refine x13 h ?_; clear h; intro o h1 h2 h3); exact ⟨o, _, _, h1, h2, h3, fun q t h => nomatch h⟩
theorem PSt.itS {V : Addr -> Prop} {ds : List D} (p : PSt P stQual lamPos s'.heap) (h : ItAt c V s' it ds) (t : ItStep it s' s'') : PSt P stQual lamPos s''.heap := by
 (refine x34 h.vs1 ?_; intro o vs T e hc hd hv)
 have hPit : ∀ ps, s'.heap.get? P = some (tabObj ps) -> P ≠ it := fun ps h q => by rw [q, e] at h; cases h; cases hc
 cases p with
 | miss h => exact .miss (t.keep _ _ (hPit _ h) h)
 | hit c1 h1 h2 =>
  refine .hit c1 (t.keep _ _ (hPit _ h1) h1) ?_
  (refine x44 h2 ?_; clear h2; intro c2 oc ws tq e1 e2 hdd h3)
  exact ⟨c2, oc, ws, tq, e1, t.keep _ _ (fun q => by rw [q, e] at e2; cases e2; rw [hd] at hdd; cases hdd; exact hv _ _ h3) e2, hdd, h3⟩
theorem WQ.itS {V : Addr -> Prop} {ds : List D} (a : WQ P l s s') (hn : s.heap.get? it = none) (h : ItAt c V s' it ds) (t : ItStep it s' s'') : WQ P l s s'' :=
 ⟨fun x o h1 h2 e => t.keep x o (fun q => by rw [q, hn] at e; cases e) (a.keep x o h1 h2 e), fun x o hx e => let ⟨sl, e1⟩ := a.up x o hx e; ⟨sl, t.keep x _ (fun q => by rw [q, hn] at e; cases e) e1⟩, a.mn.trans ⟨t.tok, t.gens, t.os⟩, a.hP.itS h t⟩
theorem WQ.stp {X' X'' : List Addr} (a : WQ P l s s') (hn : ∀ b ∈ X', s.heap.get? b = none) (hP : P ∉ X') (hnf : ∀ b ∈ X', ∀ o, s'.heap.get? b = some o -> ∀ vs, o.data ≠ .fields vs) (t : Stp X' s' X'' s'') : WQ P l s s'' :=
 ⟨fun x o h1 h2 e => t.keep x o (fun q => by rw [hn x q] at e; cases e) (a.keep x o h1 h2 e), fun x o hx e => let ⟨sl, e1⟩ := a.up x o hx e; ⟨sl, t.keep x _ (fun q => by rw [hn x q] at e; cases e) e1⟩, a.mn.trans t.mn, a.hP.stp t hP hnf⟩
structure CW (c : Cx) (sci : Scope) (E : Env) (Vi : Addr -> Prop) (C Dd P : Addr) (l : List Env) (s : Shared) (xs : List D) (s' : Shared) : Prop where
 wq : WQ P l s s'
 fm : Fm c sci E Vi c.base [] [C] [] s'
 lst : LstAt c (Vol Vi [C]) s' Dd xs
structure CWok (c : Cx) (E : Env) (Vi : Addr -> Prop) (C Dd it P : Addr) (l : List Env) (s : Shared) : Prop where
 eL : E.locals = C
 cells : E.cells = []
 its : s.heap.get? it = none
 Ds : s.heap.get? Dd = none
 Cs : s.heap.get? C = none
 DC : Dd ≠ C
 iC : it ≠ C
 iD : it ≠ Dd
 iV : ¬ Vi it
 DV : Vi Dd
 PV : Vi P
 fV : ∀ b ∈ frs l, Vi b
 Ps : ∃ o, s.heap.get? P = some o
 vb : ∀ a ∈ P :: frs l, c.base.get? a = none
 ib : c.base.get? it = none
 Db : c.base.get? Dd = none
 Cb : c.base.get? C = none
theorem CW.step (O : CWok c E Vi C Dd it P l s) (J : CW c sci E Vi C Dd P l s xs s') (hi : ItAt c (Vol Vi [C]) s' it rest) (t : ItStep it s' s'') : CW c sci E Vi C Dd P l s xs s'' :=
 ⟨J.wq.itS O.its hi t, J.fm.it hi (fun h => O.iC (mSz.mp h)) O.ib O.iV t, let ⟨o, vs, nn, h1, h2, h3, h4, h5⟩ := J.lst; ⟨o, vs, nn, t.keep _ _ (Ne.symm O.iD) h1, h2, h3, h4, h5.calm (t.calm hi _) fun _ q => q⟩⟩
end
end
section
theorem FunFrames_up {h h' B : Heap} : ∀ {l : List Env}, (∀ a ∈ l.filterMap (·.frame), ∀ o, h.get? a = some o -> ∃ sl, h'.get? a = some { o with slots := sl }) -> h.FunFrames B l -> h'.FunFrames B l
 | [], _, x => x
 | env :: l, k, ⟨h1, ⟨L, o, a, b, c, d⟩, h3⟩ => by
  have e : (env :: l).filterMap (·.frame) = L :: l.filterMap (·.frame) := by rw [List.filterMap_cons, a]
  rw [e] at k
  obtain ⟨sl, c'⟩ := k L (.head _) o c
  exact ⟨h1, ⟨L, _, a, b, c', d⟩, FunFrames_up (fun x hx => k x (.tail _ hx)) h3⟩
section
variable {c : Cx} {n : Nat} {sc sci : Scope} {ρ : Sto} {env E : Env} {V0 Vi : Addr -> Prop} {h0 : Heap} {Cs : List (Str × Addr)} {X : List Addr} {s s' s'' : Shared} {A : Around} {P na C Dd it : Addr} {l : List Env} {kvs : List (Str × Value)} {ep : Nat} {K : Frag} {d : D} {mm : List Nat} {B0 : Heap} {b : Bool} {rest : List D} {xs : List D}
theorem CWok.ne (O : CWok c E Vi C Dd it P l s) (K : Stk c A c.base l s.heap) {a : Addr} (h : s.heap.get? a = none) : a ≠ P /\ a ∉ frs l := by
 refine ⟨fun q => ?_, fun q => ?_⟩
 · obtain ⟨o, e⟩ := O.Ps; rw [q] at h; rw [h] at e; cases e
 · obtain ⟨_, o, e, _⟩ := K.frames.mem q; rw [h] at e; cases e
theorem CW.turn {r : D} {tgt elt : Expr} {pp : Shared -> Prop} (O : CWok c E Vi C Dd it P l s) (K : Stk c A c.base l s.heap) (J : CW c sci E Vi C Dd P l s xs s') (hi : ItAt c (Vol Vi [C]) s' it rest) {v : Value} (rv : Rep c (Vol Vi [C]) s' d v) (hA0 : Room c 0 A)
 (ht : TgtG false c sci tgt d [] [("thing", .val d)]) (hz : xs.length <= 16777216)
 (he : ∀ s4 X4, Fm c sci E Vi c.base [] X4 [("thing", .val d)] s4 -> Stk c A c.base l s4.heap -> Vol Vi X4 P -> (∀ a ∈ frs l, Vol Vi X4 a) -> PSt P stQual lamPos s4.heap -> wpAny c.M A (eval elt E) (fun v s' => WQ P l s4 s' /\ Rep c (Vol Vi X4) s' r v) NoE s4)
 (k : ∀ s6, CW c sci E Vi C Dd P l s (xs ++ [r]) s6 -> ItAt c (Vol Vi [C]) s6 it rest -> pp s6) :
 wpAny c.M A (assign tgt E v) (fun _ s2 => wpAny c.M A (eval elt E) (fun x s4 => wpAny c.M A (call (.builtin "list.append") [.ref Dd, x]) (fun _ s5 => pp s5) NoE s4) NoE s2) NoE s' := by
 refine wM (ht.run A E Vi c.base [] [C] s' v hA0 (fun q => nomatch q) J.fm rv) (fun _ s4 q => ?_) fun _ _ q => q
 (refine x12 q ?_; clear q; intro X4 g₄ F4)
 have hX4 : X4 = [C] := by
  obtain ⟨_, fps, _, h2, _, _, _, h5⟩ := F4.sto
  rw [h2, h5.vals (fun p hp => ⟨d, by rw [mSz.mp hp]⟩), O.eL]; rfl
 subst hX4
 have nC := O.ne K O.Cs
 have nD := O.ne K O.Ds
 have nI := O.ne K O.its
 have wq4 := J.wq.stp (fun b hb => by rw [mSz.mp hb]; exact O.Cs) (fun h => nC.1 (mSz.mp h).symm) (J.fm.nofieldsP rfl) g₄
 have K4 : Stk c A c.base l s4.heap := ⟨K.stack, Keeps.refl _, fun b o e => F4.keep _ _ e, FunFrames_up (fun a ha o e => wq4.up a o ha e) K.frames⟩
 refine wM (he s4 [C] F4 K4 (.inl O.PV) (fun a ha => .inl (O.fV a ha)) wq4.hP) (fun x s5 q => ?_) fun _ _ q => q
 obtain ⟨w₅, rx⟩ := q
 have wq5 := wq4.trans w₅
 have hcal : Calm (Vol Vi [C]) s4 s5 := w₅.calm (.inl O.PV) fun b hb => .inl (O.fV b hb)
 have kb5 : Keeps c.base s5.heap := fun b o e => w₅.keep b o (fun q => by rw [q, O.vb _ (.head _)] at e; cases e) (fun q => by rw [O.vb _ (.tail _ q)] at e; cases e) (F4.keep _ _ e)
 have F5 : Fm c sci E Vi c.base [] [C] [("thing", .val d)] s5 := w₅.fm F4 O.PV (fun a ha => .inl (O.fV a ha)) (Keeps.refl _) kb5 (fun a ha => by rw [mSz.mp ha]; exact O.Cb) O.cells.symm
 (refine x12 (Ent.sub (c := c) (sc := sci) (.nil (ρ1 := [("thing", .val d)])) E Vi c.base [] [C] s5 F5) ?_; intro X6 hX6 F6)
 have hX6' : X6 = [C] := by
  obtain ⟨_, fps, _, h2, _, _, _, h5⟩ := F6.sto
  rw [h2, h5.vals (fun p hp => nomatch hp), O.eL]; rfl
 subst hX6'
 obtain ⟨o, vs, nn, l1, l2, l3, l4, l5⟩ := J.lst
 have hDC : Dd ∉ [C] := fun h => O.DC (mSz.mp h)
 have hIC : it ∉ [C] := fun h => O.iC (mSz.mp h)
 have l1' := w₅.keep _ _ nD.1 nD.2 (g₄.keep _ _ hDC l1)
 have l5' := (l5.stp g₄).calm hcal fun _ q => q
 have hi5 : ItAt c (Vol Vi [C]) s5 it rest := (hi.stp hIC g₄).carry (fun o e => w₅.keep _ _ nI.1 nI.2 e) (fun a o na e => ⟨na, w₅.keep _ _ (fun q => na (.inl (q ▸ O.PV))) (fun q => na (.inl (O.fV a q))) e⟩) fun r => r.calm hcal fun _ q => q
 refine append_wp l1' l2 l3 l4 (fun h' o' n' a1 a2 a3 a4 a5 => ?_) ?_
 · have hcm : Calm (Vol Vi [C]) s5 { s5 with heap := h' } := ⟨Nat.le_refl _, fun b ob nb e _ => (a5.2 b fun q => nb (.inl (q ▸ O.DV))).trans e⟩
   refine k _ ⟨wq5.new (tk := s5.toks) O.Ds a5 (Nat.le_refl _) nD.1 l1' (fun vs q => by rw [l4] at q; cases q), F6.change O.DV O.Db a5 ⟨_, a1⟩ (fun ob w e hw => by rw [l1'] at e; cases e; rw [l4] at hw; cases hw), o', vs.push x, n', a1, a2, a3, a4, ?_⟩ ?_
   · have := (l5'.append (.cons rx .nil)).calm hcm fun _ q => q
     simpa using this
   · exact hi5.carry (fun o e => (a5.2 _ O.iD).trans e) (fun a o na e => ⟨na, (a5.2 a fun q => na (.inl (q ▸ O.DV))).trans e⟩) fun r => r.calm hcm fun _ q => q
 · have := l5.length; simp only [Array.length_toList] at this; omega
end
end
section
section
variable {c : Cx} {n : Nat} {sc : Scope} {ρ : Sto} {env : Env} {V0 : Addr -> Prop} {h0 : Heap} {X : List Addr} {s : Shared} {A : Around} {P : Addr}
inductive CWin (c : Cx) (sci : Scope) (E : Env) (Vi : Addr -> Prop) (C Dd it P : Addr) (l : List Env) (s : Shared) (r : D -> D) (ds : List D) (k : Nat) (s' : Shared) : Prop
 | mk (done rest : List D) (hds : ds = done ++ rest) (hk : k = rest.length) (J : CW c sci E Vi C Dd P l s (done.map r) s') (hi : ItAt c (Vol Vi [C]) s' it rest) : CWin c sci E Vi C Dd it P l s r ds k s'
theorem words_comp {elt tgt iter : Expr} {scope : Scope} {pos p spos : Pos} {y : String} {ds : List D} {r : D -> D} {rest : List Stmt} {Q : Flow -> Shared -> Prop} {EE : Value -> Shared -> Prop}
 (hn : c.hn) (hA : Room c n A) (hO : OwnT c A env sc env.cells) (F : Fm c sc env V0 h0 env.cells X ρ s) (hv : plainS ρ = true) (hf : env.frame = some env.locals) (hfr : A.frames = some [env]) (hPV : V0 P) (hPb : c.base.get? P = none) (hP : PSt P stQual lamPos s.heap) (hc : Capt sc scope ρ []) (he : Ev c n sc true ρ iter (.list ds)) (hz : ds.length <= 16777216)
 (item : ∀ d ∈ ds, TgtG false c (relab sc scope) tgt d [] [("thing", .val d)] /\ ∀ E Vi s4 X4, Fm c (relab sc scope) E Vi c.base [] X4 [("thing", .val d)] s4 -> Stk c A c.base [env] s4.heap -> Vol Vi X4 P -> (∀ a ∈ frs [env], Vol Vi X4 a) -> PSt P stQual lamPos s4.heap -> wpAny c.M A (eval elt E) (fun v s' => WQ P [env] s4 s' /\ Rep c (Vol Vi X4) s' (r d) v) NoE s4)
 (hsw : swapsWith (.ListComp elt [⟨tgt, iter, [], 0⟩] scope pos) (some (.Name (oS y) p)) spos.line env = pure true) (hk : CanStore sc y) (hs : ∀ (env : Env) x, foldedSetIterable iter env x = pure x) (hcl0 : ∀ env, closureFor scope env = pure []) (hnf : ∀ p ∈ scope.names, p.2 ≠ .free)
 (k : ∀ X' s', Mn s s' -> Fm c sc env V0 c.base env.cells X' (setS ρ y (.val (.list (ds.map r)))) s' -> PSt P stQual lamPos s'.heap -> wpAny c.M A (execs rest env) Q EE s') :
 wpAny c.M A (execs (.Assign [.Name (oS y) p] (.ListComp elt [⟨tgt, iter, [], 0⟩] scope pos) spos :: rest) env) Q EE s := by
 have hcl := hcl0 env
 have Ks := F.stk1 hf hfr
 have hfrm : ∀ a ∈ frs [env], a = env.locals := fun a ha => by
  rw [frs, List.filterMap_cons, hf] at ha
  exact mSz.mp ha
 have hLX : env.locals ∈ X := by obtain ⟨_, _, _, h2, _⟩ := F.sto; exact h2 ▸ .head _
 have hbL : c.base.get? env.locals = none := by
  cases e : c.base.get? env.locals with
  | none => rfl
  | some o => have := F.base _ _ e; rw [F.new _ hLX] at this; cases this
 refine wE ?_
 erw [exec_Assign_Name_used _ _ _ _ hsw]
 refine wB (wZ (wB ?_))
 show wpAny _ A (do let _ <- comprehension (.ListComp elt [⟨tgt, iter, [], 0⟩] scope pos) scope env _ (newList []) false (eval iter env) (some (PySem.assign (.Name (oS y) p) env))) _ _ s
 refine wB (wM (Q := fun _ s' => wpAny c.M A (execs rest env) Q EE s') (E := NoE) ?_ (fun _ s' hq => wP (wP hq)) fun _ _ e => e.elim)
 refine wpAny_comprehension_free (use := some (PySem.assign (.Name (oS y) p) env)) rfl (hs env) hcl hc.kind hc.names (wM (he.run A env V0 h0 env.cells X s hA F) (fun xv s₁ q₁ => ?_) fun _ _ q => q)
 refine wM (IterR.list A _ s₁ xv hA.zero ((F.st true).gr q₁.1) q₁.2) (fun itv s2 q₂ => ?_) fun _ _ q => q
 refine hideG fun G KG => ?_
 (refine x02 q₂ ?_; clear q₂; intro g₂ r9; refine x13 r9 ?_; clear r9; rintro it rfl hitn hi)
 have hV : VK true V0 X = Vol V0 X := by funext a; simp [VK]
 rw [hV] at hi
 have g12 := q₁.1.trans g₂
 have hits : s.heap.get? it = none := get_none_of q₁.1 hitn
 refine KG (wpAny_newObj_type (wpAny_newFunctionEnv hc.nocell (fun _ h => nomatch h) (fun h₁ hns₁ hsb1 => ?_) hc.kind))
 have hk0 : Keeps s2.heap (s2.heap.push { cls := .type "list", dict := none, data := .seq ([] : List Value).toArray }) := fun b o e => Heap.get?_push_of_some _ e
 have hDn : s2.heap.get? s2.heap.objs.size = none := get_size _
 have hCn : s2.heap.get? (s2.heap.push { cls := .type "list", dict := none, data := .seq ([] : List Value).toArray }).objs.size = none := by
  cases e : s2.heap.get? (s2.heap.push { cls := .type "list", dict := none, data := .seq ([] : List Value).toArray }).objs.size with
  | none => rfl
  | some o => have := hk0 _ _ e; rw [get_size] at this; cases this
 have hDC : s2.heap.objs.size ≠ (s2.heap.push { cls := .type "list", dict := none, data := .seq ([] : List Value).toArray }).objs.size := by rw [Heap.size_push]; exact Nat.ne_of_lt (Nat.lt_succ_self _)
 have hDh : h₁.get? s2.heap.objs.size = some { cls := .type "list", dict := none, data := .seq ([] : List Value).toArray } := (hsb1.2 _ hDC).trans (Heap.get?_push_of_some _ (Heap.get?_push_size _ rfl))
 have hk1 : Keeps s2.heap h₁ := fun b o e => (hsb1.2 b fun q => by rw [q, hCn] at e; cases e).trans (Heap.get?_push_of_some _ (hk0 b o e))
 generalize s2.heap.objs.size = Dd at hDn hDC hDh ⊢
 generalize (s2.heap.push { cls := .type "list", dict := none, data := .seq ([] : List Value).toArray }).objs.size = C at hCn hDC hns₁ ⊢
 have g23 : Gr s2 { s2 with heap := h₁, toks := s2.toks + ([] : List (Str × Value)).length } := ⟨hk1, Nat.le_add_right _ _, .rfl, rfl⟩
 show codeAny c.M A (.compStart (.ListComp elt [⟨tgt, iter, [], 0⟩] scope pos) 0 (.ref it) (.ref Dd) (compEnvC scope [] C env)) (compPost c.M A NoE (some (PySem.assign (.Name (oS y) p) env)) (fun _ s' => wpAny c.M A (execs rest env) Q EE s') (.ref Dd) C) { s2 with heap := h₁, toks := s2.toks + ([] : List (Str × Value)).length }
 have hDh' : ({ s2 with heap := h₁, toks := s2.toks + ([] : List (Str × Value)).length } : Shared).heap.get? Dd = some { cls := .type "list", dict := none, data := .seq ([] : List Value).toArray } := hDh
 have hns' : ({ s2 with heap := h₁, toks := s2.toks + ([] : List (Str × Value)).length } : Shared).heap.Ns C fun x => ([] : List (Str × Value)).reverse.lookup x := hns₁
 generalize ({ s2 with heap := h₁, toks := s2.toks + ([] : List (Str × Value)).length } : Shared) = s₃ at g23 hDh' hns' ⊢
 have hDs := get_none_of g12 hDn
 have hCs := get_none_of g12 hCn
 have hlv : ∀ a, Vol V0 X a -> ∃ o, s.heap.get? a = some o := fun a q => (F.st true).live a ⟨rfl, q⟩
 have hitalive : ∃ o, s2.heap.get? it = some o := let ⟨o, _, _, e, _⟩ := hi.fields; ⟨o, e⟩
 have hitD : it ≠ Dd := fun q => by obtain ⟨o, e⟩ := hitalive; rw [q, hDn] at e; cases e
 have hitC : it ≠ C := fun q => by obtain ⟨o, e⟩ := hitalive; rw [q, hCn] at e; cases e
 have hitV : ¬ (Vol V0 X it \/ it = Dd) := fun q => q.elim (fun q => by obtain ⟨o, e⟩ := hlv it q; rw [hits] at e; cases e) hitD
 have hbn : ∀ a, s.heap.get? a = none -> c.base.get? a = none := fun a h => by
  cases e : c.base.get? a with
  | none => rfl
  | some o => have := F.keep _ _ (F.base _ _ e); rw [h] at this; cases this
 have g13 := g12.trans g23
 have F₃ := capt_fm (cl := []) F g12 hc (fun p hp q => absurd q (hnf p hp)) (fun x a q => by cases q) g23 hDn hCn hDC ⟨_, hDh'⟩ hns'
 have O : CWok c (compEnvC scope [] C env) (fun a => Vol V0 X a \/ a = Dd) C Dd it P [env] s := ⟨rfl, rfl, hits, hDs, hCs, hDC, hitC, hitD, hitV, .inr rfl, .inl (.inl hPV), (fun b hb => .inl (.inr (hfrm b hb ▸ hLX))), (let ⟨ps, e⟩ := hP.tab; ⟨_, e⟩), (fun a ha => (mC.mp ha).elim (fun q => q ▸ hPb) fun h => by rw [hfrm a h]; exact hbL), hbn _ hits, hbn _ hDs, hbn _ hCs⟩
 have F3' : Fm c (relab sc scope) (compEnvC scope [] C env) (fun a => Vol V0 X a \/ a = Dd) c.base [] [C] [] s₃ := F₃.hb0 (Keeps.refl _) (fun b o e => g13.keep _ _ (F.keep _ _ (F.base _ _ e))) fun a ha => by rw [mSz.mp ha]; exact hbn _ hCs
 have J : CW c (relab sc scope) (compEnvC scope [] C env) (fun a => Vol V0 X a \/ a = Dd) C Dd P [env] s (([] : List D).map r) s₃ := ⟨(WQ.refl hP).gr g13, F3', _, _, 0, hDh', rfl, ⟨rfl, rfl⟩, rfl, .nil⟩
 have hi3 : ItAt c (Vol (fun a => Vol V0 X a \/ a = Dd) [C]) s₃ it ds := by
  have na : ∀ (a : Addr) (o : Obj), ¬ Vol V0 X a -> s2.heap.get? a = some o -> ¬ Vol (fun a => Vol V0 X a \/ a = Dd) [C] a /\ s₃.heap.get? a = some o := fun a o na e => ⟨fun q => (by
   rcases q with (q | q) | q
   · exact na q
   · rw [q, hDn] at e; cases e
   · rw [mSz.mp q, hCn] at e; cases e), g23.keep _ _ e⟩
  exact hi.carry (fun o e => g23.keep _ _ e) na fun r => r.mapA rfl fun a o n e _ => na a o n e
 have end' : ∀ s', CW c (relab sc scope) (compEnvC scope [] C env) (fun a => Vol V0 X a \/ a = Dd) C Dd P [env] s (ds.map r) s' -> compPost c.M A NoE (some (PySem.assign (.Name (oS y) p) env)) (fun _ s' => wpAny c.M A (execs rest env) Q EE s') (.ref Dd) C (.ok .next) s' := fun s' J => by
  obtain ⟨m, _, hm, h2, _⟩ := J.fm.sto
  have hEC : (compEnvC scope [] C env).locals = C := rfl
  rw [hEC] at hm
  have hCl : ∃ o, s'.heap.get? C = some o := by (refine x32 hm ?_; clear hm; intro o _ _ e _); exact ⟨o, e⟩
  have F' : Fm c sc env (fun a => V0 a \/ a ∈ [C]) c.base env.cells X ρ s' := F.noted3 (Pv := fun b => b = P) (fr := frs [env]) (fun b o h1 h2 e => J.wq.keep b o h1 h2 e) (fun b o h e => J.wq.up b o h e) J.wq.mn.tok (fun a ha => .inr (hfrm a ha)) (fun b q => q ▸ hPV) (fun b q => by obtain ⟨ps, e⟩ := J.wq.hP.tab; exact ⟨_, q ▸ e⟩) (Keeps.refl _) J.fm.keep (fun a ha => by
   cases e : c.base.get? a with
   | none => rfl
   | some o => have := F.base _ _ e; rw [F.new a ha] at this; cases this) rfl (fun a ha => by rw [mSz.mp ha]; exact hCs) fun a ha => by rw [mSz.mp ha]; exact hCl
  obtain ⟨o, vs, nn, l1, l2, l3, l4, l5⟩ := J.lst
  have rD : Rep c (Vol (fun a => V0 a \/ a ∈ [C]) X) s' (.list (ds.map r)) (.ref Dd) := by
   refine .list (fun q => ?_) l1 l2 l3 l4 (l5.weak fun a q => ?_)
   · rcases q with (q | q) | q
     · obtain ⟨o', e⟩ := hlv _ (.inl q); rw [hDs] at e; cases e
     · exact hDC (mSz.mp q)
     · obtain ⟨o', e⟩ := hlv _ (.inr q); rw [hDs] at e; cases e
   · rcases q with (q | q) | q
     · exact .inl (.inl (.inl q))
     · exact .inr q
     · exact .inl (.inl (.inr q))
  show wpAny c.M A (PySem.assign (.Name (oS y) p) env (.ref Dd)) _ NoE s'
  refine wpAny_assign_Name (wM (F'.store (.refl _) (fun q => hO.own _ q) hk (RepS.ofRep (V := fun a => V0 a \/ a ∈ [C]) (X := X) (rD.weak fun a q => q.2)) .nil fun _ ha => nomatch ha) (fun _ s'' q => ?_) fun _ _ q => q)
  (refine x12 q ?_; clear q; intro X' t F'')
  have hCX : C ∉ X := fun q => by obtain ⟨o, e⟩ := hlv C (.inr q); rw [hCs] at e; cases e
  have hm'' : s''.heap.Ns C m := hm.at fun o e => t.keep _ _ hCX e
  refine ⟨m, hm'', fun h' hs' => ?_⟩
  have hCV : ¬ V0 C := fun q => by obtain ⟨o, e⟩ := hlv C (.inl q); rw [hCs] at e; cases e
  have hP'' : PSt P stQual lamPos s''.heap := J.wq.hP.stp t (F.live0 P hPV).2 (F'.nofieldsP hv)
  (refine x33 hm'' ?_; clear hm''; intro oC es ep hoC hdC _)
  exact k X' _ ((J.wq.mn.trans t.mn).trans ⟨Nat.le_refl _, .rfl, rfl⟩) (F''.dropC hs' (hbn _ hCs) hCV ⟨oC, es, ep, hoC, hdC, by assumption⟩) (hP''.same hs' (fun q => hCV (q ▸ hPV)) hoC fun vs q => by rw [hdC] at q; cases q)
 have loop : codeAny c.M A (.compLoop (.ListComp elt [⟨tgt, iter, [], 0⟩] scope pos) 0 (.ref it) (.ref Dd) (compEnvC scope [] C env)) (compPost c.M A NoE (some (PySem.assign (.Name (oS y) p) env)) (fun _ s' => wpAny c.M A (execs rest env) Q EE s') (.ref Dd) C) s₃ := by
  refine code_comp (c := c) (A := A) (iter := iter) (scope := scope) (pos := pos) (CWin c (relab sc scope) (compEnvC scope [] C env) (fun a => Vol V0 X a \/ a = Dd) C Dd it P [env] s r ds) (fun k s' I => ?_) ds.length ⟨[], ds, rfl, rfl, J, hi3⟩
  refine hideG fun G K => ?_
  obtain ⟨done, rs, hds, hk', J, hi⟩ := I
  cases rs with
  | nil => exact K (wM (ItAt.stop (hA.handled hn) hi) (fun q s4 q' => by
   erw [q'.1]; exact end' s4 (by rw [hds, List.append_nil]; exact J.step O hi q'.2)) fun _ _ q => q)
  | cons d rs =>
   refine K (wM (ItAt.next hi) (fun q s4 q' => ?_) fun _ _ q => q)
   refine hideG fun G K => ?_
   (refine x14 q' ?_; clear q'; rintro v rfl rv hi4 t)
   have J4 := J.step O hi t
   obtain ⟨htg, hel⟩ := item d (hds ▸ mR _ (.head _))
   refine K (lotg hi4 ?_)
   refine wM (J4.turn (r := r d) (pp := fun s6 => ∃ m, m < k /\ CWin c (relab sc scope) (compEnvC scope [] C env) (fun a => Vol V0 X a \/ a = Dd) C Dd it P [env] s r ds m s6) O Ks hi4 rv hA.zero htg (by rw [List.length_map]; exact Nat.le_trans (by rw [hds, List.length_append]; exact Nat.le_add_right _ _) hz) (fun s5 X5 F5 K5 h1 h2 h3 => hel _ _ s5 X5 F5 K5 h1 h2 h3) fun s6 J6 hi6 => ⟨rs.length, hk' ▸ Nat.lt_succ_self _, done ++ [d], rs, by rw [hds, aA]; rfl, rfl, by erw [List.map_append]; exact J6, hi6⟩) (fun _ s5 q => ?_) fun _ _ q => q
   refine wP ?_
   erw [if_pos rfl]
   exact q
 exact codeAny_compStart_list loop (hi3.self loop)
end
end
section
section
variable {c : Cx} {sc : Scope} {ρ : Sto} {env : Env} {V0 : Addr -> Prop} {h0 : Heap} {Cs : List (Str × Addr)} {X fp : List Addr} {s : Shared} {x : String} {d : D} {sl : Slot}
theorem Fm.moveV (F : Fm c sc env (fun a => V0 a \/ a ∈ fp) h0 Cs X ρ s) (hx : ρ.lookup x = some (.val d)) (hr : ∀ v, Rep c (Vol (fun a => V0 a \/ a ∈ fp) X) s d v -> RepS c (Vol V0 (X ++ fp)) s sl v fp) (hn : fp.Nodup) (hv : ∀ a ∈ fp, ¬ V0 a) (hb : ∀ a ∈ fp, c.base.get? a = none) :
 ∃ X', (∀ a ∈ X', a ∈ X \/ a ∈ fp) /\ Fm c sc env V0 c.base Cs X' (setS ρ x sl) s := by
 obtain ⟨m, fps, h1, h2, h3, h4, h6, h5⟩ := F.sto
 (refine x44 (h5.take hx) ?_; intro v fp0 fps' rest l rx r hp)
 obtain ⟨rfl, rv⟩ := rx.inv
 have hsub : ∀ a ∈ fps', a ∈ fps := fun a ha => hp.subset (mR _ (mR _ ha))
 have hX' : ∀ a ∈ env.locals :: (Cs.map (·.2) ++ (fp ++ fps')), a ∈ X \/ a ∈ fp := fun a ha => by
  rw [h2]
  rcases mC.mp ha with h | h
  · exact .inl (h ▸ .head _)
  · rcases mA.mp h with h | h
    · exact .inl (.tail _ (mL _ h))
    · rcases mA.mp h with h | h
      · exact .inr h
      · exact .inl (.tail _ (mR _ (hsub a h)))
 have hfX : ∀ a ∈ fp, a ∉ X := fun a ha => (F.live0 a (.inr ha)).2
 have hbX : ∀ a ∈ X, c.base.get? a = none := fun a ha => by
  cases e : c.base.get? a with
  | none => rfl
  | some o => have := F.base _ _ e; rw [F.new _ ha] at this; cases this
 have hnd : (env.locals :: (Cs.map (·.2) ++ (fp ++ fps'))).Nodup := by
  have h3' : (env.locals :: (Cs.map (·.2) ++ fps)).Nodup := h2 ▸ h3
  have h7 : fps'.Nodup := ((List.nodup_append.mp ((hp.nodup_iff).mpr (List.nodup_append.mp (List.nodup_cons.mp h3').2).2.1)).2.1)
  have hfp : ∀ a ∈ fp, ∀ b, b ∈ env.locals :: (Cs.map (·.2) ++ fps) -> a ≠ b := fun a ha b hb q => hfX a ha (h2 ▸ q ▸ hb)
  have hc := List.nodup_cons.mp h3'
  have ha := List.nodup_append.mp hc.2
  refine List.nodup_cons.mpr ⟨fun q => ?_, List.nodup_append.mpr ⟨ha.1, List.nodup_append.mpr ⟨hn, h7, fun a h b h' => hfp a h b (.tail _ (mR _ (hsub b h')))⟩, fun a h b h' q => ?_⟩⟩
  · rcases mA.mp q with q | q
    · exact hc.1 (mL _ q)
    · rcases mA.mp q with q | q
      · exact hfp _ q _ (.head _) rfl
      · exact hc.1 (mR _ (hsub _ q))
  · rcases mA.mp h' with h' | h'
    · exact hfp b h' a (.tail _ (mL _ h)) q.symm
    · exact ha.2.2 a h b (hsub b h') q
 refine ⟨_, hX', F.good, F.scope, F.kind, F.globals, F.builtins, Keeps.refl _, fun b o e => F.keep _ _ (F.base _ _ e), F.tok, fun a q => ⟨(F.live0 a (.inl q)).1, fun h => ?_⟩, F.ccells, fun a ha => ?_, F.cells, F.cinj, m, fp ++ fps', h1, rfl, hnd, fun a ha => ?_, h6, ?_⟩
 · exact (hX' a h).elim (F.live0 a (.inl q)).2 fun h => hv a h q
 · exact (hX' a ha).elim (hbX a) (hb a)
 · exact (hX' a ha).elim (h4 a) fun h => (F.live0 a (.inr h)).1
 · have hw : ∀ a, Vol V0 (env.locals :: (Cs.map (·.2) ++ (fp ++ fps'))) a -> Vol (fun a => V0 a \/ a ∈ fp) X a := fun a q => by
    rcases q with q | q
    · exact .inl (.inl q)
    · exact (hX' a q).elim .inr fun h => .inl (.inr h)
   refine .cons l ((hr v rv).weak fun a q => ?_) (r.weak hw)
   rcases q with q | q
   · exact .inl q
   · exact .inr (mA.mpr (hX' a q))
end
end
section
section
variable {c : Cx} {n : Nat} {sc : Scope} {ρ : Sto} {env : Env} {V0 : Addr -> Prop} {h0 : Heap} {Cs : List (Str × Addr)} {X : List Addr} {s : Shared} {A : Around}
theorem two_lists {x y : String} {q1 q2 tp p1 p2 p3 pos : Pos} {k1 k2 : Nat} {rest : List Stmt} {Q : Flow -> Shared -> Prop} {E : Value -> Shared -> Prop} (hn : c.hn) (hA : Room c n A) (F : Fm c sc env V0 h0 Cs X ρ s) (hx : sc.names.lookup (oS x) = some .local) (hy : sc.names.lookup (oS y) = some .local)
 (hw : ∀ env : Env, env.scope = sc -> swappedStores [.Tuple [.Name (oS x) q1, .Name (oS y) q2] k1 tp] (.Tuple [.List [] p1, .List [] p2] k2 p3) env = pure (some [oS x, oS y]))
 (k : ∀ a1 a2 X' s', a1 ≠ a2 -> s.heap.get? a1 = none -> s.heap.get? a2 = none -> s'.heap.get? a1 = some (listObj #[] 0) -> s'.heap.get? a2 = some (listObj #[] 0) -> Stp X s X' s' -> Fm c sc env (fun b => V0 b \/ b ∈ [a1, a2]) h0 Cs X' (setS (setS ρ y (.val (.val (.ref a2)))) x (.val (.val (.ref a1)))) s' -> wpAny c.M A (execs rest env) Q E s') :
 wpAny c.M A (execs (.Assign [.Tuple [.Name (oS x) q1, .Name (oS y) q2] k1 tp] (.Tuple [.List [] p1, .List [] p2] k2 p3) pos :: rest) env) Q E s := by
 refine wE (Assign_Tuple_swapped (wpAny_Tuple (wI (wpAny_List (wN ⟨by rw [sizeLine_eq]; simp, ?_⟩)) (starEach_cons rfl))) rfl (hw env F.scope))
 refine wI (wpAny_List (wN ⟨by rw [sizeLine_eq]; simp, wN ⟨by erw [sizeLine_eq]; simp, ?_⟩⟩)) (starEach_cons rfl)
 have g1 : Gr s { s with heap := s.heap.push (listObj #[] 0) } := .push _
 have g2 : Gr s { s with heap := (s.heap.push (listObj #[] 0)).push (listObj #[] 0) } := g1.trans (Gr.push (s := { s with heap := s.heap.push (listObj #[] 0) }) _)
 have e1 : ((s.heap.push (listObj #[] 0)).push (listObj #[] 0)).get? s.heap.objs.size = some (listObj #[] 0) := Heap.get?_push_of_some _ (Heap.get?_push_size _ rfl)
 have e2 : ((s.heap.push (listObj #[] 0)).push (listObj #[] 0)).get? (s.heap.push (listObj #[] 0)).objs.size = some (listObj #[] 0) := Heap.get?_push_size _ rfl
 have n1 : s.heap.get? s.heap.objs.size = none := get_size _
 have n2 : s.heap.get? (s.heap.push (listObj #[] 0)).objs.size = none := gr_none g1 (get_size _)
 have hne : s.heap.objs.size ≠ (s.heap.push (listObj #[] 0)).objs.size := by rw [Heap.size_push]; exact Nat.ne_of_lt (Nat.lt_succ_self _)
 show wpAny c.M A (unpackItems _ 2 none) _ E { s with heap := ((s.heap.push (listObj #[] 0)).push (listObj #[] 0)).push { cls := .type "tuple", data := .seq [Value.ref s.heap.objs.size, .ref (s.heap.push (listObj #[] 0)).objs.size].toArray } }
 generalize (s.heap.push (listObj #[] 0)).objs.size = a2 at e2 n2 hne ⊢
 generalize s.heap.objs.size = a1 at e1 n1 hne ⊢
 generalize (s.heap.push (listObj #[] 0)).push (listObj #[] 0) = h2 at g2 e1 e2 ⊢
 have g3 : Gr s { s with heap := h2.push { cls := .type "tuple", data := .seq [Value.ref a1, .ref a2].toArray } } := g2.trans (Gr.push (s := { s with heap := h2 }) _)
 refine unpackItems_tuple (items := [Value.ref a1, .ref a2].toArray) (hA.handled hn) ⟨_, Heap.get?_push_size _ rfl, rfl, _, rfl⟩ fun h' he => ?_
 have gk : Gr { s with heap := h2 } { s with heap := h' } := (Gr.push (s := { s with heap := h2 }) { cls := .type "tuple", data := .seq [Value.ref a1, .ref a2].toArray }).trans (Gr.ext he)
 have g4 : Gr s { s with heap := h' } := g2.trans gk
 have f1 := gk.keep _ _ e1
 have f2 := gk.keep _ _ e2
 have F' := F.addL [a1, a2] (fun a ha => by
  rcases mC.mp ha with h | h
  · rw [h]; exact n1
  · rw [mSz.mp h]; exact n2) g4 fun a ha => (by
  rcases mC.mp ha with h | h
  · rw [h]; exact ⟨_, f1⟩
  · rw [mSz.mp h]; exact ⟨_, f2⟩)
 have hst := storeAll (c := c) (sc := sc) (A := A) (ps := [(y, .val (.ref a2)), (x, .val (.ref a1))]) (ρ := ρ) (fun p hp => by
  rcases mC.mp hp with h | h
  · rw [h]; exact hy
  · rw [mSz.mp h]; exact hx) F' (.cons (.val _) (.cons (.val _) .nil))
 refine wM hst (fun _ s2 q => ?_) fun _ _ q => q.elim
 (refine x12 q ?_; clear q; intro X' t F₂)
 have nX : ∀ a ∈ [a1, a2], a ∉ X := fun a ha => (F'.live0 a (.inr ha)).2
 exact k a1 a2 X' s2 hne n1 n2 (t.keep _ _ (nX _ (.head _)) f1) (t.keep _ _ (nX _ (.tail _ (.head _))) f2) ((Stp.of_gr g4).trans t) F₂
end
end
section
structure LS (c : Cx) (sc : Scope) (env : Env) (P : Addr) (X : List Addr) (ρ : Sto) (s : Shared) : Prop where
 fm : Fm c sc env (fun a => a = P) c.base env.cells X ρ s
 ps : PSt P stQual lamPos s.heap
structure StP (P : Addr) (X : List Addr) (s : Shared) (X' : List Addr) (s' : Shared) : Prop where
 keep : ∀ b o, b ∉ X -> b ≠ P -> s.heap.get? b = some o -> s'.heap.get? b = some o
 new : ∀ b ∈ X', b ∈ X \/ s.heap.get? b = none
 live : ∀ b o, s.heap.get? b = some o -> ∃ o', s'.heap.get? b = some o'
 mn : Mn s s'
theorem get_none_live {s s' : Shared} (h : ∀ b o, s.heap.get? b = some o -> ∃ o', s'.heap.get? b = some o') {b : Addr} (e : s'.heap.get? b = none) : s.heap.get? b = none := by
 cases e' : s.heap.get? b with
 | none => rfl
 | some o => obtain ⟨o', q⟩ := h b o e'; rw [e] at q; cases q
section
variable {c : Cx} {n : Nat} {sc : Scope} {ρ ρ' : Sto} {env : Env} {X X' X'' : List Addr} {s s' s'' s₀ : Shared} {A : Around} {P : Addr}
theorem Stp.toP (t : Stp X s X' s') : StP P X s X' s' := ⟨fun b o h _ e => t.keep b o h e, t.new, fun b o e => t.alive e, t.mn⟩
theorem StP.trans (a : StP P X s X' s') (b : StP P X' s' X'' s'') : StP P X s X'' s'' :=
 ⟨fun x o hx hP e => b.keep x o (fun q => (a.new x q).elim hx fun q => by rw [q] at e; cases e) hP (a.keep x o hx hP e),
  fun x hx => (b.new x hx).elim (a.new x) fun q => .inr (get_none_live a.live q),
  fun x o e => let ⟨o', e'⟩ := a.live x o e; b.live x o' e', a.mn.trans b.mn⟩
theorem StP.sub' {Y : List Addr} (a : StP P X s X' s') (h : ∀ b ∈ Y, b ∈ X') : StP P X s Y s' := ⟨a.keep, fun b hb => a.new b (h b hb), a.live, a.mn⟩
theorem StP.it {it : Addr} (a : StP P X s X' s') (hn : s.heap.get? it = none) (t : ItStep it s' s'') (hl : ∃ o, s''.heap.get? it = some o) : StP P X s X' s'' :=
 ⟨fun b o h hP e => t.keep b o (fun q => by rw [q, hn] at e; cases e) (a.keep b o h hP e), a.new, fun b o e => by
  obtain ⟨o', e'⟩ := a.live b o e
  exact ⟨o', t.keep b o' (fun q => by rw [q, hn] at e; cases e) e'⟩, a.mn.trans ⟨t.tok, t.gens, t.os⟩⟩
theorem LS.PX (L : LS c sc env P X ρ s) : P ∉ X := (L.fm.live0 P rfl).2
theorem LS.go (L : LS c sc env P X ρ s) (hv : plainS ρ = true) (t : Stp X s X' s') (F' : Fm c sc env (fun a => a = P) c.base env.cells X' ρ' s') : LS c sc env P X' ρ' s' := ⟨F', L.ps.stp t L.PX (L.fm.nofieldsP hv)⟩
theorem LS.gr (L : LS c sc env P X ρ s) (g : Gr s s') : LS c sc env P X ρ s' := ⟨L.fm.gr g, L.ps.keeps g.keep⟩
theorem LS.ent (L : LS c sc env P X ρ s) (h : SubS ρ' ρ) : ∃ X', (∀ a ∈ X', a ∈ X) /\ LS c sc env P X' ρ' s :=
 let ⟨X', h1, F'⟩ := Ent.sub h env _ _ _ X s L.fm; ⟨X', h1, F', L.ps⟩
theorem LS.tr {ss : List Stmt} {G : AF -> Sto -> Prop} {Q : Flow -> Shared -> Prop} (L : LS c sc env P X ρ s) (hv : plainS ρ = true) (hA : Room c n A) (hO : OwnT c A env sc env.cells) (h : Tr c n sc ρ ss G)
 (k : ∀ f af X' ρ' s', FlowR c (Vol (fun a => a = P) X') s' f af -> G af ρ' -> StP P X s X' s' -> LS c sc env P X' ρ' s' -> Q f s') : wpAny c.M A (execs ss env) Q NoE s :=
 wM (h.run A env _ _ env.cells X s hA hO L.fm) (fun f s' q => by
  obtain ⟨X', ρ', af, t, F', r, p⟩ := q
  exact k f af X' ρ' s' r p t.toP (L.go hv t F')) fun _ _ q => q.elim
theorem LS.sx {st : Stmt} {rest : List Stmt} {G : AF -> Sto -> Prop} {Q : Flow -> Shared -> Prop} {E : Value -> Shared -> Prop} (L : LS c sc env P X ρ s) (hv : plainS ρ = true) (hA : Room c n A) (hO : OwnT c A env sc env.cells) (h : Sx c n sc ρ st G) (hp : ∀ af ρ', G af ρ' -> af = .next)
 (k : ∀ X' ρ' s', G .next ρ' -> StP P X s X' s' -> LS c sc env P X' ρ' s' -> wpAny c.M A (execs rest env) Q E s') : wpAny c.M A (execs (st :: rest) env) Q E s :=
 wE (wM (h.run A env _ _ env.cells X s hA hO L.fm) (fun f s' q => by
  obtain ⟨X', ρ', af, t, F', r, p⟩ := q
  have e := hp _ _ p
  subst e
  cases r
  exact k X' ρ' s' p t.toP (L.go hv t F')) fun _ _ q => q.elim)
theorem LS.sn {st : Stmt} {rest : List Stmt} {ρ2 : Sto} {Q : Flow -> Shared -> Prop} {E : Value -> Shared -> Prop} (L : LS c sc env P X ρ s) (hv : plainS ρ = true) (hA : Room c n A) (hO : OwnT c A env sc env.cells) (h : Sn c n sc ρ st ρ2)
 (k : ∀ X' s', StP P X s X' s' -> LS c sc env P X' ρ2 s' -> wpAny c.M A (execs rest env) Q E s') : wpAny c.M A (execs (st :: rest) env) Q E s :=
 L.sx hv hA hO h (fun _ _ q => q.1) fun X' ρ' s' q t L' => k X' s' t (q.2 ▸ L')
theorem LS.it {it : Addr} {V : Addr -> Prop} {ds : List D} (L : LS c sc env P X ρ s) (hi : ItAt c V s it ds) (hX : it ∉ X) (hn : c.base.get? it = none) (hP : it ≠ P) (t : ItStep it s s') : LS c sc env P X ρ s' := ⟨L.fm.it hi hX hn hP t, L.ps.itS hi t⟩
theorem ItAt.stP {it : Addr} {ds : List D} (h : ItAt c (Vol (fun a => a = P) X) s it ds) (hX : it ∉ X) (hP : it ≠ P) (t : StP P X s X' s') : ItAt c (Vol (fun a => a = P) X') s' it ds := by
 have na : ∀ (a : Addr) (o : Obj), ¬ Vol (fun a => a = P) X a -> s.heap.get? a = some o -> ¬ Vol (fun a => a = P) X' a /\ s'.heap.get? a = some o := fun a o na e => ⟨fun q => (by
  rcases q with q | q
  · exact na (.inl q)
  · rcases t.new a q with q | q
    · exact na (.inr q)
    · rw [q] at e; cases e), t.keep a o (fun q => na (.inr q)) (fun q => na (.inl q)) e⟩
 exact h.carry (fun o e => t.keep it o hX hP e) na fun r => r.mapA rfl fun a o n e _ => na a o n e
inductive LFor (c : Cx) (sc : Scope) (env : Env) (P : Addr) (X : List Addr) (s : Shared) (it : Addr) (σ : List D -> Sto) (ds : List D) (k : Nat) (s' : Shared) : Prop
 | mk (done rest : List D) (X' : List Addr) (hds : ds = done ++ rest) (hk : k = rest.length) (t : StP P X s X' s') (L : LS c sc env P X' (σ done) s') (hi : ItAt c (Vol (fun a => a = P) X') s' it rest) (hX : it ∉ X') : LFor c sc env P X s it σ ds k s'
theorem LS.for {tgt e : Expr} {body rest : List Stmt} {pos : Pos} {d₀ : D} {ds : List D} {Q : Flow -> Shared -> Prop} {E : Value -> Shared -> Prop} (σ : List D -> Sto) (hn : c.hn) (hA : Room c n A) (hO : OwnT c A env sc env.cells) (L : LS c sc env P X ρ s) (he : Ev c n sc true ρ e d₀) (hit : IterR c d₀ ds) (hI : SubS (σ []) ρ)
 (turn : ∀ done d rest, ds = done ++ d :: rest -> plainS (σ done) = true /\ ∃ ρ1, TgtR c sc tgt d (σ done) ρ1 /\ ∀ X3 s₃, LS c sc env P X3 ρ1 s₃ -> wpAny c.M A (execs body env) (fun f s4 => f = .next /\ ∃ X4, StP P X3 s₃ X4 s4 /\ LS c sc env P X4 (σ (done ++ [d])) s4) NoE s₃)
 (k : ∀ X' s', StP P X s X' s' -> LS c sc env P X' (σ ds) s' -> wpAny c.M A (execs rest env) Q E s')
 (hs : ∀ (env : Env) x, foldedSetIterable e env x = pure x := by intro _ _; rfl) : wpAny c.M A (execs (.For tgt e body [] pos :: rest) env) Q E s := by
 refine wE (wM (Q := fun f s' => f = .next /\ ∃ X', StP P X s X' s' /\ LS c sc env P X' (σ ds) s') (E := NoE) ?_ (fun f s' q => ?_) fun _ _ q => q.elim)
 rotate_left
 · obtain ⟨rfl, X', t, L'⟩ := q
   exact k X' s' t L'
 refine wpAny_For (wM (he.run A env _ _ env.cells X s hA L.fm) (fun v₀ s₀ q₀ => ?_) fun _ _ q => q) (hs env)
 refine wM (hit A _ s₀ v₀ hA.zero ((L.fm.st true).gr q₀.1) q₀.2) (fun itv s₁ q₁ => ?_) fun _ _ q => q
 refine hideG fun G KG => ?_
 (refine x02 q₁ ?_; clear q₁; intro g₁ r9; refine x13 r9 ?_; clear r9; rintro it rfl hnew hi)
 have L₀ := L.gr q₀.1
 have hnX : it ∉ X := fun ha => by
  obtain ⟨_, _, _, _, _, h4, _, _⟩ := L₀.fm.sto
  obtain ⟨o, e⟩ := h4 it ha
  rw [hnew] at e; cases e
 have hnb : c.base.get? it = none := by
  cases e : c.base.get? it with
  | none => rfl
  | some o => have := L₀.fm.keep _ _ e; rw [hnew] at this; cases this
 have hnP : it ≠ P := fun q => by
  obtain ⟨⟨o, e⟩, _⟩ := L₀.fm.live0 it q
  rw [hnew] at e; cases e
 have hns : s.heap.get? it = none := by
  cases e : s.heap.get? it with
  | none => rfl
  | some o => have := q₀.1.keep _ _ e; rw [hnew] at this; cases this
 have gg := q₀.1.trans g₁
 (refine x12 ((L.gr gg).ent hI) ?_; intro X₀ hX₀ L1)
 refine KG (codeAny_mono (R := fun r s' => match r with | .ok f => f = .next /\ ∃ X', StP P X s X' s' /\ LS c sc env P X' (σ ds) s' | .error _ => False) ?_ (fun r s' q => by cases r with | ok f => exact q | error e => exact q.elim))
 refine code_for (LFor c sc env P X s it σ ds) ?_ ds.length ⟨[], ds, X₀, rfl, rfl, (Stp.of_gr gg).toP.sub' hX₀, L1, ?_, fun q => hnX (hX₀ _ q)⟩
 · intro k s' J
   refine hideG fun G KG => ?_
   obtain ⟨done, rest, X', hds, hk, hst, L', hi', hX'⟩ := J
   have alive : ∀ {s ds} {V}, ItAt c V s it ds -> ∃ o, s.heap.get? it = some o := fun h => let ⟨o, _, _, e, _⟩ := h.fields; ⟨o, e⟩
   cases rest with
   | nil =>
    refine KG (wM (ItAt.stop (hA.handled hn) hi') (fun r s2 q => ?_) fun _ _ q => q)
    erw [q.1]
    rw [List.append_nil] at hds
    subst hds
    refine wpAny_execs_nil ⟨rfl, X', ⟨fun b o h hP e => q.2.keep b o (fun q => by rw [q, hns] at e; cases e) (hst.keep b o h hP e), hst.new, fun b o e => ?_, hst.mn.trans ⟨q.2.tok, q.2.gens, q.2.os⟩⟩, L'.it hi' hX' hnb hnP q.2⟩
    obtain ⟨o', e'⟩ := hst.live b o e
    exact ⟨o', q.2.keep b o' (fun q => by rw [q, hns] at e; cases e) e'⟩
   | cons d rest =>
    refine KG (wM (ItAt.next hi') (fun r s2 q => ?_) fun _ _ q => q)
    refine hideG fun G KG => ?_
    (refine x14 q ?_; clear q; rintro v rfl rv hi₂ t)
    have L2 := L'.it hi' hX' hnb hnP t
    obtain ⟨hpl, ρ1, htg, hbody⟩ := turn done d rest hds
    refine KG (lotg hi₂ (wM (htg.run A env _ _ env.cells X' s2 v hA.zero (fun _ => hO.own) L2.fm rv) (fun _ s₃ q => ?_) fun _ _ q => q))
    refine hideG fun G KG => ?_
    (refine x12 q ?_; clear q; intro X3 g₃ F₃)
    have hX3 : it ∉ X3 := fun q => (g₃.new it q).elim hX' fun q => by obtain ⟨o, e⟩ := alive hi₂; rw [q] at e; cases e
    have hi3 := hi₂.stP hX' hnP g₃.toP
    refine KG (wM (hbody X3 s₃ (L2.go hpl g₃ F₃)) (fun f s4 q => ?_) fun _ _ q => q)
    refine hideG fun G KG => ?_
    obtain ⟨rfl, X4, t4, L4⟩ := q
    have hX4 : it ∉ X4 := fun q => (t4.new it q).elim hX3 fun q => by obtain ⟨o, e⟩ := alive hi3; rw [q] at e; cases e
    exact KG ⟨rest.length, hk ▸ Nat.lt_succ_self _, done ++ [d], rest, X4, by rw [hds, aA]; rfl, rfl, ((hst.it hns t (alive hi₂)).trans g₃.toP).trans t4, L4, hi3.stP hX3 hnP t4, hX4⟩
 · have hV : VK true (fun a => a = P) X = Vol (fun a => a = P) X := by funext a; simp [VK]
   rw [hV] at hi
   exact hi.carry (fun o e => e) (fun l o nl e => ⟨fun q => nl (q.imp id (hX₀ l)), e⟩) fun r => r.weak fun a q => q.imp id (hX₀ a)
end
end
section
section
variable {c : Cx} {n : Nat} {sc : Scope} {ρ ρ' : Sto} {env : Env} {X X' X'' : List Addr} {s s' s'' s₀ : Shared} {A : Around} {P na : Addr} {kvs : List (Str × Value)} {ep : Nat} {K : Frag} {d : D} {mm : List Nat} {who : Nat} {b : Bool}
theorem LS.told {x : String} {a : Addr} {sl : List Slot} {e1 e2 : Expr} {p p0 ap pos cpos epos : Pos} {rest : List Stmt} {Q : Flow -> Shared -> Prop} {E : Value -> Shared -> Prop}
 (Y : W9 c K P na kvs ep) (hB : Bad c (n + 3) d mm) (hw : who <= 8) (htr : ∀ B, TruR (c.at B) d b) (gw : c.mg (oS "_law_words") = some (.ref 215)) (hG : sc.names.lookup (oS "_law_words") = some .globalImplicit) (hPb : c.base.get? P = none)
 (hsc : c.lsc sc) (hA : Room c (n + 6) A) (hO : OwnT c A env sc env.cells) (L : LS c sc env P X ρ s) (hv : plainS ρ = true) (hx : ρ.lookup x = some (.ownO (some a) sl)) (hz : sl.length <= 16777216)
 (h1 : Ev c (n + 6) sc true ρ e1 d) (h2 : Ev c (n + 6) sc true ρ e2 (.int who)) (hp1 : plainE e1 = true) (hp2 : plainE e2 = true) (hline : (ap.endLine == pos.line) = true) (hxd : x ≠ "__debug__")
 (hbase : ∀ env : Env, attributeBase (.Name (oS x) p) (oS "append") env (eval (.Name (oS x) p) env) = eval (.Name (oS x) p) env)
 (hs : ∀ env : Env, swapsWith (.Call (.Attribute (.Name (oS x) p) (oS "append") ap) [.Call (.Name (oS "_law_words") p0) [e1, e2] [] cpos] [] pos) none epos.line env = pure false)
 (k : ∀ X' s', StP P X s X' s' -> LS c sc env P X' (setS ρ x (.ownO (some a) (sl ++ [.val (.tuple [sd mm, .list (outD who)])]))) s' -> wpAny c.M A (execs rest env) Q E s') :
 wpAny c.M A (execs (.Expr (.Call (.Attribute (.Name (oS x) p) (oS "append") ap) [.Call (.Name (oS "_law_words") p0) [e1, e2] [] cpos] [] pos) epos :: rest) env) Q E s := by
 obtain ⟨htop, hf⟩ := hO.top hsc
 have hn := Y.SS.here.hn
 have F := L.fm
 have hfrm : ∀ a ∈ frs [env], a = env.locals := fun a ha => by
  rw [frs, List.filterMap_cons, hf] at ha
  exact mSz.mp ha
 have hLX : env.locals ∈ X := by obtain ⟨_, _, _, h2, _⟩ := F.sto; exact h2 ▸ .head _
 have hbL : c.base.get? env.locals = none := F.new _ hLX
 refine hideG fun G KG => ?_
 (refine x32 (F.opnO hx) ?_; intro a' fpi fps' O hq)
 have ea := hq a rfl
 subst ea
 have hi : interactive env = false := by
  unfold interactive
  erw [F.scope, F.kind]; rfl
 refine KG (wE (wpAny_Expr ?_ hi (hs env)))
 refine wpAny_Call_method (T := "list") (id := "list.append") (hbase env) ?_ hline PySem.F.plainAttrs_list PySem.F.slot_list_append PySem.F.type_list_append ?_
 · rw [starEach_cons rfl]; rfl
 refine O.load F hxd ?_
 refine hideG fun G KG => ?_
 (refine x22 O.lst ?_; intro vs nn h4 h5)
 refine KG ⟨⟨_, h4, rfl⟩, fun b hb => by cases hb; exact ⟨_, h4, rfl⟩, (Callee.builtin (c := c) "list.append").wp (first := [.ref a]) rfl ?_⟩
 refine wI (wM (words_call Y hB hw htr gw Y.wd.callee hG h1 h2 hp1 hp2 hA F (F.stk1 hf htop) (.inl rfl) (fun b hb => .inr (hfrm b hb ▸ hLX)) (fun b hb => (mC.mp hb).elim (fun q => q ▸ hPb) fun q => by rw [hfrm b q]; exact hbL) L.ps) (fun v s₁ q₁ => ?_) fun _ _ q => q.elim) (starEach_cons rfl)
 refine hideG fun G KG => ?_
 obtain ⟨wq, rv⟩ := q₁
 have hk1 : Keeps c.base s₁.heap := wq.kb F.keep hPb fun b hb => by rw [hfrm b hb]; exact hbL
 have F₁ : Fm c sc env (fun a => a = P) c.base env.cells X ρ s₁ := wq.fm F rfl (fun b hb => .inr (hfrm b hb)) (Keeps.refl _) hk1 F.new rfl
 (refine x32 (F₁.opnO hx) ?_; intro a' fpi1 fps1 O1 hq1)
 have ea := hq1 a rfl
 subst ea
 (refine x22 O1.lst ?_; intro vs₁ nn1 h41 h51)
 have hl := h51.length
 refine KG (wN ⟨hk1, append_wp h41 rfl ⟨rfl, rfl⟩ rfl (fun h' o' n' e1 e2 e3 e4 e5 => ?_) (by simp at hl; omega)⟩)
 have haf : a ∉ fpi1 /\ fpi1.Nodup := List.nodup_cons.mp O1.nd2
 have hcm : Calm (Vol (fun a => a = P) X) s₁ { s₁ with heap := h' } := calm_at (tk := s₁.toks) e5 (.inr O1.aX) (Nat.le_refl _)
 have hv1 : ∀ y, Vol (fun a => a = P) (X ++ fpi1) y -> Vol (fun a => a = P) X y := fun y e => e.imp id fun e => (mA.mp e).elim id fun e => O1.sub y (.tail _ (mR _ (mL _ (.tail _ e))))
 obtain ⟨t, F'⟩ := O1.closeG F₁ hq1 (.refl s₁) (sl' := sl ++ [.val (.tuple [sd mm, .list (outD who)])]) (vs' := vs₁.push v) (n' := n') (fpi' := fpi1) (tk := s₁.toks) (h' := h') (.head _) ⟨_, _, _, h41, rfl⟩ ⟨_, e1⟩ e5 (Nat.le_refl _) (by erw [<- obj_eq e2 e3 e4]; exact e1)
  (fun y hy => .inl hy) haf.2 (by
   erw [Array.toList_push]
   have := RepSL.snocS (.val rv) h51
   rw [List.append_nil] at this
   exact this.calm hcm hv1 fun b hb o e => (e5.2 b fun q => haf.1 (q ▸ hb)).trans e)
 refine k _ _ ⟨fun b o hb hP e => t.keep b o hb (wq.keep b o hP (fun q => hb (hfrm b q ▸ hLX)) e), fun b hb => (t.new b hb).imp id fun q => get_none_live (fun _ _ => wq.alive) q, fun b o e => let ⟨o', e'⟩ := wq.alive e; t.alive e', wq.mn.trans t.mn⟩ ⟨F', wq.hP.stp t (F₁.live0 P rfl).2 (F₁.nofieldsP hv)⟩
end
end
section
section
variable {c : Cx} {n : Nat} {sc : Scope} {ρ : Sto}
theorem swaps_local {elt : Expr} {gs : List Comprehension} {scope : Scope} {cp p : Pos} {y : Str} {line : Nat} (h : sc.names.lookup y = some .local) (hf : sc.kind = .function) (hl : (p.line == cp.line) = true)
 (hn : (scope.names.any fun (n, k) => n == y && (k == .local || k == .cell)) = false) (env : Env) (he : env.scope = sc) :
 swapsWith (.ListComp elt gs scope cp) (some (.Name y p)) line env = pure true := by
 have hk : (env.kindOf y == some .local) = true := by
  show (env.scope.names.lookup y == some .local) = true
  erw [he, h]; rfl
 have hb : (env.blockKind == .function) = true := by
  show ((if env.scope.kind.isAnnotationScope then ScopeKind.function else env.scope.kind) == .function) = true
  rw [he, hf]; rfl
 show (pure _ : Sem Bool) = pure true
 have hl' : (p.line == (Expr.ListComp elt gs scope cp).pos.line) = true := hl
 simp only [hk, hb, hn, hl']
 rfl
theorem TstI.nil {c n sc ρ} : TstI c n sc ρ [] true := .mk fun A env V0 h0 Cs X s _ _ => wpAny_tests_nil ⟨.refl s, rfl⟩
theorem filterMap_some {α β : Type} (r : α -> β) : ∀ l : List α, l.filterMap (fun x => some (r x)) = l.map r
 | [] => rfl
 | x :: l => by rw [List.filterMap_cons, List.map_cons, filterMap_some r l]
theorem Sx.compM {elt tgt iter : Expr} {scope : Scope} {pos spos p : Pos} {y : String} {d₀ : D} {α : Type} {g : α -> D} {ds : List α} (r : α -> D) (he : Ev c n sc true ρ iter d₀) (hit : IterR c d₀ (ds.map g)) (hc : Capt sc scope ρ []) (hz : ds.length <= 16777216)
 (item : ∀ x ∈ ds, ∃ ρ1, TgtG false c (relab sc scope) tgt (g x) [] ρ1 /\ Ev c n (relab sc scope) true ρ1 elt (r x)) (hk : sc.names.lookup (oS y) = some .local) (hf : sc.kind = .function) (hl : (p.line == pos.line) = true)
 (hn : (scope.names.any fun (n, k) => n == oS y && (k == .local || k == .cell)) = false) (hs : ∀ (env : Env) x, foldedSetIterable iter env x = pure x := by intro _ _; rfl) (hq : c.hn := by assumption) :
 Sn c n sc ρ (.Assign [.Name (oS y) p] (.ListComp elt [⟨tgt, iter, [], 0⟩] scope pos) spos) (setS ρ y (.val (.list (ds.map r)))) := .mk fun A env V0 h0 Cs X s hA hO F => by
 erw [exec_Assign_Name_used _ _ _ _ (swaps_local hk hf hl hn env F.scope)]
 refine wB (wZ (wB ?_))
 show wpAny _ A (do let _ <- comprehension (.ListComp elt [⟨tgt, iter, [], 0⟩] scope pos) scope env _ (newList []) false (eval iter env) (some (PySem.assign (.Name (oS y) p) env))) _ _ s
 refine wB (wM (Q := fun _ s' => SPost c sc env V0 h0 Cs X s (fun af ρ' => af = .next /\ ρ' = setS ρ y (.val (.list (ds.map r)))) .next s') (E := NoE) ?_ (fun _ s' hq => wP (wP hq)) fun _ _ e => e)
 refine comp_core (f := fun x => some (r x)) (ρi := []) hA F he hit hc hz (fun x hx => ?_) hs fun Dd C E s' hD hC hDC J => ?_
 · (refine x12 (item x hx) ?_; intro ρ1 h1 h2)
   exact ⟨ρ1, h1, .nil, .nil, h2⟩
 refine hideG fun G KG => ?_
 obtain ⟨m, _, hm, h2, _⟩ := J.fm.sto
 have hEC : E.locals = C := (List.cons.inj h2).1.symm
 rw [hEC] at hm
 obtain ⟨o, vs, nn, l1, l2, l3, l4, l5⟩ := J.lst
 rw [filterMap_some] at l5
 have gr := J.gr
 (refine x33 (id hm) ?_; intro oC es ep eC dC rC)
 have FC := F.addL [C] (fun a ha => by rw [mSz.mp ha]; exact hC) gr fun a ha => by rw [mSz.mp ha]; exact ⟨oC, eC⟩
 have hlv := (F.st true).live
 have rD : Rep c (VK true (fun b => V0 b \/ b ∈ [C]) X) s' (.list (ds.map r)) (.ref Dd) := by
  refine .list (fun q => ?_) l1 l2 l3 l4 (l5.weak fun a q => ?_)
  · rcases q.2 with (q | q) | q
    · obtain ⟨o', e⟩ := hlv _ ⟨rfl, .inl q⟩; rw [hD] at e; cases e
    · exact hDC (mSz.mp q)
    · obtain ⟨o', e⟩ := hlv _ ⟨rfl, .inr q⟩; rw [hD] at e; cases e
  · rcases q.2 with (q | q) | q
    · exact .inl (.inl (.inl q))
    · exact .inr q
    · exact .inl (.inl (.inr q))
 refine KG ?_
 show wpAny c.M A (PySem.assign (.Name (oS y) p) env (.ref Dd)) _ _ s'
 refine wpAny_assign_Name (wM (FC.store (.refl s') (hO.own _) (.inl hk) (RepS.ofRep rD) .nil fun _ ha => nomatch ha) (fun _ s'' q => ?_) fun _ _ q => q)
 refine hideG fun G KG => ?_
 (refine x12 q ?_; clear q; intro X' g F'')
 have hCX : C ∉ X := (FC.live0 C (.inr (.head _))).2
 have eC'' : s''.heap.get? C = some oC := g.keep _ _ hCX eC
 refine KG ⟨m, ⟨oC, es, ep, eC'', dC, rC⟩, fun h' hs' => ?_⟩
 have hVC : ¬ V0 C := fun q => by obtain ⟨o', e⟩ := hlv _ ⟨rfl, .inl q⟩; rw [hC] at e; cases e
 have hn0 : h0.get? C = none := by
  cases e : h0.get? C with
  | none => rfl
  | some o => have := F.keep _ _ e; rw [hC] at this; cases this
 have F₃ := F''.dropC hs' hn0 hVC (mc := m) ⟨oC, es, ep, eC'', dC, rC⟩
 have st := (Stp.of_gr (X := X) gr).trans g
 refine ⟨X', _, .next, ⟨fun b ob hb e => (hs'.2 b fun q => by rw [q, hC] at e; cases e).trans (st.keep b ob hb e), st.tok, st.gens, st.os, st.new, fun b hb ob e => ?_⟩, F₃, .next, rfl, rfl⟩
 obtain ⟨o', e'⟩ := st.live b hb ob e
 exact ⟨o', (hs'.2 b fun q => by rw [q, hC] at e; cases e).trans e'⟩
end
end
noncomputable def mm9 (d : D) : List Nat := wordsOf (shL 4 d) (cs d.tyn)
noncomputable def it9 (i : Nat) : D := itmL.getD i .none
inductive Its : List D -> Prop
 | nil : Its []
 | one (i : Nat) (h : i < 16) : Its [it9 i]
 | two (i j : Nat) (h : i < 16) (h' : j < 16) : Its [it9 i, it9 j]
noncomputable def oth : List D := [.bool false, .none, .bytes [], .bool true, .bytes [48], .bytes [38]] ++ (List.range 100).map fun j : Nat => D.int ((j : Int) - 50)
noncomputable abbrev liD (l : List D) : D := .list (sd (cs "&") :: l)
noncomputable abbrev tuD (l : List D) : D := .tuple (sd (cs "&") :: l)
noncomputable abbrev dcD (a b : D) : D := .dict [(cs "&", a), (cs "c", b)]
noncomputable abbrev dc0 : D := .dict [(cs "&", it9 9), (cs "b", it9 7)]
inductive Thg : D -> Prop
 | oth {d} : d ∈ oth -> Thg d
 | list {l} : Its l -> Thg (liD l)
 | tuple {l} : Its l -> Thg (tuD l)
 | dict0 : Thg dc0
 | dict (i j : Nat) (h : i < 16) (h' : j < 16) : Thg (dcD (it9 i) (it9 j))
theorem mem_oth {i : Int} (h : -50 <= i) (h' : i < 50) : D.int i ∈ oth :=
 mR _ (List.mem_map.mpr ⟨(i + 50).toNat, List.mem_range.mpr (by omega), congrArg D.int (by omega)⟩)
theorem i16 (y : Int) : (y.fmod 16).toNat < 16 := by have := fmod_lt y (m := 16) (by decide); omega
theorem itms_its (y : Int) : Its (itms y) := by
 have h := fmod_lt y (m := 3) (by decide)
 unfold itms
 obtain e | e | e : (y.fmod 3).toNat = 0 \/ (y.fmod 3).toNat = 1 \/ (y.fmod 3).toNat = 2 := by omega
 · erw [e]; exact .nil
 · erw [e]; exact .one _ (i16 _)
 · erw [e]; exact .two _ _ (i16 _) (i16 _)
theorem sgl_mem : ∀ i, i < 10 -> sglL.getD i .none ∈ oth
 | 0, _ => mem_oth (by decide) (by decide)
 | 1, _ => .head _
 | 2, _ => .tail _ (.head _)
 | 3, _ => .tail _ (.tail _ (.head _))
 | 4, _ => mem_oth (by decide) (by decide)
 | 5, _ => .tail _ (.tail _ (.tail _ (.head _)))
 | 6, _ => mem_oth (by decide) (by decide)
 | 7, _ => .tail _ (.tail _ (.tail _ (.tail _ (.head _))))
 | 8, _ => .tail _ (.tail _ (.tail _ (.tail _ (.tail _ (.head _)))))
 | 9, _ => mem_oth (by decide) (by decide)
 | n + 10, h => absurd h (by omega)
theorem thg (x : Int) : Thg (thD x) := by
 have h10 := fmod_lt (x.fdiv 5) (m := 10) (by decide)
 have h100 := fmod_lt (x.fdiv 5) (m := 100) (by decide)
 have h3 := fmod_lt (x.fdiv 5) (m := 3) (by decide)
 unfold thD
 split
 · exact .oth (sgl_mem _ (by omega))
 split
 · exact .oth (mem_oth (by omega) (by omega))
 split
 · exact .list (itms_its _)
 split
 · exact .tuple (itms_its _)
 split
 next h => unfold itms; erw [h]; exact .dict0
 next h =>
  unfold itms
  obtain e | e : ((x.fdiv 5).fmod 3).toNat = 1 \/ ((x.fdiv 5).fmod 3).toNat = 2 := by omega
  · erw [e]; exact .dict _ _ (i16 _) (i16 _)
  · erw [e]; exact .dict _ _ (i16 _) (i16 _)
noncomputable def chk (k m : Nat) (d : D) : Bool := okF k d && (wS m d && decide ((shL k d).length <= 30))
theorem chk_oth : ∀ d ∈ oth, chk 4 6 d = true := by decide +kernel
theorem chk_itm : ∀ i, i < 16 -> chk 3 5 (it9 i) = true /\ wS 4 (it9 i) = true := by decide +kernel
theorem chk_and {k m : Nat} {d : D} (h : chk k m d = true) : okF k d = true /\ wS m d = true /\ (shL k d).length <= 30 :=
 have h1 := (Bool.and_eq_true _ _).mp h
 have h2 := (Bool.and_eq_true _ _).mp h1.2
 ⟨h1.1, h2.1, of_decide_eq_true h2.2⟩
theorem app_cps (x y : Str) : (x ++ y).cps.toList = x.cps.toList ++ y.cps.toList := by rw [S_of x, S_of y, S_append]
theorem cs_cps (x : String) : (oS x).cps.toList = cs x := by rw [ofString_S]
noncomputable def RL : List (List Nat) := [[48], [70, 97, 108, 115, 101], [78, 111, 110, 101], [39, 39], [39, 48, 39], [98, 39, 48, 39], [39, 38, 39], [91, 93], [40, 41], [91, 48, 93], [40, 48, 44, 41], [123, 39, 97, 39, 58, 32, 48, 125], [123, 39, 97, 39, 58, 32, 48, 44, 32, 39, 98, 39, 58, 32, 49, 125], [123, 39, 98, 39, 58, 32, 49, 44, 32, 39, 97, 39, 58, 32, 48, 125], [34, 39, 34], [39, 34, 39]]
noncomputable abbrev r9 (i : Nat) : List Nat := RL.getD i []
theorem sh_itm : ∀ i, i < 16 -> shL 3 (it9 i) = r9 i := by decide +kernel
theorem sh_amp : shL 3 (sd (cs "&")) = [39, 38, 39] := by decide +kernel
noncomputable abbrev ends : List (List Nat) := [[44, 32], [93], [41], [125]]
theorem pf : ∀ i, i < 16 -> ∀ j, j < 16 -> ∀ s ∈ ends, ∀ t ∈ ends, (r9 i ++ s).isPrefixOf (r9 j ++ t) = true -> i = j /\ s = t := by decide +kernel
theorem key {i j : Nat} {s t x y : List Nat} (hi : i < 16) (hj : j < 16) (hs : s ∈ ends) (ht : t ∈ ends) (h : r9 i ++ (s ++ x) = r9 j ++ (t ++ y)) : i = j /\ s = t /\ x = y := by
 rw [<- aA, <- aA] at h
 have hp : i = j /\ s = t := by
  rcases Nat.le_total (r9 i ++ s).length (r9 j ++ t).length with hl | hl
  · exact pf i hi j hj s hs t ht (List.isPrefixOf_iff_prefix.mpr (List.prefix_of_prefix_length_le (List.prefix_append _ x) (h ▸ List.prefix_append _ y) hl))
  · have := pf j hj i hi t ht s hs (List.isPrefixOf_iff_prefix.mpr (List.prefix_of_prefix_length_le (List.prefix_append _ y) (h ▸ List.prefix_append _ x) hl))
    exact ⟨this.1.symm, this.2.symm⟩
 obtain ⟨rfl, rfl⟩ := hp
 exact ⟨rfl, rfl, List.append_cancel_left h⟩
noncomputable abbrev sfx (x : String) : List Nat := cs " (type " ++ cs x ++ cs ")"
noncomputable def rowT (e : List Nat) : List Nat -> List D -> List Nat
 | z, [] => z
 | _, [a] => [44, 32] ++ (shL 3 a ++ e)
 | _, [a, b] => [44, 32] ++ (shL 3 a ++ ([44, 32] ++ (shL 3 b ++ e)))
 | _, _ => []
theorem sh_list {l : List D} (h : Its l) : shL 4 (liD l) = [91, 39, 38, 39] ++ rowT [93] [93] l := by
 have e (ds : List D) : shL 4 (.list ds) = (listText (ds.map (shF 3))).cps.toList := rfl
 have ea : (shF 3 (sd (cs "&"))).cps.toList = [39, 38, 39] := sh_amp
 have e1 : ((", " : String) : Str).cps.toList = [44, 32] := cs_cps ", "
 have e2 : (("[" : String) : Str).cps.toList = [91] := cs_cps "["
 have e3 : (("]" : String) : Str).cps.toList = [93] := cs_cps "]"
 have e4 : (("" : String) : Str).cps.toList = [] := cs_cps ""
 rw [e]
 cases h <;> simp [listText, textFrom, app_cps, ea, e1, e2, e3, e4, rowT, shL]
theorem sh_tuple {l : List D} (h : Its l) : shL 4 (tuD l) = [40, 39, 38, 39] ++ rowT [41] [44, 41] l := by
 have e (ds : List D) : shL 4 (.tuple ds) = (tupleText (ds.map (shF 3))).cps.toList := rfl
 have ea : (shF 3 (sd (cs "&"))).cps.toList = [39, 38, 39] := sh_amp
 have e1 : ((", " : String) : Str).cps.toList = [44, 32] := cs_cps ", "
 have e2 : (("(" : String) : Str).cps.toList = [40] := cs_cps "("
 have e3 : ((")" : String) : Str).cps.toList = [41] := cs_cps ")"
 have e4 : ((",)" : String) : Str).cps.toList = [44, 41] := cs_cps ",)"
 rw [e]
 cases h <;> simp [tupleText, Str.join, app_cps, ea, e1, e2, e3, e4, rowT, shL]
theorem sh_dict (a b : D) (k : String) (hk : (cs k) = [98] \/ cs k = [99]) : shL 4 (.dict [(cs "&", a), (cs k, b)]) = [123, 39, 38, 39, 58, 32] ++ (shL 3 a ++ ([44, 32] ++ ([39] ++ (cs k ++ ([39, 58, 32] ++ (shL 3 b ++ [125])))))) := by
 have e (kvs : List (List Nat × D)) : shL 4 (.dict kvs) = (dictText (kvs.map fun p => reprText (S p.1) ++ ": " ++ shF 3 p.2)).cps.toList := rfl
 have ea : (reprText (S (cs "&"))).cps.toList = [39, 38, 39] := by decide +kernel
 have eb : (reprText (S (cs k))).cps.toList = [39] ++ (cs k ++ [39]) := by rcases hk with q | q <;> erw [q] <;> decide +kernel
 have e1 : ((", " : String) : Str).cps.toList = [44, 32] := cs_cps ", "
 have e2 : (("{" : String) : Str).cps.toList = [123] := cs_cps "{"
 have e3 : (("}" : String) : Str).cps.toList = [125] := cs_cps "}"
 have e4 : ((": " : String) : Str).cps.toList = [58, 32] := cs_cps ": "
 rw [e]
 simp [dictText, Str.join, app_cps, ea, eb, e1, e2, e3, e4, shL]
noncomputable def ndB : List Nat -> Bool
 | [] => true
 | a :: l => (l.all fun b => !Nat.beq a b) && ndB l
theorem nodup_inj {α : Type} {f : α -> Nat} : ∀ {l : List α}, ndB (l.map f) = true -> ∀ a ∈ l, ∀ b ∈ l, f a = f b -> a = b
 | [], _, a, ha, _, _, _ => nomatch ha
 | x :: l, h, a, ha, b, hb, e => by
  have hx := (Bool.and_eq_true _ _).mp h
  have hne : ∀ y ∈ l, f x ≠ f y := fun y hy q => by
   have := List.all_eq_true.mp hx.1 (f y) (List.mem_map.mpr ⟨y, hy, rfl⟩)
   rw [q, Nat.beq_refl] at this; cases this
  rcases mC.mp ha with ha | ha
  · rcases mC.mp hb with hb | hb
    · rw [ha, hb]
    · exact absurd (ha ▸ e) (hne b hb)
  · rcases mC.mp hb with hb | hb
    · exact absurd (hb ▸ e.symm) (hne a ha)
    · exact nodup_inj hx.2 a ha b hb e
noncomputable def tl9 (d : D) : List Nat := shL 4 d ++ sfx d.tyn
theorem mm9_tl (d : D) : mm9 d = cs "cannot serialize " ++ tl9 d := by simp [mm9, wordsOf, tl9, sfx]
noncomputable def enc (l : List Nat) : Nat := (l.takeWhile fun x => x != 32).foldl (fun n c => n * 131 + c) 7
noncomputable def LD : List Nat := [290891355408, 2238769927, 17423563, 2252310873, 2282487971, 2282486661, 16515873, 16515751, 16515750, 16515749, 16515748, 16515747, 16515746, 16515745, 16515744, 16515743, 16515742, 16515620, 16515619, 16515618, 16515617, 16515616, 16515615, 16515614, 16515613, 16515612, 16515611, 16515489, 16515488, 16515487, 16515486, 16515485, 16515484, 16515483, 16515482, 16515481, 16515480, 16515358, 16515357, 16515356, 16515355, 16515354, 16515353, 16515352, 16515351, 16515350, 16515349, 126079, 126078, 126077, 126076, 126075, 126074, 126073, 126072, 126071, 965, 966, 967, 968, 969, 970, 971, 972, 973, 974, 126594, 126595, 126596, 126597, 126598, 126599, 126600, 126601, 126602, 126603, 126725, 126726, 126727, 126728, 126729, 126730, 126731, 126732, 126733, 126734, 126856, 126857, 126858, 126859, 126860, 126861, 126862, 126863, 126864, 126865, 126987, 126988, 126989, 126990, 126991, 126992, 126993, 126994, 126995, 126996]
theorem enc_oth : oth.map (fun d => enc (tl9 d)) = LD := by decide +kernel
theorem nd_LD : ndB LD = true := by decide +kernel
theorem oth_inj {d e : D} (hd : d ∈ oth) (he : e ∈ oth) (h : tl9 d = tl9 e) : d = e :=
 nodup_inj (f := fun d => enc (tl9 d)) (enc_oth ▸ nd_LD) d hd e he (congrArg enc h)
noncomputable def kd9 (l : List Nat) : Nat := match l with
 | 91 :: _ => 1
 | 40 :: _ => 2
 | 123 :: _ => 3
 | _ => 0
theorem kd_oth : ∀ d ∈ oth, kd9 (tl9 d) = 0 := by decide +kernel
inductive Dcs : D -> Prop
 | zero : Dcs dc0
 | two (i j : Nat) (h : i < 16) (h' : j < 16) : Dcs (dcD (it9 i) (it9 j))
inductive ThF (d : D) : Nat -> Prop
 | oth : d ∈ oth -> ThF d 0
 | list {l} : Its l -> d = liD l -> ThF d 1
 | tuple {l} : Its l -> d = tuD l -> ThF d 2
 | dict : Dcs d -> ThF d 3
theorem tl_list {l : List D} (h : Its l) : tl9 (liD l) = [91, 39, 38, 39] ++ (rowT [93] [93] l ++ sfx "list") := by
 rw [tl9, sh_list h, aA]; rfl
theorem tl_tuple {l : List D} (h : Its l) : tl9 (tuD l) = [40, 39, 38, 39] ++ (rowT [41] [44, 41] l ++ sfx "tuple") := by
 rw [tl9, sh_tuple h, aA]; rfl
theorem tl_dict (a b : D) : tl9 (dcD a b) = [123, 39, 38, 39, 58, 32] ++ (shL 3 a ++ ([44, 32] ++ ([39] ++ ([99] ++ ([39, 58, 32] ++ (shL 3 b ++ ([125] ++ sfx "dict"))))))) := by
 rw [tl9, sh_dict a b "c" (.inr (by decide))]; simp [D.tyn]; rfl
theorem tl_dict0 : tl9 dc0 = [123, 39, 38, 39, 58, 32] ++ (shL 3 (it9 9) ++ ([44, 32] ++ ([39] ++ ([98] ++ ([39, 58, 32] ++ (shL 3 (it9 7) ++ ([125] ++ sfx "dict"))))))) := by
 rw [tl9, sh_dict _ _ "b" (.inl (by decide))]; simp [D.tyn]; rfl
theorem Thg.f {d : D} (h : Thg d) : ThF d (kd9 (tl9 d)) := by
 cases h with
 | oth h => rw [kd_oth _ h]; exact .oth h
 | list h => rw [tl_list h]; exact .list h rfl
 | tuple h => rw [tl_tuple h]; exact .tuple h rfl
 | dict0 => rw [tl_dict0]; exact .dict .zero
 | dict i j h h' => rw [tl_dict]; exact .dict (.two i j h h')
theorem row_inj {e z : List Nat} {y : List Nat} (he : e ∈ ends) (hne : e ≠ [44, 32]) (hz : ∀ x, z ++ y ≠ [44, 32] ++ x) {l m : List D} (hl : Its l) (hm : Its m) (h : rowT e z l ++ y = rowT e z m ++ y) : l = m := by
 have hc : [44, 32] ∈ ends := .head _
 cases hl with
 | nil =>
  cases hm with
  | nil => rfl
  | one i hi => simp only [rowT, aA] at h; exact absurd h (hz _)
  | two i j hi hj => simp only [rowT, aA] at h; exact absurd h (hz _)
 | one i hi =>
  cases hm with
  | nil => simp only [rowT, aA] at h; exact absurd h.symm (hz _)
  | one k hk =>
   simp only [rowT, aA, sh_itm i hi, sh_itm k hk] at h
   rw [(key hi hk he he (List.append_cancel_left h)).1]
  | two k j hk hj =>
   simp only [rowT, aA, sh_itm i hi, sh_itm k hk] at h
   exact absurd (key hi hk he hc (List.append_cancel_left h)).2.1 hne
 | two i j hi hj =>
  cases hm with
  | nil => simp only [rowT, aA] at h; exact absurd h.symm (hz _)
  | one k hk =>
   simp only [rowT, aA, sh_itm i hi, sh_itm k hk] at h
   exact absurd (key hi hk hc he (List.append_cancel_left h)).2.1.symm hne
  | two k m hk hm =>
   simp only [rowT, aA, sh_itm i hi, sh_itm k hk, sh_itm j hj, sh_itm m hm] at h
   (refine x03 (key hi hk hc hc (List.append_cancel_left h)) ?_; rintro rfl _ h)
   rw [(key hj hm he he h).1]
theorem dcs_inj {d e : D} (hd : Dcs d) (he : Dcs e) (h : tl9 d = tl9 e) : d = e := by
 have hc : [44, 32] ∈ ends := .head _
 have h4 : [125] ∈ ends := .tail _ (.tail _ (.tail _ (.head _)))
 cases hd with
 | zero =>
  cases he with
  | zero => rfl
  | two k m hk hm =>
   rw [tl_dict0, tl_dict, sh_itm 9 (by decide), sh_itm k hk] at h
   have h2 := (key (by decide) hk hc hc (List.append_cancel_left h)).2.2
   have h3 := List.append_cancel_left h2
   injection h3 with h3; cases h3
 | two i j hi hj =>
  cases he with
  | zero =>
   rw [tl_dict0, tl_dict, sh_itm 9 (by decide), sh_itm i hi] at h
   have h2 := (key hi (by decide) hc hc (List.append_cancel_left h)).2.2
   have h3 := List.append_cancel_left h2
   injection h3 with h3; cases h3
  | two k m hk hm =>
   rw [tl_dict, tl_dict, sh_itm k hk, sh_itm i hi, sh_itm j hj, sh_itm m hm] at h
   (refine x03 (key hi hk hc hc (List.append_cancel_left h)) ?_; rintro rfl _ h2)
   have h3 := List.append_cancel_left (List.append_cancel_left (List.append_cancel_left h2))
   rw [(key hj hm h4 h4 h3).1]
theorem mm9_inj {d e : D} (hd : Thg d) (he : Thg e) (h : mm9 d = mm9 e) : d = e := by
 rw [mm9_tl, mm9_tl] at h
 have h := List.append_cancel_left h
 have fd := hd.f
 have fe := he.f
 rw [h] at fd
 revert fd fe
 generalize kd9 (tl9 e) = k
 intro fd fe
 cases fd with
 | oth h1 => cases fe with | oth h2 => exact oth_inj h1 h2 h
 | list h1 e1 =>
  cases fe with | list h2 e2 =>
  subst e1; subst e2
  rw [tl_list h1, tl_list h2] at h
  exact congrArg liD (row_inj (.tail _ (.head _)) (by decide) (fun x q => by cases q) h1 h2 (List.append_cancel_left h))
 | tuple h1 e1 =>
  cases fe with | tuple h2 e2 =>
  subst e1; subst e2
  rw [tl_tuple h1, tl_tuple h2] at h
  exact congrArg tuD (row_inj (.tail _ (.tail _ (.head _))) (by decide) (fun x q => by injection q with _ q; injection q with q; cases q) h1 h2 (List.append_cancel_left h))
 | dict h1 => cases fe with | dict h2 => exact dcs_inj h1 h2 h
theorem str_beq {x y : Str} : (x == y) = decide (x.cps.toList = y.cps.toList) := by rw [S_of x, S_of y, S_beq]
theorem samF_refl : ∀ (k : Nat) (d : D), wS k d = true -> samF k d d = true
 | 0, d, h => by cases h
 | k + 1, d, h => by
  have hs : ∀ ds : List D, (decide (ds.length <= 100) && ds.all (wS k)) = true -> (decide (ds.length = ds.length) && ((List.range ds.length).all fun i => samF k (ds.getD i .none) (ds.getD i .none))) = true := fun ds h =>
   (Bool.and_eq_true _ _).mpr ⟨decide_eq_true rfl, List.all_eq_true.mpr fun i hi => samF_refl k _ (all_getD ((Bool.and_eq_true _ _).mp h).2 (List.mem_range.mp hi))⟩
  cases d with
  | none => rfl
  | bool b => show (b == b) = true; simp
  | int i => exact decide_eq_true rfl
  | str x => show (x == x) = true; rw [str_beq]; exact decide_eq_true rfl
  | bytes b => exact decide_eq_true rfl
  | list ds => exact hs ds h
  | tuple ds => exact hs ds h
  | dict kvs => exact (Bool.and_eq_true _ _).mpr ⟨decide_eq_true rfl, samF_refl k _ ((Bool.and_eq_true _ _).mp h).2⟩
  | val v => cases h
  | range a b c => cases h
theorem eq_getD {a b : List D} (hl : a.length = b.length) (h : ∀ i, i < a.length -> a.getD i .none = b.getD i .none) : a = b :=
 List.ext_getElem hl fun i h1 h2 => by
  have := h i h1
  rwa [List.getD_eq_getElem?_getD, List.getD_eq_getElem?_getD, List.getElem?_eq_getElem h1, List.getElem?_eq_getElem h2] at this
theorem samF_seq {k : Nat} {a b : List D} (ih : ∀ d e, samF k d e = true -> d = e) (h : (decide (a.length = b.length) && ((List.range a.length).all fun i => samF k (a.getD i .none) (b.getD i .none))) = true) : a = b :=
 have q := (Bool.and_eq_true _ _).mp h
 eq_getD (of_decide_eq_true q.1) fun i hi => ih _ _ (List.all_eq_true.mp q.2 i (List.mem_range.mpr hi))
theorem eq_maps {a b : List (List Nat × D)} (h1 : a.map (·.1) = b.map (·.1)) (h3 : a.map (·.2) = b.map (·.2)) : a = b := by
 refine List.ext_getElem (by simpa using congrArg List.length h1) fun i ha hb => Prod.ext ?_ ?_
 · have := congrArg (fun l => l[i]?) h1
   simpa [List.getElem?_map, List.getElem?_eq_getElem ha, List.getElem?_eq_getElem hb] using this
 · have := congrArg (fun l => l[i]?) h3
   simpa [List.getElem?_map, List.getElem?_eq_getElem ha, List.getElem?_eq_getElem hb] using this
theorem samF_eq (k : Nat) : ∀ (d e : D), samF k d e = true -> d = e := by
 induction k with
 | zero => intro d e h; cases h
 | succ k ih =>
  intro d e h
  have hk := samF_kind h
  cases hk with
  | none => rfl
  | bool a b => exact congrArg D.bool (beq_iff_eq.mp h)
  | int a b => exact congrArg D.int (of_decide_eq_true h)
  | str a b =>
   have h' : (a == b) = true := h
   rw [str_beq] at h'
   rw [S_of a, S_of b, of_decide_eq_true h']
  | bytes a b => exact congrArg D.bytes (of_decide_eq_true h)
  | list a b => exact congrArg D.list (samF_seq ih h)
  | tuple a b => exact congrArg D.tuple (samF_seq ih h)
  | dict a b =>
   have q := (Bool.and_eq_true _ _).mp h
   have h3 := ih _ _ q.2
   injection h3 with h3
   exact congrArg D.dict (eq_maps (of_decide_eq_true q.1) h3)
theorem Its.all {l : List D} (h : Its l) {P : D -> Bool} (hp : ∀ i, i < 16 -> P (it9 i) = true) : l.all P = true := by
 cases h with
 | nil => rfl
 | one i h => simp [hp i h]
 | two i j h h' => simp [hp i h, hp j h']
theorem Its.len {l : List D} (h : Its l) : l.length <= 2 := by cases h <;> simp
theorem row_len {e z : List Nat} {l : List D} (h : Its l) (he : e.length <= 2) (hz : z.length <= 2) : (rowT e z l).length <= 100 := by
 cases h with
 | nil => show z.length <= 100; exact lt4 (by assumption) rfl
 | one i h => have := (chk_and (chk_itm i h).1).2.2; simp only [rowT, List.length_append]; simp; omega
 | two i j h h' => have := (chk_and (chk_itm i h).1).2.2; have := (chk_and (chk_itm j h').1).2.2; simp only [rowT, List.length_append]; simp; omega
structure ThOk (d : D) : Prop where
 ok : okF 4 d = true
 ws : wS 6 d = true
 len : (shL 4 d).length <= 1000
theorem Thg.okk {d : D} (h : Thg d) : ThOk d := by
 have w5 : ∀ i, i < 16 -> wS 5 (it9 i) = true := fun i h => (chk_and (chk_itm i h).1).2.1
 have o3 : ∀ i, i < 16 -> okF 3 (it9 i) = true := fun i h => (chk_and (chk_itm i h).1).1
 have l3 : ∀ i, i < 16 -> (shL 3 (it9 i)).length <= 30 := fun i h => (chk_and (chk_itm i h).1).2.2
 have oa : okF 3 (sd (cs "&")) = true := by decide +kernel
 have dk : ∀ (a b : Nat) (k : String), a < 16 -> b < 16 -> (cs k = [98] \/ cs k = [99]) -> ThOk (.dict [(cs "&", it9 a), (cs k, it9 b)]) := fun a b k ha hb hk => by
  have e1 : (reprText (S (cs "&"))).length <= 100 := by decide +kernel
  have e2 : (reprText (S (cs k))).length <= 100 := by rcases hk with q | q <;> rw [q] <;> decide +kernel
  have hnd : ([cs "&", cs k]).Nodup := by rcases hk with q | q <;> rw [q] <;> decide +kernel
  refine ⟨?_, ?_, ?_⟩
  · show (([(cs "&", it9 a), (cs k, it9 b)] : List (List Nat × D)).all fun p => decide ((reprText (S p.1)).length <= 100) && okF 3 p.2) = true
    simp only [List.all_cons, List.all_nil, decide_eq_true e1, decide_eq_true e2, o3 a ha, o3 b hb]; rfl
  · show ((decide [cs "&", cs k].Nodup && decide (([(cs "&", it9 a), (cs k, it9 b)] : List (List Nat × D)).length <= 100)) && (decide ([it9 a, it9 b].length <= 100) && [it9 a, it9 b].all (wS 4))) = true
    simp only [decide_eq_true hnd, List.all_cons, List.all_nil, (chk_itm a ha).2, (chk_itm b hb).2]; rfl
  · erw [sh_dict _ _ k hk]
    have := l3 a ha
    have := l3 b hb
    have : (cs k).length = 1 := by rcases hk with q | q <;> rw [q] <;> rfl
    simp only [List.length_append]; simp; omega
 cases h with
 | oth h => have := chk_and (chk_oth _ h); exact ⟨this.1, this.2.1, by omega⟩
 | @list l h =>
  refine ⟨?_, ?_, ?_⟩
  · show (sd (cs "&") :: l).all (okF 3) = true
    rw [List.all_cons, oa, h.all o3]; rfl
  · show (decide ((sd (cs "&") :: l).length <= 100) && (sd (cs "&") :: l).all (wS 5)) = true
    erw [List.all_cons, h.all w5, decide_eq_true (show (sd (cs "&") :: l).length <= 100 by have := h.len; simp; exact lt4 (by assumption) rfl)]; rfl
  · rw [sh_list h]; have := row_len (e := [93]) (z := [93]) h (by decide) (by decide); simp only [List.length_append]; simp; omega
 | @tuple l h =>
  refine ⟨?_, ?_, ?_⟩
  · show (sd (cs "&") :: l).all (okF 3) = true
    rw [List.all_cons, oa, h.all o3]; rfl
  · show (decide ((sd (cs "&") :: l).length <= 100) && (sd (cs "&") :: l).all (wS 5)) = true
    erw [List.all_cons, h.all w5, decide_eq_true (show (sd (cs "&") :: l).length <= 100 by have := h.len; simp; exact lt4 (by assumption) rfl)]; rfl
  · rw [sh_tuple h]; have := row_len (e := [41]) (z := [44, 41]) h (by decide) (by decide); simp only [List.length_append]; simp; omega
 | dict0 => exact dk 9 7 "b" (by decide) (by decide) (.inl (by decide))
 | dict i j h h' => exact dk i j "c" h h' (.inr (by decide))
theorem words_same {d e : D} (hd : Thg d) (he : Thg e) : decide (mm9 d = mm9 e) = samF 6 d e := by
 rw [Bool.eq_iff_iff, decide_eq_true_eq]
 exact ⟨fun h => mm9_inj hd he h ▸ samF_refl 6 d hd.okk.ws, fun h => samF_eq 6 _ _ h ▸ rfl⟩
theorem TruR.dictC {c : Cx} {kvs : List (List Nat × D)} (hnd : (kvs.map (·.1)).Nodup) (hne : kvs ≠ []) (hz : kvs.length <= 100) : TruR c (.dict kvs) true := fun A V s v _ _ r => by
 obtain ⟨a, kvv, ep, rfl, hsm, hD, hk, _⟩ := r.dictO hnd
 (refine x26 hD ?_; clear hD; intro o es ho hx' hd hks hps hnd)
 have hl : kvv.length = kvs.length := by
  have := congrArg List.length hk
  simpa only [List.length_map] using this
 have hp := List.length_pos_iff.mpr hne
 exact wp_end (wpAny_truthy_dict (knd := strKind c.prog c.w) hsm ⟨o, es, ep, ho, hx', hd, hks, hps, hnd⟩ (by omega) ⟨fun _ _ e => e, rfl, rfl, fun _ => by
  cases kvv with
  | nil => simp at hl; omega
  | cons => rfl⟩)
noncomputable def trD : D -> Bool
 | .none => false
 | .bool b => b
 | .int i => decide (i ≠ 0)
 | .bytes b => !b.isEmpty
 | _ => true
inductive OthC : D -> Prop
 | bool (b : Bool) : OthC (.bool b)
 | none : OthC .none
 | bytes (b : List Nat) (h : b.length <= 1000) : OthC (.bytes b)
 | int (i : Int) : OthC (.int i)
theorem oth_cases {d : D} (h : d ∈ oth) : OthC d := by
 rcases mA.mp h with h | h
 · simp only [mC, List.not_mem_nil, or_false] at h
   rcases h with rfl | rfl | rfl | rfl | rfl | rfl
   · exact .bool _
   · exact .none
   · exact .bytes _ (by decide)
   · exact .bool _
   · exact .bytes _ (by decide)
   · exact .bytes _ (by decide)
 · (refine x12 (List.mem_map.mp h) ?_; rintro j _ rfl)
   exact .int _
theorem OthC.thing {d : D} (h : OthC d) : d.thing = true := by cases h <;> rfl
theorem Thg.thing {d : D} (h : Thg d) : d.thing = true := by
 cases h with
 | oth h => exact (oth_cases h).thing
 | _ => rfl
theorem Thg.tru {c : Cx} {d : D} (h : Thg d) : TruR c d (trD d) := by
 cases h with
 | oth h =>
  cases oth_cases h with
  | bool => exact .bool
  | none => exact .none
  | bytes b h' => exact .bytes h'
  | int => exact .int
 | list h => exact TruR.list (by have := h.len; simp; exact lt4 (by assumption) rfl)
 | tuple h => exact TruR.tuple (by have := h.len; simp; exact lt4 (by assumption) rfl)
 | dict0 => exact TruR.dictC (by simp; decide) (by simp) (by simp)
 | dict i j => exact TruR.dictC (by simp; decide) (by simp) (by simp)
theorem Thg.refuse {c : Cx} {d : D} (h : Thg d) : Refuse c d := by
 cases h with
 | oth h =>
  cases oth_cases h with
  | bool => exact .noIn .bool
  | none => exact .noIn .none
  | bytes => exact .noIn .bytes
  | int => exact .noIn .int
 | list => exact .sign .list .list
 | tuple => exact .sign .tuple .tuple
 | dict0 => exact .sign .dict (.dict rfl)
 | dict => exact .sign .dict (.dict rfl)
theorem tyn_len {d : D} : (cs d.tyn).length <= 1000 := by cases d <;> (show List.length _ <= 1000) <;> (simp only [D.tyn]; decide)
structure Esc (c : Cx) : Prop where
 hn : c.hn
 gn : c.gn
 B : BX c
 h58 : IsDefL c 58 (sc09 6) ["text"] (bd09 6)
 h65 : IsDefL c 65 (sc09 7) ["text"] (bd09 7)
 h72 : IsDefL c 72 (sc09 8) ["text"] (bd09 8)
 h182 : IsDefL c 182 (sc09 11) ["text"] (bd09 11)
 h189 : IsDefL c 189 (sc09 12) ["text"] (bd09 12)
theorem Esc.bad {c : Cx} {m : Nat} {d : D} (E : Esc c) (h : Thg d) : ∀ f : Addr, f ∈ [65, 189, 72, 58, 182, 51] -> FnX c (m + 2) (.ref f) [d] "TypeError" (mm9 d) := by
 have hz : (shL (3 + 1) d).length <= 100000 := by have := h.okk.len; show (shL 4 d).length <= _; exact lt4 (by assumption) rfl
 have hr : ReprN c.h m d (shL (3 + 1) d) := ReprN.of (c := c.h) E.gn (by decide) h.okk.ok hz
 have hr0 : ReprN c (m + 1) d (shL (3 + 1) d) := ReprN.of (c := c) E.gn (by decide) h.okk.ok hz
 have ht : TyN c.h m d (cs d.tyn) := TyN.blt (c := c.h) E.B.type (typeOk (c := c.h) h.thing)
 have ht0 : TyN c (m + 1) d (cs d.tyn) := TyN.blt (c := c) E.B.type (typeOk (c := c) h.thing)
 intro f hf
 simp only [mC, List.not_mem_nil, or_false] at hf
 rcases hf with rfl | rfl | rfl | rfl | rfl | rfl
 · exact attrib_X E.hn E.B E.h65 h.refuse hr ht tyn_len
 · exact ac_X E.hn E.B E.h189 h.refuse hr ht tyn_len
 · exact html_X E.hn E.B E.h72 h.refuse hr ht tyn_len
 · exact cdata_X E.hn E.B E.h58 h.refuse hr ht tyn_len
 · exact cc_X E.hn E.B E.h182 h.refuse hr ht tyn_len
 · exact words_fn0 E.B hr0 ht0 tyn_len
theorem bad9 {c : Cx} {m : Nat} {d : D} (E : ∀ B, Keeps c.base B -> Esc (c.at B)) (h : Thg d) : Bad c (m + 2) d (mm9 d) := fun B k => (E B k).bad h
section
structure L9 (c : Cx) (K : Frag) (P na : Addr) (kvs : List (Str × Value)) (ep : Nat) : Prop where
 Y : W9 c K P na kvs ep
 E : ∀ B, Keeps c.base B -> Esc (c.at B)
 lsc : c.lsc (sc09 18)
 law : IsDefL c 220 (sc09 18) ["script"] (bd09 18)
 TB : TB c
 SB : SB c
 gth : c.mg (oS "_law_thing") = some (.ref 203)
 gw : c.mg (oS "_law_words") = some (.ref 215)
 max : c.mg (oS "max") = none /\ c.mb (oS "max") = some (.builtin "max")
 Pb : c.base.get? P = none
noncomputable def headD (th : Nat -> D) (k : Nat) : D := .tuple [sd (mm9 (th k)), .list (outD (k % 8))]
noncomputable def wdB (th : Nat -> D) (k i : Nat) : D := .bool (decide (mm9 (th k) = mm9 (th (k - 7 + i))))
noncomputable def smB (th : Nat -> D) (k i : Nat) : D := .bool (samF 6 (th k) (th (k - 7 + i)))
noncomputable def toldD (th : Nat -> D) (m : Nat) : List D := (List.range m).flatMap fun k => headD th k :: (List.range (k - (k - 7))).map (wdB th k)
noncomputable def dueD (th : Nat -> D) (m : Nat) : List D := (List.range m).flatMap fun k => headD th k :: (List.range (k - (k - 7))).map (smB th k)
theorem toldD_succ (th : Nat -> D) (m : Nat) : toldD th (m + 1) = toldD th m ++ (headD th m :: (List.range (m - (m - 7))).map (wdB th m)) := by
 simp [toldD, List.range_succ]
theorem dueD_succ (th : Nat -> D) (m : Nat) : dueD th (m + 1) = dueD th m ++ (headD th m :: (List.range (m - (m - 7))).map (smB th m)) := by
 simp [dueD, List.range_succ]
theorem told_due (th : Nat -> D) (h : ∀ k, Thg (th k)) (m : Nat) : toldD th m = dueD th m := by
 unfold toldD dueD
 congr 1
 funext k
 congr 1
 exact List.map_congr_left fun i _ => congrArg D.bool (words_same (h _) (h _))
theorem told_sim (th : Nat -> D) (m : Nat) : simF 4 (.list (toldD th m)) = true := by
 show (toldD th m).all (simF 3) = true
 refine List.all_eq_true.mpr fun x hx => ?_
 (refine x12 (List.mem_flatMap.mp hx) ?_; intro k _ hx)
 rcases mC.mp hx with rfl | hx
 · show (true && ((outD (k % 8)).all (simF 1) && true)) = true
   unfold outD
   split <;> rfl
 · (refine x12 (List.mem_map.mp hx) ?_; rintro i _ rfl)
   rfl
theorem told_len (th : Nat -> D) : ∀ m, (toldD th m).length <= 8 * m
 | 0 => Nat.le_refl _
 | m + 1 => by
  have := told_len th m
  rw [toldD_succ]; simp; omega
theorem due_len (th : Nat -> D) : ∀ m, (dueD th m).length <= 8 * m
 | 0 => Nat.le_refl _
 | m + 1 => by
  have := due_len th m
  rw [dueD_succ]; simp; omega
noncomputable abbrev wT9 (d : D) : D := .tuple [sd (mm9 d), .list (outD 8)]
noncomputable abbrev vals (l : List D) : List Slot := l.map .val
noncomputable abbrev σ9 (a1 a2 : Addr) (xs : List D) (th : Nat -> D) (m : Nat) : Sto :=
 [("told", .ownO (some a1) (vals (toldD th m))), ("due", .ownO (some a2) (vals (dueD th m))), ("words", .val (.list (xs.map wT9))), ("things", .val (.list xs))]
theorem fmod8 (k : Nat) : (k : Int).fmod 8 = ((k % 8 : Nat) : Int) := by
 rw [Int.fmod_eq_emod_of_nonneg _ (by decide)]; omega
section
variable {c : Cx} {P na : Addr} {kvs : List (Str × Value)} {ep : Nat} {K : Frag} {env : Env} {A : Around}
noncomputable abbrev forS9 : Stmt := match (show Option Stmt from (bd09 18)[3]?) with
 | some s => s
 | _ => .Pass ⟨0, 0, 0, 0⟩
noncomputable abbrev forB9 : List Stmt := match forS9 with
 | .For _ _ b _ _ => b
 | _ => []
theorem turn9 (L : L9 c K P na kvs ep) {a1 a2 : Addr} {xs : List D} {th : Nat -> D} {k : Nat} (hk : k < xs.length) (hz : xs.length <= 100) (hth : ∀ i, i < xs.length -> xs[i]? = some (th i)) (hg : ∀ i, Thg (th i)) :
 Tr c 39 (sc09 18) (setS (setS (σ9 a1 a2 xs th k) "k" (.val (.int k))) "told" (.ownO (some a1) (vals (toldD th k) ++ [.val (headD th k)]))) (forB9.drop 1) fun af ρ' => af = .next /\ SubS (σ9 a1 a2 xs th (k + 1)) ρ' := by
 have hn := L.SB.hn
 have hl := told_len th k
 have hl' := due_len th k
 have hw : ∀ i, i < xs.length -> (xs.map wT9)[i]? = some (wT9 (th i)) := fun i hi => by erw [List.getElem?_map, hth i hi]; rfl
 have hz2 : xs.length <= 16777216 := by exact lt4 (by assumption) rfl
 refine .step (.appendG (x := "due") (d := .val (headD th k)) rfl (.val (.tuple (.cons (.subT (ds := [sd (mm9 (th k)), .list (outD 8)]) (.subL (ds := xs.map wT9) (i := k) (.name rfl) (.name rfl) (.list (by exact Int.natCast_nonneg _) (hw k hk) (by omega))) .int (.tuple (j := 0) rfl rfl)) (.cons ?_ .nil)) (by show 2 <= sizeLine; decide))) (by simp [vals]; omega)) ?_
 · refine .ite (x := decide (k % 8 = 7)) (.to (.cmp (.bin (.name rfl) .int (.fmod (by decide))) .int .eqI) ?_) (fun h => ?_) fun h => ?_
   · rw [fmod8]; rw [Bool.eq_iff_iff, decide_eq_true_eq, decide_eq_true_eq]; omega
   · refine .to (.list (.cons .lit .nil) (by decide)) ?_
     unfold outD; rw [if_pos (of_decide_eq_true h)]
   · refine .to (.list .nil (by decide)) ?_
     unfold outD; rw [if_neg (of_decide_eq_false h)]
 refine .last (.forS (g := fun i : Nat => D.int (((k - 7 : Nat) : Int) + i)) (xs := List.range (k - (k - 7))) (d₀ := .range ((k - 7 : Nat) : Int) (k : Int) 1)
  (fun done => [("told", .ownO (some a1) ((vals (toldD th k) ++ [.val (headD th k)]) ++ done.map fun i => .val (wdB th k i))), ("due", .ownO (some a2) ((vals (dueD th k) ++ [.val (headD th k)]) ++ done.map fun i => .val (smB th k i))), ("k", .val (.int k)), ("words", .val (.list (xs.map wT9))), ("things", .val (.list xs))])
  (.call (.blt L.SB.range.1 L.SB.range.2) (.type _) (.cons (.to (.call (.blt L.max.1 L.max.2) (.builtin _) (.cons .int (.cons (.bin (.name rfl) .int .sub) .nil)) .max2) (congrArg D.int (by omega))) (.cons (.name rfl) .nil)) .range2) (.rangeN (by omega) (by omega)) ?_ (fun done i rest e => ?_) ?_)
 · simp only [List.map_nil, List.append_nil]
   exact .cons rfl (.cons rfl (.cons rfl (.cons rfl (.cons rfl .nil))))
 · have hi : i < k - (k - 7) := List.mem_range.mp (by rw [e]; simp)
   have hdl : done.length <= 7 := by have := congrArg List.length e; simp at this; omega
   have hj : k - 7 + i < xs.length := by omega
   have hji : (((k - 7 : Nat) : Int) + (i : Int)).toNat = k - 7 + i := by omega
   refine ⟨_, .name (.inl rfl), .step (.appendG (x := "told") (d := .val (wdB th k i)) rfl (.val (.cmp (.subT (ds := [sd (mm9 (th k)), .list (outD 8)]) (.subL (ds := xs.map wT9) (i := k) (.name rfl) (.name rfl) (.list (by exact Int.natCast_nonneg _) (hw k hk) (by omega))) .int (.tuple (j := 0) rfl rfl)) (.subT (ds := [sd (mm9 (th (k - 7 + i))), .list (outD 8)]) (.subL (ds := xs.map wT9) (i := ((k - 7 : Nat) : Int) + i) (.name rfl) (.name rfl) (.list (by omega) (by erw [hji]; exact hw _ hj) (by omega))) .int (.tuple (j := 0) rfl rfl)) .eqS)) (by simp [vals]; omega)) ?_⟩
   refine .step (.appendG (x := "due") (d := .val (smB th k i)) rfl (.val (.call (.glob L.SB.g) L.SB.hd.callee (.cons (.subL (ds := xs) (i := k) (.name rfl) (.name rfl) (.list (by exact Int.natCast_nonneg _) (hth k hk) (by omega))) (.cons (.subL (ds := xs) (i := ((k - 7 : Nat) : Int) + i) (.name rfl) (.name rfl) (.list (by omega) (by erw [hji]; exact hth _ hj) (by omega))) .nil)) (same_fn (n := 32) L.SB 6 (hg _).okk.ws (hg _).okk.ws))) (by simp [vals]; omega)) (.nil ?_)
   show SubS _ _
   simp only [List.map_append, List.map_cons, List.map_nil, <- aA]
   exact .cons rfl (.cons rfl (.cons rfl (.cons rfl (.cons rfl .nil))))
 · refine ⟨rfl, ?_⟩
   have e1 : vals (toldD th (k + 1)) = (vals (toldD th k) ++ [.val (headD th k)]) ++ (List.range (k - (k - 7))).map fun i => .val (wdB th k i) := by
    rw [toldD_succ]; simp [vals]
   have e2 : vals (dueD th (k + 1)) = (vals (dueD th k) ++ [.val (headD th k)]) ++ (List.range (k - (k - 7))).map fun i => .val (smB th k i) := by
    rw [dueD_succ]; simp [vals]
   unfold σ9
   erw [e1, e2]
   exact .cons rfl (.cons rfl (.cons rfl (.cons rfl .nil)))
end
end
section
section
variable {c : Cx} {P na : Addr} {kvs : List (Str × Value)} {ep : Nat} {K : Frag} {env : Env} {A : Around} {X : List Addr} {s s₀ : Shared}
noncomputable abbrev ret9 : List Stmt := (bd09 18).drop 4
theorem rest9 (L : L9 c K P na kvs ep) {a1 a2 : Addr} {xs : List D} {th : Nat -> D} (hz : xs.length <= 100) (hth : ∀ i, i < xs.length -> xs[i]? = some (th i)) (hg : ∀ i, Thg (th i))
 (hA : Room c 39 A) (hO : OwnT c A env (sc09 18) env.cells) (S : LS c (sc09 18) env P X (σ9 a1 a2 xs th 0) s) (mn : Mn s₀ s) :
 wpAny c.M A (execs (forS9 :: ret9) env) (fun f s' => f = .ret (.bool true) /\ Keeps c.base s'.heap /\ PSt P stQual lamPos s'.heap /\ Mn s₀ s') NoE s := by
 have hn := L.SB.hn
 refine LS.for (n := 39) (ds := (List.range xs.length).map fun k : Nat => D.int k) (d₀ := .range 0 (xs.length : Nat) 1) (fun done => σ9 a1 a2 xs th done.length) hn hA hO S
  (.call (.blt L.SB.range.1 L.SB.range.2) (.type _) (.cons (.call (.blt L.SB.len.1 L.SB.len.2) (.builtin _) (.cons (.name rfl) .nil) (.lenL (by exact lt4 (by assumption) rfl))) .nil) .range1) (.range0 (by exact lt4 (by assumption) rfl)) (.cons rfl (.cons rfl (.cons rfl (.cons rfl .nil)))) (fun done d rest e => ?_) (fun X1 s₁ t₁ S1 => ?_)
 · have hd : d = .int done.length /\ done.length < xs.length := by
    have h1 := congrArg (fun l => l[done.length]?) e
    have h2 := congrArg List.length e
    simp only [List.length_map, List.length_range, List.length_append, List.length_cons] at h2
    have h3 : done.length < xs.length := by omega
    simp [List.getElem?_append_right, h3] at h1
    exact ⟨h1.symm, h3⟩
   obtain ⟨rfl, hk⟩ := hd
   generalize hm : done.length = k at hk
   have hpl : plainS (σ9 a1 a2 xs th k) = true := by
    have hp : ∀ l : List D, plainL (vals l) = true := fun l => by
     induction l with
     | nil => rfl
     | cons x l ih => exact ih
    show (plainL (vals (toldD th k)) && (plainL (vals (dueD th k)) && (true && (true && true)))) = true
    rw [hp, hp]; rfl
   refine ⟨hpl, _, .name (.inl rfl), fun X3 s₃ S3 => ?_⟩
   have hpl3 : plainS (setS (σ9 a1 a2 xs th k) "k" (.val (.int k))) = true := hpl
   have hl := told_len th k
   refine LS.told (n := 33) (who := k % 8) L.Y (bad9 L.E (hg k)) (by omega) (fun B => (hg k).tru) L.gw rfl L.Pb L.lsc hA hO S3 hpl3 (x := "told") (a := a1) (sl := vals (toldD th k)) rfl (by simp [vals]; omega)
    (.subL (ds := xs) (i := k) (.name rfl) (.name rfl) (.list (by exact Int.natCast_nonneg _) (hth k hk) (by omega))) (.to (.bin (.name rfl) .int (.fmod (by decide))) (congrArg D.int (fmod8 k))) rfl rfl rfl (by decide) (fun _ => rfl) (fun _ => rfl) fun X4 s4 t4 S₄ => ?_
   have hpl4 : plainS (setS (setS (σ9 a1 a2 xs th k) "k" (.val (.int k))) "told" (.ownO (some a1) (vals (toldD th k) ++ [.val (headD th k)]))) = true := by
    have hp : ∀ (l : List D) (x : D), plainL (vals l ++ [.val x]) = true := fun l x => by
     induction l with
     | nil => rfl
     | cons x l ih => exact ih
    have hp' : ∀ l : List D, plainL (vals l) = true := fun l => by
     induction l with
     | nil => rfl
     | cons x l ih => exact ih
    show (plainL (vals (toldD th k) ++ [.val (headD th k)]) && (true && (plainL (vals (dueD th k)) && (true && (true && true))))) = true
    rw [hp, hp']; rfl
   refine S₄.tr hpl4 hA hO (turn9 L hk hz hth hg) fun f af X5 ρ5 s5 hf hG t5 S5 => ?_
   obtain ⟨rfl, hs⟩ := hG
   cases hf
   (refine x12 (S5.ent hs) ?_; intro X6 h6 S6)
   refine ⟨rfl, X6, t4.trans (t5.sub' h6), ?_⟩
   erw [List.length_append, hm]
   exact S6
 · simp only [List.length_map, List.length_range] at S1
   have hpl : plainS (σ9 a1 a2 xs th xs.length) = true := by
    have hp : ∀ l : List D, plainL (vals l) = true := fun l => by
     induction l with
     | nil => rfl
     | cons x l ih => exact ih
    show (plainL (vals (toldD th _)) && (plainL (vals (dueD th _)) && (true && (true && true)))) = true
    rw [hp, hp]; rfl
   have hds : ∀ l : List D, Slot.ds (vals l) = l := fun l => by
    induction l with
    | nil => rfl
    | cons x l ih => exact congrArg (x :: ·) ih
   refine S1.tr hpl hA hO (G := fun af _ => af = .ret (.bool true)) (.last (.ret (.cmp (d₁ := .list (toldD th xs.length)) (d₂ := .list (toldD th xs.length)) (.look rfl (congrArg D.list (hds _))) (.look rfl (congrArg D.list ((hds _).trans (told_due th hg _).symm))) (.eqSame (told_sim th _) (by decide))) rfl)) fun f af X5 ρ5 s5 hf hG t5 S5 => ?_
   subst hG
   cases hf with
   | ret r =>
    cases r.inv
    exact ⟨rfl, S5.fm.keep, S5.ps, (mn.trans t₁.mn).trans t5.mn⟩
end
end
section
section
variable {c : Cx} {P na : Addr} {kvs : List (Str × Value)} {ep : Nat} {K : Frag} {env : Env} {A : Around} {X : List Addr} {s s₀ : Shared} {vs : List Value}
theorem lists9 (L : L9 c K P na kvs ep) {xs : List D} {th : Nat -> D} {ρ : Sto} (hρ : ρ = [("words", .val (.list (xs.map wT9))), ("things", .val (.list xs))]) (hz : xs.length <= 100) (hth : ∀ i, i < xs.length -> xs[i]? = some (th i)) (hg : ∀ i, Thg (th i))
 (hA : Room c 39 A) (hO : OwnT c A env (sc09 18) env.cells) (S : LS c (sc09 18) env P X ρ s) (mn : Mn s₀ s) :
 wpAny c.M A (execs ((bd09 18).drop 2) env) (fun f s' => f = .ret (.bool true) /\ Keeps c.base s'.heap /\ PSt P stQual lamPos s'.heap /\ Mn s₀ s') NoE s := by
 subst hρ
 have hn := L.SB.hn
 refine two_lists (n := 39) (x := "told") (y := "due") hn hA S.fm rfl rfl (by intro env h; obtain ⟨sc, _⟩ := env; subst h; rfl) fun a1 a2 X' s' hne n1 n2 e1 e2 t F => ?_
 have hPl : ∃ o, s.heap.get? P = some o := (S.fm.live0 P rfl).1
 have hP1 : ∀ a, s.heap.get? a = none -> a ≠ P := fun a h q => by obtain ⟨o, e⟩ := hPl; rw [<- q, h] at e; cases e
 have hnb : ∀ a, s.heap.get? a = none -> c.base.get? a = none := fun a h => by
  cases e : c.base.get? a with
  | none => rfl
  | some o => have := S.fm.keep _ _ e; rw [h] at this; cases this
 have hps : PSt P stQual lamPos s'.heap := S.ps.stp t S.PX (S.fm.nofieldsP rfl)
 have F1 := F.weakV (V1 := fun b => (b = P \/ b ∈ [a2]) \/ b ∈ [a1]) fun b q => by
  rcases q with (q | q) | q
  · exact .inl q
  · exact .inr (.tail _ q)
  · exact .inr (mSz.mp q ▸ .head _)
 obtain ⟨X1, _, F2⟩ := F1.moveV (x := "told") (sl := .ownO (some a1) []) (V0 := fun b => b = P \/ b ∈ [a2]) rfl (fun v r => by
  cases r.inv
  exact .ownO (fun b q => by cases q; rfl) e1 rfl ⟨rfl, rfl⟩ rfl .nil) (by simp) (fun a ha => by
  rw [mSz.mp ha]
  exact fun q => q.elim (hP1 a1 n1) fun q => hne (mSz.mp q)) fun a ha => by rw [mSz.mp ha]; exact hnb _ n1
 obtain ⟨X2, _, F3⟩ := F2.moveV (x := "due") (sl := .ownO (some a2) []) (V0 := fun b => b = P) rfl (fun v r => by
  cases r.inv
  exact .ownO (fun b q => by cases q; rfl) e2 rfl ⟨rfl, rfl⟩ rfl .nil) (by simp) (fun a ha => by
  rw [mSz.mp ha]
  exact hP1 a2 n2) fun a ha => by rw [mSz.mp ha]; exact hnb _ n2
 (refine x12 (LS.ent (ρ' := σ9 a1 a2 xs th 0) (P := P) ⟨F3, hps⟩ (.cons rfl (.cons rfl (.cons rfl (.cons rfl .nil))))) ?_; intro X3 _ S3)
 exact rest9 L hz hth hg hA hO S3 (mn.trans t.mn)
theorem law09 (L : L9 c K P na kvs ep) {ns : List Int} (hl : ns.length <= 63) (hA : Room c 40 A) (hF : A.frames = some []) (hS : St c (fun a => a = P) s) (hP : PSt P stQual lamPos s.heap) (r : RepL c (fun a => a = P) s [.list (ns.map .int)] vs) :
 wpAny c.M A (call (.ref 220) vs) (fun v s' => v = .bool true /\ Keeps c.base s'.heap /\ PSt P stQual lamPos s'.heap /\ Mn s s') NoE s := by
 have hn := L.SB.hn
 refine fn_enter (n := 39) (Q := fun v s' => v = .bool true /\ Keeps c.base s'.heap /\ PSt P stQual lamPos s'.heap /\ Mn s s') L.law rfl hA hS r fun env X s₁ hf _ g F hO hX => ?_
 have hA1 : Room c 39 (A.deeper env) := hA.deeper env
 have htop := Around.frames_deeper (env := env) hF
 have hOT : OwnT c (A.deeper env) env (sc09 18) env.cells := ⟨hO, fun _ => ⟨htop, hf⟩⟩
 have S1 : LS c (sc09 18) env P X [("script", .val (.list (ns.map .int)))] s₁ := ⟨F.hb0 (Keeps.refl _) (fun b o e => F.keep _ _ (F.base _ _ e)) fun a ha => (by
  cases e : c.base.get? a with
  | none => rfl
  | some o => have := F.base _ _ e; rw [F.new _ ha] at this; cases this), hP.keeps g.keep⟩
 refine wM (Q := fun f s' => f = .ret (.bool true) /\ Keeps c.base s'.heap /\ PSt P stQual lamPos s'.heap /\ Mn s s') (E := NoE) ?_ (fun f s' q _ => by obtain ⟨rfl, q⟩ := q; exact ⟨rfl, q⟩) fun _ _ q => q.elim
 refine S1.sn rfl hA1 hOT (.compM (g := D.int) (ds := [0, 5] ++ ns) (d₀ := .list (([0, 5] ++ ns).map .int)) thD (.bin (.list (ds := [.int 0, .int 5]) (.cons .int (.cons .int .nil)) (by show 2 <= sizeLine; decide)) (.name rfl) (.catL (by simp; omega))) .list (.of .nil rfl) (by simp; exact lt4 (by assumption) rfl)
  (fun x _ => ⟨_, .name (.inl rfl), .call (.glob L.gth rfl) L.TB.ht.callee (.cons (.name rfl) .nil) (thing_fn (n := 37) L.TB)⟩) rfl rfl rfl rfl) fun X2 s2 t₂ S₂ => ?_
 have hz : (([0, 5] ++ ns).map thD).length <= 100 := by simp; exact lt4 (by assumption) rfl
 have hg : ∀ i, Thg (thD (([0, 5] ++ ns).getD i 0)) := fun i => thg _
 have hth : ∀ i, i < (([0, 5] ++ ns).map thD).length -> (([0, 5] ++ ns).map thD)[i]? = some (thD (([0, 5] ++ ns).getD i 0)) := fun i hi => by
  rw [List.length_map] at hi
  erw [List.getElem?_map, List.getD_eq_getElem?_getD, List.getElem?_eq_getElem hi]; rfl
 generalize hxs : ([0, 5] ++ ns).map thD = xs at hz hth S₂
 have hall : ∀ d ∈ xs, Thg d := fun d hd => by
  rw [<- hxs] at hd
  (refine x12 (List.mem_map.mp hd) ?_; rintro x _ rfl)
  exact thg x
 refine words_comp (n := 39) (ds := xs) (r := wT9) hn hA1 hOT S₂.fm rfl hf htop rfl L.Pb S₂.ps (.of .nil rfl) (.name rfl) (by exact lt4 (by assumption) rfl) (fun d hd => ⟨.name (.inl rfl), fun E Vi s4 X4 F4 K4 h1 h2 h3 =>
  words_call (n := 33) (who := 8) L.Y (bad9 L.E (hall d hd)) (by decide) (fun B => (hall d hd).tru) L.gw L.Y.wd.callee rfl (.name rfl) .int rfl rfl hA1 F4 K4 h1 h2 (fun a ha => ?_) h3⟩) (swaps_local rfl rfl rfl rfl env F.scope) (.inl rfl) (fun _ _ => rfl) (fun _ => rfl) (by decide) fun X3 s₃ m₃ F₃ p₃ => ?_
 · rcases mC.mp ha with rfl | ha
   · exact L.Pb
   · rw [frs, List.filterMap_cons, hf] at ha
     rw [mSz.mp ha]
     have hLX : env.locals ∈ X2 := by obtain ⟨_, _, _, h2, _⟩ := S₂.fm.sto; exact h2 ▸ .head _
     exact S₂.fm.new _ hLX
 · (refine x12 (LS.ent (ρ' := [("words", .val (.list (xs.map wT9))), ("things", .val (.list xs))]) (P := P) ⟨F₃, p₃⟩ (.cons rfl (.cons rfl .nil))) ?_; intro X4 _ S₄)
   exact lists9 L rfl hz hth hg hA1 hOT S₄ ((g.mn.trans t₂.mn).trans m₃)
end
end
noncomputable def cut (K : Frag) (P : Addr) : Frag := K.filter fun q => !(q.1 == P)
theorem cut_lookup {P a : Addr} {o : Obj} {K : Frag} (e : (cut K P).lookup a = some o) : a ≠ P /\ K.lookup a = some o := by
 unfold cut at e
 induction K with
 | nil => cases e
 | cons p K ih =>
  obtain ⟨b, x⟩ := p
  rw [List.filter_cons] at e
  rw [List.lookup_cons]
  cases hb : b == P with
  | true =>
   rw [hb, Bool.not_true, if_neg Bool.false_ne_true] at e
   have h := ih e
   refine ⟨h.1, ?_⟩
   erw [show (a == b) = false from beq_eq_false_iff_ne.mpr fun q => h.1 (q.trans (beq_iff_eq.mp hb))]; exact h.2
  | false =>
   rw [hb, Bool.not_false, if_pos rfl, List.lookup_cons] at e
   cases hab : a == b with
   | true => rw [hab] at e; exact ⟨fun q => beq_eq_false_iff_ne.mp hb ((beq_iff_eq.mp hab).symm.trans q), e⟩
   | false => rw [hab] at e; exact ih e
theorem cut_in {K : Frag} {h : Heap} {P : Addr} (X : K.In h) : (cut K P).In (hideAll h [P]) := fun a o e =>
 have q := cut_lookup e
 hideAll_get _ (X a o q.2) fun m => q.1 (mSz.mp m)
theorem Ns_hide {h : Heap} {a P : Addr} {m : Str -> Option Value} {ps : Array Value} (x : h.Ns a m) (hP : h.get? P = some (tabObj ps)) : (hideAll h [P]).Ns a m := by
 (refine x33 x ?_; clear x; intro o es ep ho hd r)
 refine ⟨o, es, ep, hideAll_get _ ho fun q => ?_, hd, r⟩
 rw [mSz.mp q, hP] at ho; cases ho; cases hd
theorem tbl_hide {h : Heap} {P : Addr} {mg : Str -> Option Value} {ps : Array Value} (hb : ∃ bm ob, mg (oS "__builtins__") = some (.ref bm) /\ bm ≠ builtinsNs /\ h.get? bm = some ob /\ ob.cls = .type "module" /\ ob.dict = some builtinsNs /\ ob.data = .plain) (hg : ∃ m, h.Ns mainGlobals m) (hP : h.get? P = some (tabObj ps)) : (hideAll h [P]).BuiltinsAt mg P := by
 (refine x26 hb ?_; clear hb; intro bm ob h1 h2 h3 h4 h5 h6)
 have hne : bm ≠ P := fun q => by rw [q, hP] at h3; cases h3; cases h6
 refine ⟨bm, ob, h1, h2, fun q => ?_, hne, hideAll_get _ h3 fun q => hne (mSz.mp q), h4, h5, h6⟩
 (refine x43 hg ?_; clear hg; intro m o es ep ho hd _)
 rw [q, ho] at h3; cases h3; rw [hd] at h6; cases h6
theorem head_end9 {l : OpenLaw} {w : World} {s₀ s₁ : Shared} {mg mb : Str -> Option Value} {p : Program} {lw : List Str} {mean : ExcName -> Option Value} {R : WRecords} {cl : Str -> Option Addr} {t : Nat} {ns : List Int} {vs : List Value} {a : Addr} {as : List Addr} {lsc : Scope -> Prop} {P cc na : Addr} {K : Frag} {kvs : List (Str × Value)} {ep : Nat}
 (T : Top p lw mean mg mb s₁.heap) (L : Laid R w s₀ s₁ [ofPy (PyData.list (ns.map PyData.int))] [.ref a] as) (hL : s₁.heap.IsList a vs.toArray) (hI : IntsAre vs ns) (hg : s₁.gens = #[]) (ht : s₀.toks = t) (h0 : 0 < t)
 (hP : s₁.heap.get? P = some (tabObj #[])) (hcc : CodeHd (hideAll s₁.heap [P]) cc P) (hPs : P ≠ cStatics) (hn : ns.length <= 63)
 (h : (⟨l.row.prog, w, hideAll s₁.heap [P], mg, mb, lsc, True, True⟩ : Cx).Good -> L9 ⟨l.row.prog, w, hideAll s₁.heap [P], mg, mb, lsc, True, True⟩ K P na kvs ep) :
 wpAny (model l.row.prog w) callerA (call (.ref 220) [.ref a]) (fun v s' => GoodWG l.row.claim cl mean [ofPy (PyData.list (ns.map PyData.int))] s₁ (.ok (.ret v)) s')
  (fun e s' => GoodWG l.row.claim cl mean [ofPy (PyData.list (ns.map PyData.int))] s₁ (.error e) s') s₁ := by
 have htk := Nat.lt_of_lt_of_le h0 (X.script_toks L ht)
 have ho := X.script_obj L hL
 have G : (⟨l.row.prog, w, hideAll s₁.heap [P], mg, mb, lsc, True, True⟩ : Cx).Good := ⟨Ns_hide T.g hP, Ns_hide T.b hP, let ⟨mc, h1, h2⟩ := T.nolimit; ⟨mc, Ns_hide h1 hP, h2⟩⟩
 have L9 := h G
 have haP : a ≠ P := fun q => by rw [q, hP] at ho; cases ho
 refine wM (law09 L9 hn (A := callerA) (s := s₁) (vs := [.ref a]) ⟨fun _ => rfl, by decide, by decide, ⟨_, rfl, fun _ => rfl⟩⟩ rfl ⟨G, fun b o e => of_hideAll _ e, Nat.ne_of_gt htk, fun a q => ⟨_, q ▸ hP⟩⟩ (.miss hP) (.cons (.list haP ho rfl ⟨rfl, rfl⟩ rfl (intsAre_rep hI)) .nil)) (fun v s' q => ?_) fun _ _ q => q.elim
 (refine x04 q ?_; clear q; rintro rfl hk hps mn)
 have hpost : l.row.claim.post [ofPy (PyData.list (ns.map PyData.int))] (WData.bool true) [ofPy (PyData.list (ns.map PyData.int))] = true := by
  show (WShape.has [] (.bool true) .bool && WTm.holds [] (.eq .res (.lit (.bool true))) _) = true
  with_unfolding_all rfl
 have hx : Heap.ExtBut P s₁.heap s'.heap := fun b o hb e => hk b o (hideAll_get _ e fun q => hb (mSz.mp q))
 have c0 : CodeHd s₁.heap cc P := hcc.keeps fun b o e => of_hideAll _ e
 have c1 : CodeHd s'.heap cc P := hcc.keeps hk
 have hold : OldK s₁.heap s'.heap := by
  cases hps with
  | miss h1 => exact (OldK.refl _).step_table (more := #[]) (c0.tab hP) (c0.tab hP) (c1.tab (by simpa using h1)) hx hPs
  | hit c' h1 h2 => exact (OldK.refl _).step_table (more := #[rawInt lamPos.line, rawInt lamPos.col, .ref c']) (c0.tab hP) (c0.tab hP) (c1.tab (by simpa using h1)) hx hPs
 exact ⟨.inl ⟨_, _, _, rfl, fun _ => rfl, .bool true, hpost, fun _ => ⟨.nil, fun _ ha => nomatch ha⟩⟩, hold, mn.os, mn.gens.bare hg⟩
theorem dictAt_K {prog : Program} {w : World} {K : Frag} {h : Heap} {a : Addr} {es : Array DictEntry} {ep : Nat} {kvs : List (Str × Value)} (X : K.In h) (e : K.lookup a = some ⟨.type "dict", none, .dict es ep, #[]⟩) (hk : ∀ e ∈ es.toList, ∃ x t, e.key = .str x t /\ e.hash = hashStr w x)
 (hp : es.toList.map (fun e => ((match e.key with | .str x _ => x | _ => ⟨#[]⟩ : Str), e.val)) = kvs) {ks : List Str} (hks : kvs.map (·.1) = ks) (hnd : ks.Nodup) : h.DictAt (strKind prog w) a kvs ep := by
 refine ⟨_, es, X _ _ e, ⟨rfl, rfl, rfl⟩, rfl, fun e he => ?_, ?_, hks ▸ hnd⟩
 · (refine x22 (hk e (by simpa using he)) ?_; intro x t h1 h2)
   exact ⟨x, by rw [h1]; exact strKind_is _ _ _ _, h2⟩
 · subst hp
   clear hnd e
   generalize es.toList = l at hk
   induction l with
   | nil => exact .nil
   | cons e l ih =>
    (refine x22 (hk e (.head _)) ?_; intro x t h1 h2)
    refine .cons ?_ rfl (ih fun e' he => hk e' (.tail _ he))
    show (strKind prog w).is (match e.key with | .str x _ => x | _ => ⟨#[]⟩) e.key = true
    erw [h1]; exact strKind_is _ _ _ _
noncomputable def lsc09 (s : Scope) : Prop := (s.names.lookup (oS "told")).isSome = true
theorem DefOk.of {sc : Scope} {ps : List String} (kinds : ∀ p ∈ ps, CanStore sc p) (nodup : ps.Nodup) (cnd : ((cellsFrom 0 sc.names []).map (·.1)).Nodup) (co : sc.isCoroutine = false) (gen : sc.isGenerator = false) (kind : sc.kind = .function) (nofree : sc.names.all (fun p => p.2 != .free) = true) : DefOk sc ps :=
 ⟨kinds, nodup, cnd, co, gen, kind, fun x hx => by
  have := List.all_eq_true.mp nofree _ (mem_lookup hx)
  simp at this⟩
section
noncomputable def okSc (sc : Scope) (ps : List String) : Bool :=
 ps.all (fun p => match sc.names.lookup (oS p) with | some .local => true | some .cell => true | _ => false) && (decide ps.Nodup && (decide ((cellsFrom 0 sc.names []).map (·.1)).Nodup && (!sc.isCoroutine && (!sc.isGenerator && ((match sc.kind with | .function => true | _ => false) && sc.names.all (fun p => p.2 != .free))))))
theorem canStore_of {o : Option NameKind} (h : (match o with | some .local => true | some .cell => true | _ => false) = true) : o = some .local \/ o = some .cell := by
 cases o with
 | none => cases h
 | some k => cases k <;> first | exact .inl rfl | exact .inr rfl | cases h
theorem kind_of {k : ScopeKind} (h : (match k with | .function => true | _ => false) = true) : k = .function := by cases k <;> first | rfl | cases h
theorem okSc.d {sc : Scope} {ps : List String} (h : okSc sc ps = true) : DefOk sc ps :=
 have h1 := Bool.and_eq_true_iff.mp h
 have h2 := Bool.and_eq_true_iff.mp h1.2
 have h3 := Bool.and_eq_true_iff.mp h2.2
 have h4 := Bool.and_eq_true_iff.mp h3.2
 have h5 := Bool.and_eq_true_iff.mp h4.2
 have h6 := Bool.and_eq_true_iff.mp h5.2
 .of (fun p hp => canStore_of (List.all_eq_true.mp h1.1 p hp)) (of_decide_eq_true h2.1) (of_decide_eq_true h3.1) (Bool.not_eq_true' _ ▸ h4.1) (Bool.not_eq_true' _ ▸ h5.1) (kind_of h6.1) h6.2
section
variable {c : Cx} {K : Frag} {a : Addr} {sc : Scope} {ps : List String} {body : List Stmt} {oc : Value} {od : Option Addr} {fd : FuncData} {osl : Array (Option Value)} {args : Args} {vs : List Value}
noncomputable def fnO (K : Frag) (a : Addr) : Option FuncData := (K.lookup a).bind fun o => match o.data with | .func fd => some fd | _ => none
theorem fnO_at {h : Heap} (X : K.In h) (e : fnO K a = some fd) : ∃ o, h.get? a = some o /\ o.data = .func fd := by
 obtain ⟨o, h1, h2⟩ := Option.bind_eq_some_iff.mp e
 refine ⟨o, X _ _ h1, ?_⟩
 cases hd : o.data <;> rw [hd] at h2 <;> first | (cases h2; rfl) | cases h2
theorem fnO_ex {h : Heap} (X : K.In h) (e : (fnO K a).isSome = true) : ∃ o fd, h.get? a = some o /\ o.data = .func fd :=
 let ⟨fd, q⟩ := Option.isSome_iff_exists.mp e; let ⟨o, h1, h2⟩ := fnO_at X q; ⟨o, fd, h1, h2⟩
theorem calleeO (X : K.In c.base) (e : (fnO K a).isSome = true) : Callee c (.ref a) := let ⟨_, _, h1, h2⟩ := fnO_ex X e; .func h1 h2
theorem fnO_map {α : Type} {g : FuncData -> α} {v : α} (e : fnO K a = some fd) (h : (fnO K a).map g = some v) : g fd = v := by rw [e] at h; exact Option.some.inj h
theorem fnO_code {v : Value} {q : Str} (e : fnO K a = some fd) (h : (fnO K a).map (fun fd => (fd.code, fd.qualname)) = some (v, q)) : fd.code = v /\ fd.qualname = q := Prod.mk.inj (fnO_map e h)
theorem binds_of {s : Shared} {bs : List (Str × Value)} (e : fnO K a = some fd) (X : K.In c.base) (hk : Keeps c.base s.heap) (hq : ∀ S, (fnO K a).map (fun fd => peek K S (bindArgs fd args)) = some (some bs)) : BindsTo s fd args bs :=
 kp_binds (X.keeps hk) fun S => fnO_map (g := fun fd => peek K S (bindArgs fd args)) e (hq S)
theorem DefX.chk {bd : FuncData -> Prop} (X : K.In c.base) (h : (fnO K a).map (fun fd => (fd.body, fd.scope, fd.closure, fd.globals, fd.builtins, codeIn K fd.code fd.qualname)) = some (.stmts body, sc, [], mainGlobals, builtinsNs, true)) (hb : ∀ fd, fnO K a = some fd -> bd fd) : DefX c a sc body bd := by
 obtain ⟨fd, e, q⟩ := Option.map_eq_some_iff.mp h
 obtain ⟨o, h1, h2⟩ := fnO_at X e
 obtain ⟨q1, q⟩ := Prod.mk.inj q
 obtain ⟨q2, q⟩ := Prod.mk.inj q
 obtain ⟨q3, q⟩ := Prod.mk.inj q
 obtain ⟨q4, q⟩ := Prod.mk.inj q
 obtain ⟨q5, q6⟩ := Prod.mk.inj q
 exact ⟨o, fd, h1, h2, q1, q2, q3, q4, q5, codeRec_of X q6, hb fd e⟩
theorem IsDefL.chk (X : K.In c.base) (h : (fnO K a).map (fun fd => (fd.body, fd.scope, fd.closure, fd.globals, fd.builtins, codeIn K fd.code fd.qualname)) = some (.stmts body, sc, [], mainGlobals, builtinsNs, true))
 (hq : ∀ vs : List Value, vs.length = ps.length -> (fnO K a).map (fun fd => bindArgs fd ⟨vs, []⟩) = some (pure (bindsOf ps vs))) (ok : okSc sc ps = true) : IsDefL c a sc ps body :=
 ⟨okSc.d ok, .chk X h fun fd e vs hl => fnO_map (g := fun fd => bindArgs fd ⟨vs, []⟩) e (hq vs hl)⟩
theorem IsDefB.chk (X : K.In c.base) (h : (fnO K a).map (fun fd => (fd.body, fd.scope, fd.closure, fd.globals, fd.builtins, codeIn K fd.code fd.qualname)) = some (.stmts body, sc, [], mainGlobals, builtinsNs, true))
 (hq : ∀ S, (fnO K a).map (fun fd => peek K S (bindArgs fd args)) = some (some (bindsOf ps vs))) (ok : okSc sc ps = true) : IsDefB c a sc ps body args vs :=
 ⟨okSc.d ok, .chk X h fun fd e s hk => binds_of e X hk hq⟩
theorem len_s {P : List Value -> Prop} {n : Nat} (h : ∀ v vs, vs.length = n -> P (v :: vs)) : ∀ vs : List Value, vs.length = n + 1 -> P vs
 | v :: vs, hl => h v vs (Nat.succ.inj hl)
theorem len_z {P : List Value -> Prop} (h : P []) (vs : List Value) (hl : vs.length = 0) : P vs := List.eq_nil_of_length_eq_zero hl ▸ h
theorem one_of {P : List Value -> Prop} (h : ∀ v, P [v]) : ∀ vs : List Value, vs.length = 1 -> P vs := len_s fun v => len_z (P := fun vs => P (v :: vs)) (h v)
theorem two_of {P : List Value -> Prop} (h : ∀ v w, P [v, w]) : ∀ vs : List Value, vs.length = 2 -> P vs := len_s fun v => one_of (P := fun vs => P (v :: vs)) (h v)
theorem three_of {P : List Value -> Prop} (h : ∀ v w x, P [v, w, x]) : ∀ vs : List Value, vs.length = 3 -> P vs := len_s fun v => two_of (P := fun vs => P (v :: vs)) (h v)
theorem four_of {P : List Value -> Prop} (h : ∀ v w x y, P [v, w, x, y]) : ∀ vs : List Value, vs.length = 4 -> P vs := len_s fun v => three_of (P := fun vs => P (v :: vs)) (h v)
end
theorem isNN {o : Option (Option Value)} (h : (match o with | some none => true | _ => false) = true) : o = some none := by
 cases o with
 | none => cases h
 | some x => cases x <;> first | rfl | cases h
theorem all_nn {l : List String} {f : String -> Option (Option Value)} (h : (l.all fun y => match f y with | some none => true | _ => false) = true) : ∀ y ∈ l, f y = some none := fun y hy => isNN (List.all_eq_true.mp h y hy)
noncomputable abbrev K09 (w : World) : Frag := cut (hd.heap_193 w.params) 144
set_option maxHeartbeats 8000000 in
theorem facts09 {w : World} {s₁ : Shared} {mg mb : Str -> Option Value} {p : Program} {lw : List Str} {mean : ExcName -> Option Value} (T : Top p lw mean mg mb s₁.heap) (KX : (hd.heap_193 w.params).In s₁.heap) :
 CodeHd (hideAll s₁.heap [144]) 146 144 /\ ∃ kvs ep, L9 ⟨PySem.Challenge.rw_dn0276_09.row.prog, w, hideAll s₁.heap [144], mg, mb, lsc09, True, True⟩ (K09 w) 144 44 kvs ep := by
 let c : Cx := ⟨PySem.Challenge.rw_dn0276_09.row.prog, w, hideAll s₁.heap [144], mg, mb, lsc09, True, True⟩
 have X0 : (K09 w).In (hideAll s₁.heap [144]) := cut_in KX
 have hfl : ∀ y ∈ initNames, findIn (K09 w) (.ref 171) (oS y) = some none := all_nn (by kernel_rfl)
 have hOK : ClsOk (K09 w) 171 := ⟨rfl, rfl, rfl, rfl, rfl⟩
 have hBt : (hideAll s₁.heap [144]).BuiltinsAt mg 144 := tbl_hide T.bmain ⟨_, T.g⟩ (KX _ _ rfl)
 have hcc : CodeHd (hideAll s₁.heap [144]) 146 144 := ⟨_, _, _, _, _, _, _, _, _, X0 _ _ rfl, rfl, rfl, rfl, rfl, rfl, rfl, rfl, rfl, by decide⟩
 have SS : SFs c (K09 w) 144 := by
  intro B k
  have X : (K09 w).In B := X0.keeps k
  exact {
   hn := trivial
   XK := X
   OK := hOK
   flds := hfl
   iter := ⟨rfl, rfl⟩
   gen := ⟨DefX.chk X (by kernel_rfl) fun fd e s v w hk => binds_of e X hk fun S => by kernel_rfl, rfl, rfl, rfl, rfl, rfl, rfl, rfl⟩
   cal := (calleeO X (by kernel_rfl))
   q := two_of fun v w => IsDefB.chk X (by kernel_rfl) (fun S => by kernel_rfl) (by kernel_rfl)
   qnl := (by show ¬ (_ = true); decide)
   qm := ⟨rfl, rfl⟩
   qget := rfl
   qtk := rfl
   qfd := fnO_ex X (by kernel_rfl)
   set := (blt_of KX T rfl (by decide +kernel) (by decide))
   sorted := (blt_of KX T rfl (by decide +kernel) (by decide))
   code := hcc.keeps k
   kcode := rfl
   B := BuiltinsAt_keeps hBt k
   esc := (mg_of KX T.g rfl)
   escC := (calleeO X (by kernel_rfl))
   st := four_of fun v w x y => DefX.chk X (by kernel_rfl) fun fd e => ⟨fun s hk => binds_of e X hk fun S => by kernel_rfl, fnO_code e (by kernel_rfl)⟩
   stO := okSc.d (by kernel_rfl)
   stN := (by show ¬ (_ = true); decide)
   stM := ⟨rfl, rfl⟩
   stC := (calleeO X (by kernel_rfl))
   sm := ⟨(IsDefL.chk X (by kernel_rfl) (three_of fun v w x => by kernel_rfl) (by kernel_rfl)), (by show ¬ (_ = true); decide)⟩
   smM := ⟨rfl, rfl⟩
   smC := (calleeO X (by kernel_rfl))
   cm := ⟨(IsDefL.chk X (by kernel_rfl) (two_of fun v w => by kernel_rfl) (by kernel_rfl)), (by show ¬ (_ = true); decide)⟩
   cmM := ⟨rfl, rfl⟩
   cmC := (calleeO X (by kernel_rfl))
   pm := ⟨(IsDefL.chk X (by kernel_rfl) (three_of fun v w x => by kernel_rfl) (by kernel_rfl)), (by show ¬ (_ = true); decide)⟩
   pmM := ⟨rfl, rfl⟩
   pmC := (calleeO X (by kernel_rfl))
   cd := (mg_of KX T.g rfl)
   cdC := (calleeO X (by kernel_rfl)) }
 have hD := dictAt_K (prog := PySem.Challenge.rw_dn0276_09.row.prog) (w := w) (a := 44) X0 rfl (by
  intro e he
  simp only [mC, List.not_mem_nil, or_false] at he
  rcases he with rfl | rfl | rfl | rfl | rfl | rfl | rfl <;> exact ⟨_, _, rfl, rfl⟩) rfl (ks := ["http://www.w3.org/XML/1998/namespace", "http://www.w3.org/1999/xhtml", "http://www.w3.org/1999/02/22-rdf-syntax-ns#", "http://schemas.xmlsoap.org/wsdl/", "http://www.w3.org/2001/XMLSchema", "http://www.w3.org/2001/XMLSchema-instance", "http://purl.org/dc/elements/1.1/"].map oS) (by rfl) (by decide +kernel)
 obtain ⟨kvs, ep, hD, hkl⟩ : ∃ kvs ep, (hideAll s₁.heap [144]).DictAt (strKind PySem.Challenge.rw_dn0276_09.row.prog w) 44 kvs ep /\ kvs.length <= 100 := ⟨_, _, hD, by simp⟩
 have KY : KC c (K09 w) 171 88 44 kvs ep := ⟨trivial, X0, hOK, hfl, rfl, rfl, rfl, rfl, (by show ¬ (_ = true); decide), fun xa ba => IsDefB.chk X0 (by kernel_rfl) (fun S => by kernel_rfl) (by kernel_rfl), (mg_of KX T.g rfl), hD, hkl, by decide, (blt_of KX T rfl (by decide +kernel) (by decide))⟩
 have E9 : ∀ B, Keeps (hideAll s₁.heap [144]) B -> Esc (c.at B) := by
  intro B k
  have X : (K09 w).In B := X0.keeps k
  exact ⟨trivial, trivial, ⟨(blt_of KX T rfl (by decide +kernel) (by decide)), (blt_of KX T rfl (by decide +kernel) (by decide)), (blt_of KX T rfl (by decide +kernel) (by decide)), (IsDefL.chk X (by kernel_rfl) (one_of fun v => by kernel_rfl) (by kernel_rfl)), (calleeO X (by kernel_rfl)), (mg_of KX T.g rfl)⟩, (IsDefL.chk X (by kernel_rfl) (one_of fun v => by kernel_rfl) (by kernel_rfl)), (IsDefL.chk X (by kernel_rfl) (one_of fun v => by kernel_rfl) (by kernel_rfl)), (IsDefL.chk X (by kernel_rfl) (one_of fun v => by kernel_rfl) (by kernel_rfl)), (IsDefL.chk X (by kernel_rfl) (one_of fun v => by kernel_rfl) (by kernel_rfl)), (IsDefL.chk X (by kernel_rfl) (one_of fun v => by kernel_rfl) (by kernel_rfl))⟩
 refine ⟨hcc, kvs, ep, ?_⟩
 show L9 c _ 144 44 kvs ep
 exact ⟨⟨SS, KY, (mg_of KX T.g rfl), (mg_of KX T.g rfl), (mg_of KX T.g rfl), (mg_of KX T.g rfl), (mg_of KX T.g rfl), (calleeO X0 (by kernel_rfl)), (calleeO X0 (by kernel_rfl)), (calleeO X0 (by kernel_rfl)), (calleeO X0 (by kernel_rfl)), (blt_of KX T rfl (by decide +kernel) (by decide)), (blt_of KX T rfl (by decide +kernel) (by decide)), ⟨(IsDefL.chk X0 (by kernel_rfl) (two_of fun v w => by kernel_rfl) (by kernel_rfl)), (by show ¬ (_ = true); decide)⟩⟩, E9, (by show _ = true; decide), (IsDefL.chk X0 (by kernel_rfl) (one_of fun v => by kernel_rfl) (by kernel_rfl)), ⟨trivial, (blt_of KX T rfl (by decide +kernel) (by decide)), ⟨(IsDefL.chk X0 (by kernel_rfl) (one_of fun v => by kernel_rfl) (by kernel_rfl)), (by show ¬ (_ = true); decide)⟩, (mg_of KX T.g rfl), ⟨(IsDefL.chk X0 (by kernel_rfl) (one_of fun v => by kernel_rfl) (by kernel_rfl)), (by show ¬ (_ = true); decide)⟩⟩, ⟨trivial, (blt_of KX T rfl (by decide +kernel) (by decide)), (blt_of KX T rfl (by decide +kernel) (by decide)), (blt_of KX T rfl (by decide +kernel) (by decide)), (blt_of KX T rfl (by decide +kernel) (by decide)), (blt_of KX T rfl (by decide +kernel) (by decide)), (blt_of KX T rfl (by decide +kernel) (by decide)), (blt_of KX T rfl (by decide +kernel) (by decide)), ⟨(IsDefL.chk X0 (by kernel_rfl) (two_of fun v w => by kernel_rfl) (by kernel_rfl)), (by show ¬ (_ = true); decide)⟩, (mg_of KX T.g rfl)⟩, (mg_of KX T.g rfl), (mg_of KX T.g rfl), (blt_of KX T rfl (by decide +kernel) (by decide)), (hideAll_none _ (.head _))⟩
end
end Mine
set_option maxRecDepth 100000
set_option maxHeartbeats 8000000 in
theorem PySem.Challenge.cw_dn0276_09_holds : PySem.Challenge.rw_dn0276_09.Holds := by
 refine Mine.hd ?_
 k_fill
 intro w s₀ s₁ mg mb G y fa o pm cd doc dV kV ho hd hcd hD hmg hg args vals as L hpre hlay hrd hwl hlo
 z_open y L KX ZH ZN ZT
 refine Ground.open G ?_
 intro T B D TE TW
 wrow_args hpre hlay hrd hwl hlo
 have hfa : fa = 220 := by
  have := (mg_of (n := Str.ofString "law") (v := .ref 220) KX T.g rfl).symm.trans hmg
  injection this with this
  injection this with this
  exact this.symm
 subst hfa
 obtain ⟨hcc, kvs, ep, L9⟩ := Mine.facts09 T KX
 refine Mine.head_end9 (lsc := Mine.lsc09) (P := 144) (cc := 146) (na := 44) (kvs := kvs) (ep := ep) (K := Mine.K09 w) T L (by assumption) (by assumption) hg ZT (by decide) (KX _ _ rfl) hcc (by decide) (by omega) fun _ => L9
