import PyProof.Rows.All
import Wide.All
import OpenK.AllK
import Wide.FinOn
import Lean
import PySem.Challenge.RW_ta0020_01

noncomputable section E1
open PySem PySem.Calls PyProof.Rows
set_option Elab.async false
set_option linter.unusedVariables false
namespace Mine

/-- data trees -/
inductive D where
  | none
  | bool (b : Bool)
  | int (i : Int)
  | str (s : Str)
  | list (xs : List D)
  | tuple (xs : List D)
  | intT (i : Int) (P : Tok → Prop)
  | strT (s : Str) (P : Tok → Prop)

mutual
/-- the value stands for the datum in the heap, by objects that do not lie in X -/
noncomputable def Rep (X : List Addr) (h : Heap) : D → Value → Prop
  | .none, v => v = .none
  | .bool b, v => v = .bool b
  | .int i, v => ∃ t, v = .int i t
  | .str x, v => ∃ t, v = .str x t
  | .intT i P, v => ∃ t, v = .int i t ∧ P t
  | .strT i P, v => ∃ t, v = .str i t ∧ P t
  | .list xs, v => ∃ a vs, v = .ref a ∧ a ∉ X ∧ h.IsList a vs ∧ RepAll X h xs vs.toList
  | .tuple xs, v => ∃ a vs, v = .ref a ∧ a ∉ X ∧ h.IsTuple a vs ∧ RepAll X h xs vs.toList
noncomputable def RepAll (X : List Addr) (h : Heap) : List D → List Value → Prop
  | [], vs => vs = []
  | d :: ds, vs => ∃ v r, vs = v :: r ∧ Rep X h d v ∧ RepAll X h ds r
end

section
variable {X Y : List Addr} {h h' : Heap}
mutual
theorem Rep.move (hk : ∀ a o, a ∉ X → h.get? a = some o → h'.get? a = some o) (hy : ∀ a ∈ Y, a ∈ X ∨ h.get? a = none) : ∀ {d : D} {v : Value}, Rep X h d v → Rep Y h' d v
  | .none, _, r => by simp only [Rep] at r ⊢; exact r
  | .bool _, _, r => by simp only [Rep] at r ⊢; exact r
  | .int _, _, r => by simp only [Rep] at r ⊢; exact r
  | .str _, _, r => by simp only [Rep] at r ⊢; exact r
  | .intT _ _, _, r => by simp only [Rep] at r ⊢; exact r
  | .strT _ _, _, r => by simp only [Rep] at r ⊢; exact r
  | .list xs, _, r => by
    simp only [Rep] at r ⊢
    obtain ⟨a, vs, e, hx, hl, ra⟩ := r
    refine ⟨a, vs, e, fun hm => ?_, ?_, RepAll.move hk hy ra⟩
    · rcases hy a hm with q | q
      · exact hx q
      · obtain ⟨o, ho, _⟩ := hl; rw [q] at ho; cases ho
    · obtain ⟨o, ho, q⟩ := hl; exact ⟨o, hk a o hx ho, q⟩
  | .tuple xs, _, r => by
    simp only [Rep] at r ⊢
    obtain ⟨a, vs, e, hx, hl, ra⟩ := r
    refine ⟨a, vs, e, fun hm => ?_, ?_, RepAll.move hk hy ra⟩
    · rcases hy a hm with q | q
      · exact hx q
      · obtain ⟨o, ho, _⟩ := hl; rw [q] at ho; cases ho
    · obtain ⟨o, ho, q⟩ := hl; exact ⟨o, hk a o hx ho, q⟩
theorem RepAll.move (hk : ∀ a o, a ∉ X → h.get? a = some o → h'.get? a = some o) (hy : ∀ a ∈ Y, a ∈ X ∨ h.get? a = none) : ∀ {ds : List D} {vs : List Value}, RepAll X h ds vs → RepAll Y h' ds vs
  | [], _, r => by simp only [RepAll] at r ⊢; exact r
  | d :: ds, _, r => by
    simp only [RepAll] at r ⊢
    obtain ⟨v, q, e, h1, h2⟩ := r
    exact ⟨v, q, e, Rep.move hk hy h1, RepAll.move hk hy h2⟩
end
theorem Rep.grow {d : D} {v : Value} (r : Rep X h d v) (hk : ∀ a o, h.get? a = some o → h'.get? a = some o) : Rep X h' d v := Rep.move (fun a o _ e => hk a o e) (fun _ q => .inl q) r
theorem RepAll.grow {d : List D} {v : List Value} (r : RepAll X h d v) (hk : ∀ a o, h.get? a = some o → h'.get? a = some o) : RepAll X h' d v := RepAll.move (fun a o _ e => hk a o e) (fun _ q => .inl q) r
theorem Rep.sub {d : D} {v : Value} (r : Rep X h d v) (hy : ∀ a ∈ Y, a ∈ X) : Rep Y h d v := Rep.move (fun _ _ _ e => e) (fun a q => .inl (hy a q)) r
theorem RepAll.sub {d : List D} {v : List Value} (r : RepAll X h d v) (hy : ∀ a ∈ Y, a ∈ X) : RepAll Y h d v := RepAll.move (fun _ _ _ e => e) (fun a q => .inl (hy a q)) r

theorem RepAll.length : ∀ {ds : List D} {vs : List Value}, RepAll X h ds vs → vs.length = ds.length
  | [], _, r => by simp only [RepAll] at r; subst r; rfl
  | d :: ds, _, r => by
    simp only [RepAll] at r
    obtain ⟨v, q, rfl, _, h2⟩ := r
    rw [List.length_cons, List.length_cons, RepAll.length h2]
theorem RepAll.get : ∀ {ds : List D} {vs : List Value} (i : Nat) {d : D}, RepAll X h ds vs → ds[i]? = some d → ∃ v, vs[i]? = some v ∧ Rep X h d v
  | [], _, _, _, _, e => by simp at e
  | d :: ds, _, i, d', r, e => by
    simp only [RepAll] at r
    obtain ⟨v, q, rfl, h1, h2⟩ := r
    cases i with
    | zero => simp at e; subst e; exact ⟨v, rfl, h1⟩
    | succ i => simp at e; obtain ⟨w, hw, hr⟩ := RepAll.get i h2 e; exact ⟨w, by simpa using hw, hr⟩
theorem RepAll.get' {ds : List D} {vs : List Value} (i : Nat) {v : Value} (r : RepAll X h ds vs) (e : vs[i]? = some v) : ∃ d, ds[i]? = some d ∧ Rep X h d v := by
  have hl := r.length
  have hi : i < ds.length := by
    rw [← hl]
    exact (List.getElem?_eq_some_iff.mp e).1
  obtain ⟨w, hw, hr⟩ := RepAll.get i r (List.getElem?_eq_getElem hi)
  rw [e] at hw; cases hw
  exact ⟨_, List.getElem?_eq_getElem hi, hr⟩
theorem RepAll.append : ∀ {ds es : List D} {vs ws : List Value}, RepAll X h ds vs → RepAll X h es ws → RepAll X h (ds ++ es) (vs ++ ws)
  | [], _, _, _, r, q => by simp only [RepAll] at r; subst r; exact q
  | d :: ds, _, _, _, r, q => by
    simp only [RepAll] at r
    obtain ⟨v, t, rfl, h1, h2⟩ := r
    simp only [List.cons_append, RepAll]
    exact ⟨v, _, rfl, h1, RepAll.append h2 q⟩
theorem RepAll.nil : RepAll X h [] [] := by simp only [RepAll]
theorem RepAll.cons {d : D} {ds : List D} {v : Value} {vs : List Value} (r : Rep X h d v) (q : RepAll X h ds vs) : RepAll X h (d :: ds) (v :: vs) := by
  simp only [RepAll]; exact ⟨v, vs, rfl, r, q⟩
theorem RepAll.one {d : D} {v : Value} (r : Rep X h d v) : RepAll X h [d] [v] := .cons r .nil
theorem RepAll.ofGet : ∀ {ds : List D} {vs : List Value}, vs.length = ds.length → (∀ (i : Nat) d v, ds[i]? = some d → vs[i]? = some v → Rep X h d v) → RepAll X h ds vs
  | [], vs, hl, _ => by
    have : vs = [] := List.eq_nil_of_length_eq_zero hl
    subst this; exact .nil
  | d :: ds, [], hl, _ => by simp at hl
  | d :: ds, v :: vs, hl, hg => .cons (hg 0 d v rfl rfl) (RepAll.ofGet (by simpa using hl) fun i d' v' h1 h2 => hg (i + 1) d' v' (by simpa using h1) (by simpa using h2))
end

/-- the state moves: outside X every object stands as it stood -/
structure St (X : List Addr) (s s' : Shared) : Prop where
  drawn : s'.drawn = s.drawn
  os : s'.os = s.os
  toks : s.toks ≤ s'.toks
  gens : ∃ l : List GenState, s'.gens = s.gens ++ l.toArray ∧ ∀ g ∈ l, g.bare = true
  heap : ∀ b o, b ∉ X → s.heap.get? b = some o → s'.heap.get? b = some o
  alive : ∀ b o, s.heap.get? b = some o → ∃ o', s'.heap.get? b = some o'

namespace St
variable {X Y : List Addr} {s s' s'' : Shared}
theorem refl : St X s s := ⟨rfl, rfl, Nat.le_refl _, ⟨[], by simp, fun _ h => nomatch h⟩, fun _ _ _ e => e, fun _ o e => ⟨o, e⟩⟩
theorem of {h' : Heap} {tk : Nat} (hk : ∀ b o, s.heap.get? b = some o → h'.get? b = some o) (hn : s.toks ≤ tk := by first | exact Nat.le_refl _ | exact Nat.le_succ _ | omega | (dsimp only; omega)) : St X s { s with heap := h', toks := tk } :=
  ⟨rfl, rfl, hn, ⟨[], by simp, fun _ h => nomatch h⟩, fun b o _ e => hk b o e, fun b o e => ⟨o, hk b o e⟩⟩
theorem trans (a : St X s s') (b : St X s' s'') : St X s s'' := by
  obtain ⟨l, h1, h2⟩ := a.gens
  obtain ⟨l', h3, h4⟩ := b.gens
  refine ⟨b.drawn.trans a.drawn, b.os.trans a.os, Nat.le_trans a.toks b.toks, ⟨l ++ l', ?_, fun g hg => ?_⟩, fun x o hx e => b.heap x o hx (a.heap x o hx e), fun x o e => ?_⟩
  · rw [h3, h1]; simp
  · rcases List.mem_append.mp hg with q | q
    · exact h2 g q
    · exact h4 g q
  · obtain ⟨o', e'⟩ := a.alive x o e
    exact b.alive x o' e'
theorem trans' (a : St X s s') (b : St Y s' s'') (hy : ∀ c ∈ Y, c ∈ X ∨ s.heap.get? c = Option.none) : St X s s'' := by
  obtain ⟨l, h1, h2⟩ := a.gens
  obtain ⟨l', h3, h4⟩ := b.gens
  refine ⟨b.drawn.trans a.drawn, b.os.trans a.os, Nat.le_trans a.toks b.toks, ⟨l ++ l', ?_, fun g hg => ?_⟩, fun x o hx e => b.heap x o (fun q => ?_) (a.heap x o hx e), fun x o e => ?_⟩
  · rw [h3, h1]; simp
  · rcases List.mem_append.mp hg with q | q
    · exact h2 g q
    · exact h4 g q
  · rcases hy x q with q | q
    · exact hx q
    · rw [q] at e; cases e
  · obtain ⟨o', e'⟩ := a.alive x o e
    exact b.alive x o' e'
theorem mono (a : St X s s') (h : ∀ b ∈ X, b ∈ Y) : St Y s s' := ⟨a.drawn, a.os, a.toks, a.gens, fun b o hb e => a.heap b o (fun q => hb (h b q)) e, a.alive⟩
theorem up (a : St [] s s') : St X s s' := a.mono fun _ h => nomatch h
theorem keep (a : St [] s s') : ∀ b o, s.heap.get? b = some o → s'.heap.get? b = some o := fun b o e => a.heap b o (fun h => nomatch h) e
theorem same {c : Addr} {h' : Heap} {tk : Nat} {o o' : Obj} (hs : Heap.SameBut c s.heap h') (ho : s.heap.get? c = some o) (ho' : h'.get? c = some o') (hc : c ∈ X) (hn : s.toks ≤ tk := by first | exact Nat.le_refl _ | exact Nat.le_succ _ | omega | (dsimp only; omega)) : St X s { s with heap := h', toks := tk } :=
  ⟨rfl, rfl, hn, ⟨[], by simp, fun _ h => nomatch h⟩, fun b o hb e => hs.extBut b o (fun q => hb (by rw [show b = c from q]; exact hc)) e,
   fun b o₁ e => by
    by_cases q : b = c
    · subst q; exact ⟨o', ho'⟩
    · exact ⟨o₁, hs.extBut b o₁ q e⟩⟩
end St

/-- a frame: its environment, the state that it was entered with, the addresses that turn without it -/
structure Gd where
  prog : Program
  w : World
  hb : Heap
  tk : Nat
structure Fm where
  env : Env
  s0 : Shared
  cf : List Str

inductive Slot where
  | val (d : D)
  | own (p : Bool) (xs : List D)
  | raw (u : Value)
noncomputable abbrev Sg := List (Str × Slot)
noncomputable abbrev Os := List (Str × Addr)

noncomputable def Gd.In (G : Gd) (s : Shared) : Prop := (∀ b o, G.hb.get? b = some o → s.heap.get? b = some o) ∧ G.tk ≤ s.toks
noncomputable abbrev Gd.M (G : Gd) : Model := model G.prog G.w
/-- what turns around the frame; data that others hold -/
structure Ou where
  xs : List Addr
  gh : List (D × Value)
/-- what the frame itself turns -/
noncomputable def Fm.Y (F : Fm) (os : Os) : List Addr := F.env.locals :: ((F.env.cells.filter fun p => F.cf.contains p.1).map (·.2) ++ os.map (·.2))
/-- the same, and the cells of those around that it reads -/
noncomputable def Fm.Z (F : Fm) (os : Os) : List Addr := F.env.locals :: (F.env.cells.map (·.2) ++ os.map (·.2))
noncomputable def Fm.X (F : Fm) (Xo : Ou) (os : Os) : List Addr := F.env.locals :: (F.env.cells.map (·.2) ++ os.map (·.2) ++ Xo.xs)

noncomputable def VarAt (h : Heap) (env : Env) (x : Str) (v : Value) : Prop :=
  match env.scope.names.lookup x with
  | some .local => ∃ m, h.Ns env.locals m ∧ m x = some v
  | some .cell => ∃ c, env.cells.lookup x = some c ∧ h.IsCell c (some v)
  | _ => False

noncomputable def SlotAt (h : Heap) (X : List Addr) (os : Os) (x : Str) : Slot → Value → Prop
  | .val d, v => Rep X h d v
  | .own p xs, v => ∃ a vs, os.lookup x = some a ∧ v = .ref a ∧ h.IsList a vs ∧ (p = true → h.PlainList a vs) ∧ RepAll X h xs vs.toList
  | .raw u, v => v = u

structure Inv (G : Gd) (κ : Scope) (F : Fm) (σ : Sg) (Xo : Ou) (os : Os) (s : Shared) : Prop where
  scope : F.env.scope = κ
  kind : κ.kind = .function
  glob : F.env.globals = mainGlobals
  bi : F.env.builtins = builtinsNs
  base : ∀ b o, G.hb.get? b = some o → F.s0.heap.get? b = some o
  tk : G.tk ≤ F.s0.toks
  st : St [] F.s0 s
  Lnew : F.s0.heap.get? F.env.locals = none
  osnew : ∀ p ∈ os, F.s0.heap.get? p.2 = none
  cfnew : ∀ x ∈ F.cf, ∃ c, F.env.cells.lookup x = some c ∧ F.s0.heap.get? c = none
  live : ∀ b ∈ F.X Xo os, ∃ o, s.heap.get? b = some o
  ns : ∃ m, s.heap.Ns F.env.locals m
  cells : ∀ x c, F.env.cells.lookup x = some c → (∃ ov, s.heap.IsCell c ov) ∧ c ≠ F.env.locals
  cellinj : ∀ x y c, F.env.cells.lookup x = some c → F.env.cells.lookup y = some c → x = y
  ossep : os.Pairwise fun x y => x.2 ≠ y.2
  osoff : ∀ p ∈ os, p.2 ≠ F.env.locals ∧ ∀ c ∈ F.env.cells.map (·.2), p.2 ≠ c
  osout : ∀ p ∈ os, p.2 ∉ Xo.xs
  ghost : ∀ p ∈ Xo.gh, Rep (F.X Xo os) s.heap p.1 p.2
  var : ∀ x sl, σ.lookup x = some sl → ∃ v, VarAt s.heap F.env x v ∧ SlotAt s.heap (F.X Xo os) os x sl v

structure Room (k : Nat) (A : Around) : Prop where
  handled : A.handled = none
  depth : A.depth + k < recursionLimit
  units : A.units + 200 + 10 * k < cLine
theorem Room.le {k k' : Nat} {A : Around} (r : Room k A) (h : k' ≤ k) : Room k' A := ⟨r.handled, by have := r.depth; omega, by have := r.units; omega⟩

section
variable {G : Gd} {κ : Scope} {F : Fm} {σ σ' : Sg} {Xo : Ou} {os : Os} {s s' : Shared}
theorem VarAt.grow {h h' : Heap} {env : Env} {x : Str} {v : Value} (r : VarAt h env x v) (hk : ∀ b o, h.get? b = some o → h'.get? b = some o) : VarAt h' env x v := by
  unfold VarAt at r ⊢
  split at r
  · obtain ⟨m, hn, hm⟩ := r; exact ⟨m, hn.keeps hk, hm⟩
  · obtain ⟨c, hc, hi⟩ := r; exact ⟨c, hc, hi.keeps hk⟩
  · exact r.elim
theorem PlainList.grow {h h' : Heap} {a : Addr} {vs : Array Value} (r : h.PlainList a vs) (hk : ∀ b o, h.get? b = some o → h'.get? b = some o) : h'.PlainList a vs := r.at fun o e => hk a o e
theorem SlotAt.grow {h h' : Heap} {X : List Addr} {x : Str} {sl : Slot} {v : Value} (r : SlotAt h X os x sl v) (hk : ∀ b o, h.get? b = some o → h'.get? b = some o) : SlotAt h' X os x sl v := by
  cases sl with
  | val d => exact Rep.grow r hk
  | raw u => exact r
  | own p xs => obtain ⟨a, vs, h1, h2, h3, hp, h4⟩ := r; exact ⟨a, vs, h1, h2, h3.at (fun o e => hk a o e), fun q => (hp q).at (fun o e => hk a o e), h4.grow hk⟩
theorem Inv.grow (I : Inv G κ F σ Xo os s) (g : St [] s s') : Inv G κ F σ Xo os s' where
  scope := I.scope
  kind := I.kind
  glob := I.glob
  bi := I.bi
  base := I.base
  tk := I.tk
  st := I.st.trans g
  Lnew := I.Lnew
  osnew := I.osnew
  cfnew := I.cfnew
  live := fun b hb => let ⟨o, e⟩ := I.live b hb; ⟨o, g.keep b o e⟩
  ns := let ⟨m, hn⟩ := I.ns; ⟨m, hn.keeps g.keep⟩
  cells := fun x c hc => ⟨let ⟨ov, h⟩ := (I.cells x c hc).1; ⟨ov, h.keeps g.keep⟩, (I.cells x c hc).2⟩
  cellinj := I.cellinj
  ossep := I.ossep
  osoff := I.osoff
  osout := I.osout
  ghost := fun p hp => (I.ghost p hp).grow g.keep
  var := fun x sl hx => let ⟨v, h1, h2⟩ := I.var x sl hx; ⟨v, h1.grow g.keep, h2.grow g.keep⟩
theorem Inv.weaken (I : Inv G κ F σ Xo os s) (h : ∀ x sl, σ'.lookup x = some sl → σ.lookup x = some sl) : Inv G κ F σ' Xo os s :=
  { I with var := fun x sl hx => I.var x sl (h x sl hx) }
theorem Inv.hb (I : Inv G κ F σ Xo os s) : ∀ b o, G.hb.get? b = some o → s.heap.get? b = some o := fun b o e => I.st.keep b o (I.base b o e)
theorem Inv.inn (I : Inv G κ F σ Xo os s) : G.In s := ⟨I.hb, Nat.le_trans I.tk I.st.toks⟩
/-- a new address lies not in X -/
theorem Inv.off (I : Inv G κ F σ Xo os s) {a : Addr} (h : s.heap.get? a = none) : a ∉ F.X Xo os := fun hm => by
  obtain ⟨o, e⟩ := I.live a hm; rw [h] at e; cases e
theorem get_size (h : Heap) : h.get? h.objs.size = none := by
  cases e : h.get? h.objs.size with
  | none => rfl
  | some o => exact absurd (Heap.lt_size e) (Nat.lt_irrefl _)
theorem Inv.offSize (I : Inv G κ F σ Xo os s) : s.heap.objs.size ∉ F.X Xo os := I.off (get_size _)

theorem Inv.load {x : Str} {sl : Slot} {A : Around} {Q : Value → Shared → Prop} {E : Value → Shared → Prop} (I : Inv G κ F σ Xo os s) (hx : σ.lookup x = some sl)
    (h : ∀ v, SlotAt s.heap (F.X Xo os) os x sl v → Q v s) : wpAny G.M A (loadName F.env x) Q E s := by
  obtain ⟨v, hv, hsl⟩ := I.var x sl hx
  unfold VarAt at hv
  split at hv
  · rename_i e
    obtain ⟨m, hn, hm⟩ := hv
    exact wpAny_loadName_local (by rw [I.scope]; exact I.kind) e hn hm (h v hsl)
  · rename_i e
    obtain ⟨c, hc, hi⟩ := hv
    exact wpAny_loadName_cell (by rw [I.scope]; exact I.kind) e hc hi (h v hsl)
  · exact hv.elim
end
end Mine
end E1

noncomputable section E2
open PySem PySem.Calls PyProof.Rows
set_option Elab.async false
set_option linter.unusedVariables false
namespace Mine

noncomputable def Live (X : List Addr) (s : Shared) : Prop := ∀ b ∈ X, ∃ o, s.heap.get? b = some o
theorem Live.grow {X : List Addr} {s s' : Shared} (l : Live X s) (g : St [] s s') : Live X s' := fun b hb => let ⟨o, e⟩ := l b hb; ⟨o, g.keep b o e⟩
theorem Live.off {X : List Addr} {s : Shared} (l : Live X s) : s.heap.objs.size ∉ X := fun hm => by
  obtain ⟨o, e⟩ := l _ hm; rw [get_size] at e; cases e
theorem Live.nil {s : Shared} : Live [] s := fun _ h => nomatch h
theorem Inv.lives {G : Gd} {κ : Scope} {F : Fm} {σ : Sg} {Xo : Ou} {os : Os} {s : Shared} (I : Inv G κ F σ Xo os s) : Live (F.X Xo os) s := I.live

/-- a new object is laid on the heap -/
theorem St.push {s : Shared} {o : Obj} {tk : Nat} {X : List Addr} (hn : s.toks ≤ tk := by first | exact Nat.le_refl _ | exact Nat.le_succ _ | omega | (dsimp only; omega)) : St X s { s with heap := s.heap.push o, toks := tk } := .of (fun _ _ e => Heap.get?_push_of_some _ e) hn
theorem St.tok {s : Shared} {tk : Nat} {X : List Addr} (hn : s.toks ≤ tk := by first | exact Nat.le_refl _ | exact Nat.le_succ _ | omega | (dsimp only; omega)) : St X s { s with toks := tk } := .of (h' := s.heap) (fun _ _ e => e) hn

section
variable (G : Gd) (k : Nat)
noncomputable def Ev (κ : Scope) (F : Fm) (σ : Sg) (e : Expr) (d : D) : Prop :=
  ∀ A Xo os s E, Room k A → Inv G κ F σ Xo os s → wpAny G.M A (eval e F.env) (fun v s' => St [] s s' ∧ Rep (F.X Xo os) s'.heap d v) E s
noncomputable def EvW (κ : Scope) (F : Fm) (σ : Sg) (e : Expr) (d : D) : Prop :=
  ∀ A Xo os s E, Room k A → Inv G κ F σ Xo os s → wpAny G.M A (eval e F.env) (fun v s' => St [] s s' ∧ Rep [] s'.heap d v) E s
/-- a fresh list -/
noncomputable def EvN (κ : Scope) (F : Fm) (σ : Sg) (e : Expr) (xs : List D) : Prop :=
  ∀ A Xo os s E, Room k A → Inv G κ F σ Xo os s → wpAny G.M A (eval e F.env) (fun v s' => St [] s s' ∧ ∃ a vs, v = .ref a ∧ s.heap.get? a = none ∧ s'.heap.PlainList a vs ∧ RepAll (a :: F.X Xo os) s'.heap xs vs.toList) E s
noncomputable def EvT (κ : Scope) (F : Fm) (σ : Sg) (e : Expr) (b : Bool) : Prop :=
  ∀ A Xo os s E, Room k A → Inv G κ F σ Xo os s → wpAny G.M A (isTrue e F.env (eval e F.env)) (fun r s' => St [] s s' ∧ r = b) E s
noncomputable def EvV (κ : Scope) (F : Fm) (σ : Sg) (e : Expr) (v : Value) : Prop :=
  ∀ A Xo os s E (Q : Value → Shared → Prop), Inv G κ F σ Xo os s → Q v s → wpAny G.M A (eval e F.env) Q E s
noncomputable def EvA (κ : Scope) (F : Fm) (σ : Sg) (es : List Expr) (ds : List D) : Prop :=
  ∀ A Xo os s E, Room k A → Inv G κ F σ Xo os s → wpAny G.M A (spliced (starEach es F.env)) (fun vs s' => St [] s s' ∧ RepAll (F.X Xo os) s'.heap ds vs) E s
noncomputable def EvAW (κ : Scope) (F : Fm) (σ : Sg) (es : List Expr) (ds : List D) : Prop :=
  ∀ A Xo os s E, Room k A → Inv G κ F σ Xo os s → wpAny G.M A (spliced (starEach es F.env)) (fun vs s' => St [] s s' ∧ RepAll [] s'.heap ds vs) E s
noncomputable def Op2 (op : Operator) (d1 d2 d : D) : Prop := ∀ A X s v1 v2 E, Room k A → Live X s → Rep X s.heap d1 v1 → Rep X s.heap d2 v2 →
  wpAny G.M A (binaryOp op v1 v2) (fun v s' => St [] s s' ∧ Rep X s'.heap d v) E s
noncomputable def OpC (op : CmpOp) (d1 d2 : D) (b : Bool) : Prop := ∀ A s v1 v2 E, Room k A → Rep [] s.heap d1 v1 → Rep [] s.heap d2 v2 →
  wpAny G.M A (compareOp op v1 v2) (fun v s' => St [] s s' ∧ v = .bool b) E s
noncomputable def OpT (d : D) (b : Bool) : Prop := ∀ A s v E, Room k A → Rep [] s.heap d v → wpAny G.M A (truthy v) (fun r s' => St [] s s' ∧ r = b) E s
noncomputable def Cal (f : Value) (ds : List D) (d : D) : Prop := ∀ A X s vs E, Room k A → G.In s → Live X s → RepAll X s.heap ds vs →
  wpAny G.M A (call f vs) (fun v s' => St [] s s' ∧ Rep X s'.heap d v) E s
end

noncomputable def D.flat : D → Bool
  | .list _ => false
  | .tuple _ => false
  | _ => true
theorem Rep.flat {X Y : List Addr} {h h' : Heap} {d : D} {v : Value} (hd : d.flat = true) (r : Rep X h d v) : Rep Y h' d v := by
  cases d <;> simp_all [D.flat, Rep]

section
variable {G : Gd} {k : Nat} {κ : Scope} {F : Fm} {σ : Sg}

theorem Rep.none' {X : List Addr} {h : Heap} {v : Value} (r : Rep X h .none v) : v = .none := by simpa [Rep] using r
theorem Rep.int' {X : List Addr} {h : Heap} {v : Value} {i : Int} (r : Rep X h (.int i) v) : ∃ t, v = .int i t := by simpa [Rep] using r
theorem Rep.bool' {X : List Addr} {h : Heap} {v : Value} {i : Bool} (r : Rep X h (.bool i) v) : v = .bool i := by simpa [Rep] using r
theorem Rep.str' {X : List Addr} {h : Heap} {v : Value} {i : Str} (r : Rep X h (.str i) v) : ∃ t, v = .str i t := by simpa [Rep] using r
theorem Rep.list' {X : List Addr} {h : Heap} {v : Value} {xs : List D} (r : Rep X h (.list xs) v) : ∃ a vs, v = .ref a ∧ a ∉ X ∧ h.IsList a vs ∧ RepAll X h xs vs.toList := by simpa [Rep] using r
theorem Rep.tuple' {X : List Addr} {h : Heap} {v : Value} {xs : List D} (r : Rep X h (.tuple xs) v) : ∃ a vs, v = .ref a ∧ a ∉ X ∧ h.IsTuple a vs ∧ RepAll X h xs vs.toList := by simpa [Rep] using r
theorem Rep.ofInt {X : List Addr} {h : Heap} {i : Int} {t : Tok} : Rep X h (.int i) (.int i t) := by simp only [Rep]; exact ⟨t, rfl⟩
theorem Rep.ofStr {X : List Addr} {h : Heap} {i : Str} {t : Tok} : Rep X h (.str i) (.str i t) := by simp only [Rep]; exact ⟨t, rfl⟩
theorem Rep.ofBool {X : List Addr} {h : Heap} {i : Bool} : Rep X h (.bool i) (.bool i) := by simp only [Rep]
theorem Rep.ofNone {X : List Addr} {h : Heap} : Rep X h .none .none := by simp only [Rep]
theorem Rep.ofList {X : List Addr} {h : Heap} {a : Addr} {vs : Array Value} {xs : List D} (ha : a ∉ X) (hl : h.IsList a vs) (r : RepAll X h xs vs.toList) : Rep X h (.list xs) (.ref a) := by
  simp only [Rep]; exact ⟨a, vs, rfl, ha, hl, r⟩
theorem Rep.ofTuple {X : List Addr} {h : Heap} {a : Addr} {vs : Array Value} {xs : List D} (ha : a ∉ X) (hl : h.IsTuple a vs) (r : RepAll X h xs vs.toList) : Rep X h (.tuple xs) (.ref a) := by
  simp only [Rep]; exact ⟨a, vs, rfl, ha, hl, r⟩
theorem Rep.none {X : List Addr} {h : Heap} {d : D} {v : Value} (r : Rep X h d v) : Rep [] h d v := r.sub fun _ h => nomatch h
theorem RepAll.none {X : List Addr} {h : Heap} {d : List D} {v : List Value} (r : RepAll X h d v) : RepAll [] h d v := r.sub fun _ h => nomatch h

theorem Ev.w {e : Expr} {d : D} (h : Ev G k κ F σ e d) : EvW G k κ F σ e d := fun A Xo os s E R I => wpAny_mono (h A Xo os s E R I) (fun v s' q => ⟨q.1, q.2.none⟩) fun _ _ e => e
theorem EvN.ev {e : Expr} {xs : List D} (h : EvN G k κ F σ e xs) : Ev G k κ F σ e (.list xs) := fun A Xo os s E R I => wpAny_mono (h A Xo os s E R I) (fun v s' q => by
  obtain ⟨g, a, vs, rfl, ha, hp, r⟩ := q
  exact ⟨g, .ofList (I.off ha) hp.isList (r.sub fun _ h => List.mem_cons_of_mem _ h)⟩) fun _ _ e => e
/-- the two halves of a step -/
theorem wp_st {α β : Type} {M : Model} {A : Around} {t : Sem α} {s : Shared} {P : α → Shared → Prop} {E : Value → Shared → Prop} {Q : α → Shared → Prop}
    (h : wpAny M A t (fun v s' => St [] s s' ∧ P v s') E s) (f : ∀ v s', St [] s s' → P v s' → Q v s') : wpAny M A t Q E s :=
  wpAny_mono h (fun v s' q => f v s' q.1 q.2) fun _ _ e => e

theorem Ev.int {i : Int} {c : Nat} {pos : Pos} : Ev G k κ F σ (.Constant (.int i) c pos) (.int i) := fun A Xo os s E R I => wpAny_Constant_int ⟨.tok, .ofInt⟩
theorem Ev.str {x : Str} {c : Nat} {pos : Pos} : Ev G k κ F σ (.Constant (.str x) c pos) (.str x) := fun A Xo os s E R I => wpAny_Constant_str ⟨.tok, .ofStr⟩
theorem Ev.none {c : Nat} {pos : Pos} : Ev G k κ F σ (.Constant .none c pos) .none := fun A Xo os s E R I => wpAny_Constant_none ⟨.refl, .ofNone⟩
theorem Ev.bool {b : Bool} {c : Nat} {pos : Pos} : Ev G k κ F σ (.Constant (.bool b) c pos) (.bool b) := fun A Xo os s E R I => wpAny_Constant_bool ⟨.refl, .ofBool⟩

theorem Ev.name {x : Str} {d : D} {pos : Pos} (hx : σ.lookup x = some (.val d)) (hd : (x == ("__debug__" : Str)) = false) : Ev G k κ F σ (.Name x pos) d := fun A Xo os s E R I =>
  wpAny_Name (I.load hx fun v h => ⟨.refl, h⟩) hd
theorem EvW.own {x : Str} {p : Bool} {xs : List D} {pos : Pos} (hx : σ.lookup x = some (.own p xs)) (hd : (x == ("__debug__" : Str)) = false) : EvW G k κ F σ (.Name x pos) (.list xs) := fun A Xo os s E R I =>
  wpAny_Name (I.load hx fun v h => ⟨.refl, by obtain ⟨a, vs, _, rfl, hl, _, r⟩ := h; exact .ofList (fun h => nomatch h) hl r.none⟩) hd
theorem EvV.global {x : Str} {v : Value} {mg : Str → Option Value} {pos : Pos} (hg : G.hb.Ns mainGlobals mg) (hx : mg x = some v) (hk : κ.names.lookup x = some .globalImplicit)
    (hd : (x == ("__debug__" : Str)) = false) : EvV G κ F σ (.Name x pos) v := fun A Xo os s E Q I h => by
  refine Name_function_global (by rw [I.scope]; exact I.kind) (by rw [Env.kindOf, I.scope]; exact hk) (loadGlobal_global (mg := mg) ?_ hx h) hd
  rw [I.glob]; exact hg.keeps I.hb
theorem EvV.builtin {x : Str} {v : Value} {mg mb : Str → Option Value} {pos : Pos} (hg : G.hb.Ns mainGlobals mg) (hx : mg x = .none) (hb : G.hb.Ns builtinsNs mb) (hv : mb x = some v) (hk : κ.names.lookup x = some .globalImplicit)
    (hd : (x == ("__debug__" : Str)) = false) : EvV G κ F σ (.Name x pos) v := fun A Xo os s E Q I h => by
  refine Name_function_global (by rw [I.scope]; exact I.kind) (by rw [Env.kindOf, I.scope]; exact hk) (loadGlobal_builtin (mg := mg) (mb := mb) ?_ hx ?_ hv h) hd
  · rw [I.glob]; exact hg.keeps I.hb
  · rw [I.bi]; exact hb.keeps I.hb
/-- a global that holds an int or a text -/
theorem Ev.global {x : Str} {v : Value} {d : D} {pos : Pos} (h : EvV G κ F σ (.Name x pos) v) (r : ∀ X h, Rep X h d v) : Ev G k κ F σ (.Name x pos) d := fun A Xo os s E _ I =>
  h A Xo os s E _ I ⟨.refl, r _ _⟩

theorem Ev.bin {op : Operator} {l r : Expr} {d1 d2 d : D} {pos : Pos} (h1 : Ev G k κ F σ l d1) (h2 : Ev G k κ F σ r d2) (ho : Op2 G k op d1 d2 d) : Ev G k κ F σ (.BinOp l op r pos) d := fun A Xo os s E R I =>
  wpAny_BinOp (wp_st (β := Unit) (h1 A Xo os s E R I) fun v1 s1 g1 r1 => wp_st (β := Unit) (h2 A Xo os s1 E R (I.grow g1)) fun v2 s2 g2 r2 =>
    wp_st (β := Unit) (ho A (F.X Xo os) s2 v1 v2 E R (I.lives.grow (g1.trans g2)) (r1.grow g2.keep) r2) fun v s3 g3 r3 => ⟨(g1.trans g2).trans g3, r3⟩)

theorem Ev.cmp {op : CmpOp} {l r : Expr} {d1 d2 : D} {b : Bool} {pos : Pos} (h1 : EvW G k κ F σ l d1) (h2 : EvW G k κ F σ r d2) (ho : OpC G k op d1 d2 b) (hm : behindInMarks op r = false) : Ev G k κ F σ (.Compare l [op] [r] pos) (.bool b) := fun A Xo os s E R I =>
  wpAny_Compare1 (wp_st (β := Unit) (h1 A Xo os s E R I) fun v1 s1 g1 r1 => wp_st (β := Unit) (h2 A Xo os s1 E R (I.grow g1)) fun v2 s2 g2 r2 =>
    wp_st (β := Unit) (ho A s2 v1 v2 E R (r1.grow g2.keep) r2) fun v s3 g3 r3 => ⟨(g1.trans g2).trans g3, r3 ▸ .ofBool⟩) hm

theorem EvT.cmp {op : CmpOp} {l r : Expr} {d1 d2 : D} {b : Bool} {pos : Pos} (h1 : EvW G k κ F σ l d1) (h2 : EvW G k κ F σ r d2) (ho : OpC G k op d1 d2 b) (hm : behindInMarks op r = false) : EvT G k κ F σ (.Compare l [op] [r] pos) b := fun A Xo os s E R I =>
  wpAny_isTrue_Compare1 (wp_st (β := Unit) (h1 A Xo os s E R I) fun v1 s1 g1 r1 => wp_st (β := Unit) (h2 A Xo os s1 E R (I.grow g1)) fun v2 s2 g2 r2 =>
    wp_st (β := Unit) (ho A s2 v1 v2 E R (r1.grow g2.keep) r2) fun v s3 g3 r3 => by subst r3; exact wpAny_truthy_bool ⟨(g1.trans g2).trans g3, rfl⟩) hm

theorem EvT.value {e : Expr} {d : D} {b : Bool} (h : EvW G k κ F σ e d) (ho : OpT G k d b)
    (he : ∀ whole, PySem.isTrue e F.env whole = (do let v ← whole; standAt (Expr.pos e); holding [v] (truthy v))) : EvT G k κ F σ e b := fun A Xo os s E R I =>
  wpAny_isTrue_value (wp_st (β := Unit) (h A Xo os s E R I) fun v1 s1 g1 r1 => wp_st (β := Unit) (ho A s1 v1 E R r1) fun v s3 g3 r3 => ⟨g1.trans g3, r3⟩) (he _)
theorem EvT.not {e : Expr} {b : Bool} {pos : Pos} (h : EvT G k κ F σ e b) : EvT G k κ F σ (.UnaryOp .Not e pos) (!b) := fun A Xo os s E R I =>
  wpAny_isTrue_Not (wp_st (β := Unit) (h A Xo os s E R I) fun v1 s1 g1 r1 => ⟨g1, by rw [r1]⟩)

/-- all of them; any of them, from the left -/
noncomputable def EvB (G : Gd) (k : Nat) (κ : Scope) (F : Fm) (σ : Sg) (op : BoolOp) (es : List Expr) (b : Bool) : Prop :=
  ∀ A Xo os s E, Room k A → Inv G κ F σ Xo os s → wpAny G.M A (allTrue op es F.env) (fun r s' => St [] s s' ∧ r = b) E s
theorem EvT.boolop {op : BoolOp} {es : List Expr} {b : Bool} {pos : Pos} (h : EvB G k κ F σ op es b) : EvT G k κ F σ (.BoolOp op es pos) b := fun A Xo os s E R I => wpAny_isTrue_BoolOp (h A Xo os s E R I)
theorem EvB.and_nil : EvB G k κ F σ .And [] true := fun A Xo os s E R I => wpAny_allTrue_And_nil ⟨.refl, rfl⟩
theorem EvB.or_nil : EvB G k κ F σ .Or [] false := fun A Xo os s E R I => wpAny_allTrue_Or_nil ⟨.refl, rfl⟩
theorem EvB.and_stop {e : Expr} {es : List Expr} (h : EvT G k κ F σ e false) : EvB G k κ F σ .And (e :: es) false := fun A Xo os s E R I =>
  wpAny_allTrue_And_cons (wp_st (β := Unit) (h A Xo os s E R I) fun v1 s1 g1 r1 => by subst r1; simp only [Bool.false_eq_true, if_false]; exact ⟨g1, trivial⟩)
theorem EvB.and_go {e : Expr} {es : List Expr} {b : Bool} (h : EvT G k κ F σ e true) (h2 : EvB G k κ F σ .And es b) : EvB G k κ F σ .And (e :: es) b := fun A Xo os s E R I =>
  wpAny_allTrue_And_cons (wp_st (β := Unit) (h A Xo os s E R I) fun v1 s1 g1 r1 => by subst r1; simp only [if_true]; exact wp_st (β := Unit) (h2 A Xo os s1 E R (I.grow g1)) fun v2 s2 g2 r2 => ⟨g1.trans g2, r2⟩)
theorem EvB.or_go {e : Expr} {es : List Expr} {b : Bool} (h : EvT G k κ F σ e false) (h2 : EvB G k κ F σ .Or es b) : EvB G k κ F σ .Or (e :: es) b := fun A Xo os s E R I =>
  wpAny_allTrue_Or_cons (wp_st (β := Unit) (h A Xo os s E R I) fun v1 s1 g1 r1 => by subst r1; simp only [Bool.false_eq_true, if_false]; exact wp_st (β := Unit) (h2 A Xo os s1 E R (I.grow g1)) fun v2 s2 g2 r2 => ⟨g1.trans g2, r2⟩)

theorem Ev.ite_t {t x y : Expr} {d : D} {pos : Pos} (ht : EvT G k κ F σ t true) (h : Ev G k κ F σ x d) : Ev G k κ F σ (.IfExp t x y pos) d := fun A Xo os s E R I =>
  wpAny_IfExp (wp_st (β := Unit) (ht A Xo os s E R I) fun v1 s1 g1 r1 => by subst r1; simp only [if_true]; exact wp_st (β := Unit) (h A Xo os s1 E R (I.grow g1)) fun v2 s2 g2 r2 => ⟨g1.trans g2, r2⟩)
theorem Ev.ite_f {t x y : Expr} {d : D} {pos : Pos} (ht : EvT G k κ F σ t false) (h : Ev G k κ F σ y d) : Ev G k κ F σ (.IfExp t x y pos) d := fun A Xo os s E R I =>
  wpAny_IfExp (wp_st (β := Unit) (ht A Xo os s E R I) fun v1 s1 g1 r1 => by subst r1; simp only [Bool.false_eq_true, if_false]; exact wp_st (β := Unit) (h A Xo os s1 E R (I.grow g1)) fun v2 s2 g2 r2 => ⟨g1.trans g2, r2⟩)

theorem Ev.or2_t {x y : Expr} {d : D} {pos : Pos} (h : Ev G k κ F σ x d) (ht : OpT G k d true) : Ev G k κ F σ (.BoolOp .Or [x, y] pos) d := fun A Xo os s E R I =>
  wpAny_Or2 (wp_st (β := Unit) (h A Xo os s E R I) fun v1 s1 g1 r1 => wp_st (β := Unit) (ht A s1 v1 E R r1.none) fun b s2 g2 hb => by subst hb; simp only [if_true]; exact ⟨g1.trans g2, r1.grow g2.keep⟩)
theorem Ev.or2_f {x y : Expr} {d d2 : D} {pos : Pos} (h : Ev G k κ F σ x d) (ht : OpT G k d false) (h2 : Ev G k κ F σ y d2) : Ev G k κ F σ (.BoolOp .Or [x, y] pos) d2 := fun A Xo os s E R I =>
  wpAny_Or2 (wp_st (β := Unit) (h A Xo os s E R I) fun v1 s1 g1 r1 => wp_st (β := Unit) (ht A s1 v1 E R r1.none) fun b s2 g2 hb => by
    subst hb; simp only [Bool.false_eq_true, if_false]
    exact wp_st (β := Unit) (h2 A Xo os s2 E R (I.grow (g1.trans g2))) fun v3 s3 g3 r3 => ⟨(g1.trans g2).trans g3, r3⟩)
theorem Ev.and2_t {x y : Expr} {d d2 : D} {pos : Pos} (h : Ev G k κ F σ x d) (ht : OpT G k d true) (h2 : Ev G k κ F σ y d2) : Ev G k κ F σ (.BoolOp .And [x, y] pos) d2 := fun A Xo os s E R I =>
  wpAny_And2 (wp_st (β := Unit) (h A Xo os s E R I) fun v1 s1 g1 r1 => wp_st (β := Unit) (ht A s1 v1 E R r1.none) fun b s2 g2 hb => by
    subst hb; simp only [if_true]
    exact wp_st (β := Unit) (h2 A Xo os s2 E R (I.grow (g1.trans g2))) fun v3 s3 g3 r3 => ⟨(g1.trans g2).trans g3, r3⟩)

theorem EvA.nil : EvA G k κ F σ [] [] := fun A Xo os s E R I => spliced_nil ⟨.refl, .nil⟩
theorem EvA.cons {e : Expr} {es : List Expr} {d : D} {ds : List D} (h : Ev G k κ F σ e d) (he : ∀ env, starEach (e :: es) env = (false, eval e env) :: starEach es env) (h2 : EvA G k κ F σ es ds) : EvA G k κ F σ (e :: es) (d :: ds) := fun A Xo os s E R I => by
  rw [he]
  exact spliced_cons (wp_st (β := Unit) (h A Xo os s E R I) fun v1 s1 g1 r1 => wp_st (β := Unit) (h2 A Xo os s1 E R (I.grow g1)) fun v2 s2 g2 r2 => ⟨g1.trans g2, .cons (r1.grow g2.keep) r2⟩)
theorem EvAW.nil : EvAW G k κ F σ [] [] := fun A Xo os s E R I => spliced_nil ⟨.refl, .nil⟩
theorem EvAW.cons {e : Expr} {es : List Expr} {d : D} {ds : List D} (h : EvW G k κ F σ e d) (he : ∀ env, starEach (e :: es) env = (false, eval e env) :: starEach es env) (h2 : EvAW G k κ F σ es ds) : EvAW G k κ F σ (e :: es) (d :: ds) := fun A Xo os s E R I => by
  rw [he]
  exact spliced_cons (wp_st (β := Unit) (h A Xo os s E R I) fun v1 s1 g1 r1 => wp_st (β := Unit) (h2 A Xo os s1 E R (I.grow g1)) fun v2 s2 g2 r2 => ⟨g1.trans g2, .cons (r1.grow g2.keep) r2⟩)

theorem Ev.callF {x : Str} {p pos : Pos} {f : Addr} {o : Obj} {fd : FuncData} {args : List Expr} {ds : List D} {d : D} (hv : EvV G κ F σ (.Name x p) (.ref f)) (hf : G.hb.get? f = some o) (hd : o.data = .func fd)
    (ha : EvA G k κ F σ args ds) (hc : Cal G k (.ref f) ds d) (hb : ∀ env, backTo pos (starEach args env) = starEach args env) (hne : ∀ env, ∃ t r, starEach args env = (false, t) :: r) : Ev G k κ F σ (.Call (.Name x p) args [] pos) d := fun A Xo os s E R I => by
  refine wpAny_Call_ofName (hv A Xo os s E _ I ?_)
  show wpAny G.M A (callWith pos (.ref f) [] (backTo pos (starEach args F.env)) []) _ E s
  rw [hb]
  refine callWith_function (o := o) (fd := fd) ?_
  have key : wpAny G.M A (spliced (starEach args F.env)) (fun vs s₁ => (s₁.heap.get? f = some o ∧ o.data = .func fd) ∧ wpAny G.M A (call (.ref f) vs) (fun v s' => St [] s s' ∧ Rep (F.X Xo os) s'.heap d v) E s₁) E s :=
    wp_st (β := Unit) (ha A Xo os s E R I) fun vs s1 g1 r1 => ⟨⟨(I.grow g1).hb _ _ hf, hd⟩, wp_st (β := Unit) (hc A (F.X Xo os) s1 vs E R (I.grow g1).inn (I.grow g1).lives r1) fun v s2 g2 r2 => ⟨g1.trans g2, r2⟩⟩
  obtain ⟨t, r, e⟩ := hne F.env
  rw [e] at key ⊢
  exact evalArgs_plain key
theorem Ev.callFW {x : Str} {p pos : Pos} {f : Addr} {o : Obj} {fd : FuncData} {args : List Expr} {ds : List D} {d : D} (hv : EvV G κ F σ (.Name x p) (.ref f)) (hf : G.hb.get? f = some o) (hd : o.data = .func fd)
    (ha : EvAW G k κ F σ args ds) (hc : Cal G k (.ref f) ds d) (hfl : d.flat = true) (hb : ∀ env, backTo pos (starEach args env) = starEach args env) (hne : ∀ env, ∃ t r, starEach args env = (false, t) :: r) : Ev G k κ F σ (.Call (.Name x p) args [] pos) d := fun A Xo os s E R I => by
  refine wpAny_Call_ofName (hv A Xo os s E _ I ?_)
  show wpAny G.M A (callWith pos (.ref f) [] (backTo pos (starEach args F.env)) []) _ E s
  rw [hb]
  refine callWith_function (o := o) (fd := fd) ?_
  have key : wpAny G.M A (spliced (starEach args F.env)) (fun vs s₁ => (s₁.heap.get? f = some o ∧ o.data = .func fd) ∧ wpAny G.M A (call (.ref f) vs) (fun v s' => St [] s s' ∧ Rep (F.X Xo os) s'.heap d v) E s₁) E s :=
    wp_st (β := Unit) (ha A Xo os s E R I) fun vs s1 g1 r1 => ⟨⟨(I.grow g1).hb _ _ hf, hd⟩, wp_st (β := Unit) (hc A [] s1 vs E R (I.grow g1).inn .nil r1) fun v s2 g2 r2 => ⟨g1.trans g2, r2.flat hfl⟩⟩
  obtain ⟨t, r, e⟩ := hne F.env
  rw [e] at key ⊢
  exact evalArgs_plain key
theorem Ev.callB {x : Str} {p pos : Pos} {id : String} {args : List Expr} {ds : List D} {d : D} (hv : EvV G κ F σ (.Name x p) (.builtin id))
    (ha : EvA G k κ F σ args ds) (hc : Cal G k (.builtin id) ds d) (hb : ∀ env, backTo pos (starEach args env) = starEach args env) (hne : ∀ env, ∃ t r, starEach args env = (false, t) :: r) (hpl : ∀ env, (starEach args env).any (·.1) = false) :
    Ev G k κ F σ (.Call (.Name x p) args [] pos) d := fun A Xo os s E R I => by
  refine wpAny_Call_ofName (hv A Xo os s E _ I ?_)
  show wpAny G.M A (callWith pos (.builtin id) [] (backTo pos (starEach args F.env)) []) _ E s
  rw [hb]
  refine callWith_builtin (hpl _) ?_
  have key : wpAny G.M A (spliced (starEach args F.env)) (fun vs s₁ => wpAny G.M A (call (.builtin id) vs) (fun v s' => St [] s s' ∧ Rep (F.X Xo os) s'.heap d v) E s₁) E s :=
    wp_st (β := Unit) (ha A Xo os s E R I) fun vs s1 g1 r1 => wp_st (β := Unit) (hc A (F.X Xo os) s1 vs E R (I.grow g1).inn (I.grow g1).lives r1) fun v s2 g2 r2 => ⟨g1.trans g2, r2⟩
  obtain ⟨t, r, e⟩ := hne F.env
  rw [e] at key ⊢
  exact evalArgs_plain key
theorem EvN.list {elts : List Expr} {ds : List D} {pos : Pos} (h : EvA G k κ F σ elts ds) (hb : ∀ env, backTo pos (starEach elts env) = starEach elts env) (hl : ds.length ≤ sizeLine) : EvN G k κ F σ (.List elts pos) ds := fun A Xo os s E R I => by
  refine wpAny_List_spliced ?_
  rw [hb]
  refine wp_st (β := Unit) (h A Xo os s E R I) fun vs s1 g1 r1 => ⟨by rw [r1.length]; exact hl, g1.trans (.push (tk := s1.toks)), _, vs.toArray, rfl, ?_, ⟨_, Heap.get?_push_size _ rfl⟩, ?_⟩
  · cases e : s.heap.get? s1.heap.objs.size with
    | none => rfl
    | some o => have := g1.keep _ _ e; rw [get_size] at this; cases this
  · rw [List.toList_toArray]
    exact RepAll.move (fun _ _ _ e => Heap.get?_push_of_some _ e) (fun b hb => by
      rcases List.mem_cons.mp hb with q | q
      · exact .inr (by rw [q]; exact get_size _)
      · exact .inl q) r1
theorem Ev.list {elts : List Expr} {ds : List D} {pos : Pos} (h : EvA G k κ F σ elts ds) (hb : ∀ env, backTo pos (starEach elts env) = starEach elts env) (hl : ds.length ≤ sizeLine) : Ev G k κ F σ (.List elts pos) (.list ds) := (EvN.list h hb hl).ev
theorem Ev.tuple {elts : List Expr} {ds : List D} {pos : Pos} {c : Nat} (h : EvA G k κ F σ elts ds) (hb : ∀ env, backTo pos (starEach elts env) = starEach elts env) (hl : ds.length ≤ sizeLine) : Ev G k κ F σ (.Tuple elts c pos) (.tuple ds) := fun A Xo os s E R I => by
  refine wpAny_Tuple_spliced ?_
  rw [hb]
  refine wp_st (β := Unit) (h A Xo os s E R I) fun vs s1 g1 r1 => ⟨by rw [r1.length]; exact hl, g1.trans (.push (tk := s1.toks)), .ofTuple (vs := vs.toArray) (I.grow g1).offSize ⟨_, Heap.get?_push_size _ rfl, rfl, _, rfl⟩ ?_⟩
  simpa using r1.grow fun _ _ e => Heap.get?_push_of_some _ e

-- operators
theorem Op2.addI {a b : Int} : Op2 G k .Add (.int a) (.int b) (.int (a + b)) := fun A X s v1 v2 E R l r1 r2 => by
  obtain ⟨t, rfl⟩ := r1.int'; obtain ⟨u, rfl⟩ := r2.int'
  exact add_int ⟨.tok, .ofInt⟩
theorem Op2.subI {a b : Int} : Op2 G k .Sub (.int a) (.int b) (.int (a - b)) := fun A X s v1 v2 E R l r1 r2 => by
  obtain ⟨t, rfl⟩ := r1.int'; obtain ⟨u, rfl⟩ := r2.int'
  exact sub_int ⟨.tok, .ofInt⟩
theorem Op2.mulI {a b : Int} (h : IntMulOk a b) : Op2 G k .Mult (.int a) (.int b) (.int (a * b)) := fun A X s v1 v2 E R l r1 r2 => by
  obtain ⟨t, rfl⟩ := r1.int'; obtain ⟨u, rfl⟩ := r2.int'
  exact mul_int ⟨.tok, .ofInt⟩ h
theorem Op2.divI {a b : Int} (hb : b ≠ 0) (h : Builtin.divisionGoesByPylong a b = false) : Op2 G k .FloorDiv (.int a) (.int b) (.int (a.fdiv b)) := fun A X s v1 v2 E R l r1 r2 => by
  obtain ⟨t, rfl⟩ := r1.int'; obtain ⟨u, rfl⟩ := r2.int'
  exact floordiv_int hb ⟨.tok, .ofInt⟩ (.inl h)
theorem Op2.modI {a b : Int} (hb : b ≠ 0) : Op2 G k .Mod (.int a) (.int b) (.int (a.fmod b)) := fun A X s v1 v2 E R l r1 r2 => by
  obtain ⟨t, rfl⟩ := r1.int'; obtain ⟨u, rfl⟩ := r2.int'
  exact mod_int hb ⟨.tok, .ofInt⟩
theorem Op2.powI {a n : Int} (h1 : 0 ≤ n) (h2 : n ≤ 1000000) (h3 : a.natAbs < 2 ^ 64) : Op2 G k .Pow (.int a) (.int n) (.int (a ^ n.toNat)) := fun A X s v1 v2 E R l r1 r2 => by
  obtain ⟨t, rfl⟩ := r1.int'; obtain ⟨u, rfl⟩ := r2.int'
  exact pow_int_small h1 h2 h3 ⟨.tok, .ofInt⟩
theorem Op2.shlI {a n : Int} (h1 : 0 ≤ n) (h2 : n ≤ 1000000) (h3 : a.natAbs < 2 ^ 64) : Op2 G k .LShift (.int a) (.int n) (.int (a * 2 ^ n.toNat)) := fun A X s v1 v2 E R l r1 r2 => by
  obtain ⟨t, rfl⟩ := r1.int'; obtain ⟨u, rfl⟩ := r2.int'
  exact lshift_int_small h1 h2 h3 ⟨.tok, .ofInt⟩
theorem Op2.shrI {a n : Int} (h1 : 0 ≤ n) : Op2 G k .RShift (.int a) (.int n) (.int (a.fdiv (2 ^ n.toNat))) := fun A X s v1 v2 E R l r1 r2 => by
  obtain ⟨t, rfl⟩ := r1.int'; obtain ⟨u, rfl⟩ := r2.int'
  exact rshift_int h1 ⟨.tok, .ofInt⟩
theorem Op2.andI {a b : Int} : Op2 G k .BitAnd (.int a) (.int b) (.int (Builtin.bitAnd a b)) := fun A X s v1 v2 E R l r1 r2 => by
  obtain ⟨t, rfl⟩ := r1.int'; obtain ⟨u, rfl⟩ := r2.int'
  exact and_int ⟨.tok, .ofInt⟩
theorem Op2.xorI {a b : Int} : Op2 G k .BitXor (.int a) (.int b) (.int (Builtin.bitXor a b)) := fun A X s v1 v2 E R l r1 r2 => by
  obtain ⟨t, rfl⟩ := r1.int'; obtain ⟨u, rfl⟩ := r2.int'
  exact xor_int ⟨.tok, .ofInt⟩
theorem Op2.addS {a b : Str} (h : a.length + b.length ≤ sizeLine) : Op2 G k .Add (.str a) (.str b) (.str (a ++ b)) := fun A X s v1 v2 E R l r1 r2 => by
  obtain ⟨t, rfl⟩ := r1.str'; obtain ⟨u, rfl⟩ := r2.str'
  exact wpAny_with_toks (Nat.le_refl _) (add_str (fun t' tk hn => ⟨.tok hn, .ofStr⟩) h)
theorem Op2.mulS {a : Str} {n : Int} (h : MulOk a n) : Op2 G k .Mult (.str a) (.int n) (.str (Txt.mul a n)) := fun A X s v1 v2 E R l r1 r2 => by
  obtain ⟨t, rfl⟩ := r1.str'; obtain ⟨u, rfl⟩ := r2.int'
  exact wpAny_with_toks (Nat.le_refl _) (SB.mul h fun t' tk hn => ⟨.tok hn, .ofStr⟩)
theorem Ev.neg {e : Expr} {a : Int} {pos : Pos} (h : Ev G k κ F σ e (.int a)) : Ev G k κ F σ (.UnaryOp .USub e pos) (.int (-a)) := fun A Xo os s E R I =>
  wpAny_UnaryOp (wp_st (β := Unit) (h A Xo os s E R I) fun v1 s1 g1 r1 => by obtain ⟨t, rfl⟩ := r1.int'; exact neg_int ⟨g1.trans .tok, .ofInt⟩)

-- tests
theorem OpT.int {a : Int} : OpT G k (.int a) (a != 0) := fun A s v E R r => by obtain ⟨t, rfl⟩ := r.int'; exact PyProof.Rows.truthy_int ⟨.refl, rfl⟩
theorem OpT.bool {a : Bool} : OpT G k (.bool a) a := fun A s v E R r => by obtain rfl := r.bool'; exact wpAny_truthy_bool ⟨.refl, rfl⟩
theorem OpT.str {a : Str} (h : a.length ≤ sizeLine) : OpT G k (.str a) ((a.length : Int) != 0) := fun A s v E R r => by
  obtain ⟨t, rfl⟩ := r.str'
  exact PySem.P.truthy_str (by rw [sizeLine_eq] at h; omega) ⟨.tok, rfl⟩
theorem OpC.ltI {a b : Int} : OpC G k .Lt (.int a) (.int b) (decide (a < b)) := fun A s v1 v2 E R r1 r2 => by
  obtain ⟨t, rfl⟩ := r1.int'; obtain ⟨u, rfl⟩ := r2.int'
  exact lt_int ⟨.refl, rfl⟩
theorem OpC.gtI {a b : Int} : OpC G k .Gt (.int a) (.int b) (decide (b < a)) := fun A s v1 v2 E R r1 r2 => by
  obtain ⟨t, rfl⟩ := r1.int'; obtain ⟨u, rfl⟩ := r2.int'
  exact gt_int ⟨.refl, rfl⟩
theorem OpC.geI {a b : Int} : OpC G k .GtE (.int a) (.int b) (decide (b ≤ a)) := fun A s v1 v2 E R r1 r2 => by
  obtain ⟨t, rfl⟩ := r1.int'; obtain ⟨u, rfl⟩ := r2.int'
  exact ge_int ⟨.refl, rfl⟩
theorem OpC.eqI {a b : Int} : OpC G k .Eq (.int a) (.int b) (a == b) := fun A s v1 v2 E R r1 r2 => by
  obtain ⟨t, rfl⟩ := r1.int'; obtain ⟨u, rfl⟩ := r2.int'
  exact eq_int ⟨.refl, rfl⟩
theorem OpC.eqS {a b : Str} : OpC G k .Eq (.str a) (.str b) (a == b) := fun A s v1 v2 E R r1 r2 => by
  obtain ⟨t, rfl⟩ := r1.str'; obtain ⟨u, rfl⟩ := r2.str'
  exact eq_str ⟨.refl, rfl⟩
theorem OpC.neS {a b : Str} : OpC G k .NotEq (.str a) (.str b) (!(a == b)) := fun A s v1 v2 E R r1 r2 => by
  obtain ⟨t, rfl⟩ := r1.str'; obtain ⟨u, rfl⟩ := r2.str'
  exact ne_str ⟨.refl, rfl⟩
end
end Mine
end E2

noncomputable section E3
open PySem PySem.Calls PyProof.Rows
set_option Elab.async false
set_option linter.unusedVariables false
namespace Mine

inductive Out where
  | next (σ : Sg)
  | brk (σ : Sg)
  | ret (d : D)

section
variable (G : Gd) (k : Nat) (κ : Scope) (F : Fm)
noncomputable def OutAt (Xo : Ou) (os : Os) (out : Out) (f : Flow) (s' : Shared) : Prop := match out with
  | .next σ' => f = .next ∧ Inv G κ F σ' Xo os s'
  | .brk σ' => f = .brk ∧ Inv G κ F σ' Xo os s'
  | .ret d => ∃ v, f = .ret v ∧ Inv G κ F [] Xo os s' ∧ Rep (F.X Xo os) s'.heap d v
/-- where a statement ends -/
structure Post (Xo : Ou) (os : Os) (s : Shared) (out : Out) (f : Flow) (s' : Shared) : Prop where
  mv : St (F.Y os) s s'
  out : ∃ os', (∀ p ∈ os', p ∈ os ∨ s.heap.get? p.2 = none) ∧ OutAt G κ F Xo os' out f s'
noncomputable def Ex (σ : Sg) (sts : List Stmt) (out : Out) : Prop :=
  ∀ A Xo os s E, Room k A → Inv G κ F σ Xo os s → wpAny G.M A (execs sts F.env) (Post G κ F Xo os s out) E s
noncomputable def Ex1 (σ : Sg) (st : Stmt) (out : Out) : Prop :=
  ∀ A Xo os s E, Room k A → Inv G κ F σ Xo os s → wpAny G.M A (exec st F.env) (Post G κ F Xo os s out) E s
end

section
variable {G : Gd} {k : Nat} {κ : Scope} {F : Fm} {σ σ' : Sg} {Xo : Ou} {os os' : Os} {s s' : Shared}

theorem mem_X {F : Fm} {Xo : Ou} {os : Os} {b : Addr} : b ∈ F.X Xo os ↔ b = F.env.locals ∨ b ∈ F.env.cells.map (·.2) ∨ b ∈ os.map (·.2) ∨ b ∈ Xo.xs := by
  unfold Fm.X
  rw [List.mem_cons, List.mem_append, List.mem_append]
  constructor
  · rintro (h | (h | h) | h)
    · exact .inl h
    · exact .inr (.inl h)
    · exact .inr (.inr (.inl h))
    · exact .inr (.inr (.inr h))
  · rintro (h | h | h | h)
    · exact .inl h
    · exact .inr (.inl (.inl h))
    · exact .inr (.inl (.inr h))
    · exact .inr (.inr h)
theorem X_new (h : ∀ p ∈ os', p ∈ os ∨ s.heap.get? p.2 = none) : ∀ c ∈ F.X Xo os', c ∈ F.X Xo os ∨ s.heap.get? c = none := fun c hc => by
  rcases mem_X.mp hc with q | q | q | q
  · exact .inl (mem_X.mpr (.inl q))
  · exact .inl (mem_X.mpr (.inr (.inl q)))
  · obtain ⟨p, hp, rfl⟩ := List.mem_map.mp q
    rcases h p hp with z | z
    · exact .inl (mem_X.mpr (.inr (.inr (.inl (List.mem_map_of_mem z)))))
    · exact .inr z
  · exact .inl (mem_X.mpr (.inr (.inr (.inr q))))
noncomputable def Fm.cc (F : Fm) : List Addr := (F.env.cells.filter fun p => F.cf.contains p.1).map (·.2)
theorem cc_cells {F : Fm} {b : Addr} (h : b ∈ F.cc) : b ∈ F.env.cells.map (·.2) := by
  obtain ⟨p, hp, rfl⟩ := List.mem_map.mp h
  exact List.mem_map_of_mem (List.mem_filter.mp hp).1
theorem mem_Y {F : Fm} {os : Os} {b : Addr} : b ∈ F.Y os ↔ b = F.env.locals ∨ b ∈ F.cc ∨ b ∈ os.map (·.2) := by
  unfold Fm.Y Fm.cc
  rw [List.mem_cons, List.mem_append]
theorem mem_Z {F : Fm} {os : Os} {b : Addr} : b ∈ F.Z os ↔ b = F.env.locals ∨ b ∈ F.env.cells.map (·.2) ∨ b ∈ os.map (·.2) := by
  unfold Fm.Z
  rw [List.mem_cons, List.mem_append]
theorem Y_new (h : ∀ p ∈ os', p ∈ os ∨ s.heap.get? p.2 = none) : ∀ c ∈ F.Y os', c ∈ F.Y os ∨ s.heap.get? c = none := fun c hc => by
  rcases mem_Y.mp hc with q | q | q
  · exact .inl (mem_Y.mpr (.inl q))
  · exact .inl (mem_Y.mpr (.inr (.inl q)))
  · obtain ⟨p, hp, rfl⟩ := List.mem_map.mp q
    rcases h p hp with z | z
    · exact .inl (mem_Y.mpr (.inr (.inr (List.mem_map_of_mem z))))
    · exact .inr z
theorem Z_new (h : ∀ p ∈ os', p ∈ os ∨ s.heap.get? p.2 = none) : ∀ c ∈ F.Z os', c ∈ F.Z os ∨ s.heap.get? c = none := fun c hc => by
  rcases mem_Z.mp hc with q | q | q
  · exact .inl (mem_Z.mpr (.inl q))
  · exact .inl (mem_Z.mpr (.inr (.inl q)))
  · obtain ⟨p, hp, rfl⟩ := List.mem_map.mp q
    rcases h p hp with z | z
    · exact .inl (mem_Z.mpr (.inr (.inr (List.mem_map_of_mem z))))
    · exact .inr z
theorem Y_Z : ∀ c ∈ F.Y os, c ∈ F.Z os := fun c hc => by
  rcases mem_Y.mp hc with q | q | q
  · exact mem_Z.mpr (.inl q)
  · exact mem_Z.mpr (.inr (.inl (cc_cells q)))
  · exact mem_Z.mpr (.inr (.inr q))
theorem Z_X : ∀ c ∈ F.Z os, c ∈ F.X Xo os := fun c hc => by
  rcases mem_Z.mp hc with q | q | q
  · exact mem_X.mpr (.inl q)
  · exact mem_X.mpr (.inr (.inl q))
  · exact mem_X.mpr (.inr (.inr (.inl q)))
theorem Y_X : ∀ c ∈ F.Y os, c ∈ F.X Xo os := fun c hc => Z_X c (Y_Z c hc)
theorem St.dead {X : List Addr} {s s' : Shared} (g : St X s s') {a : Addr} (h : s'.heap.get? a = none) : s.heap.get? a = none := by
  cases e : s.heap.get? a with
  | none => rfl
  | some o => obtain ⟨o', e'⟩ := g.alive a o e; rw [h] at e'; cases e'

/-- one behind the other -/
theorem Post.then {s₁ s₂ : Shared} {os₁ : Os} {out : Out} {f : Flow} (g : St (F.Y os) s s₁) (hos : ∀ p ∈ os₁, p ∈ os ∨ s.heap.get? p.2 = none) (q : Post G κ F Xo os₁ s₁ out f s₂) : Post G κ F Xo os s out f s₂ :=
  ⟨g.trans' q.mv (Y_new hos), let ⟨os₂, h, r⟩ := q.out; ⟨os₂, fun p hp => (h p hp).elim (hos p) fun z => .inr (g.dead z), r⟩⟩

theorem Ex.nil : Ex G k κ F σ [] (.next σ) := fun A Xo os s E R I => wpAny_execs_nil ⟨.refl, os, fun _ h => .inl h, rfl, I⟩
theorem Ex.cons {st : Stmt} {rest : List Stmt} {out : Out} (h : Ex1 G k κ F σ st (.next σ')) (h2 : Ex G k κ F σ' rest out) : Ex G k κ F σ (st :: rest) out := fun A Xo os s E R I =>
  wpAny_execs_cons (wpAny_mono (h A Xo os s E R I) (fun f s₁ q => by
    obtain ⟨g, os₁, ho, hf⟩ := q
    obtain ⟨rfl, I₁⟩ := hf
    exact wpAny_mono (h2 A Xo os₁ s₁ E R I₁) (fun f s₂ q₂ => q₂.then g ho) fun _ _ e => e) fun _ _ e => e)
theorem Ex.stop {st : Stmt} {rest : List Stmt} {out : Out} (h : Ex1 G k κ F σ st out) (ho : ∀ σ', out ≠ .next σ') : Ex G k κ F σ (st :: rest) out := fun A Xo os s E R I =>
  wpAny_execs_cons (wpAny_mono (h A Xo os s E R I) (fun f s₁ q => by
    have q' := q
    obtain ⟨g, os₁, _, hf⟩ := q
    cases out with
    | next σ' => exact absurd rfl (ho σ')
    | brk σ' => obtain ⟨rfl, _⟩ := hf; exact q'
    | ret d => obtain ⟨v, rfl, _⟩ := hf; exact q') fun _ _ e => e)
theorem Ex.one {st : Stmt} {out : Out} (h : Ex1 G k κ F σ st out) : Ex G k κ F σ [st] out := by
  cases out with
  | next σ' => exact .cons h .nil
  | brk σ' => exact .stop h fun _ e => nomatch e
  | ret d => exact .stop h fun _ e => nomatch e
noncomputable def Sub (σ' σ : Sg) : Prop := ∀ x sl, σ'.lookup x = some sl → σ.lookup x = some sl
theorem Ex.pre {sts : List Stmt} {out : Out} (h : Ex G k κ F σ' sts out) (hs : Sub σ' σ) : Ex G k κ F σ sts out := fun A Xo os s E R I => h A Xo os s E R (I.weaken hs)
theorem Ex.post {sts : List Stmt} {σ₁ σ₂ : Sg} (h : Ex G k κ F σ sts (.next σ₁)) (hs : Sub σ₂ σ₁) : Ex G k κ F σ sts (.next σ₂) := fun A Xo os s E R I =>
  wpAny_mono (h A Xo os s E R I) (fun f s' q => ⟨q.mv, let ⟨os', ho, hf, I'⟩ := q.out; ⟨os', ho, hf, I'.weaken hs⟩⟩) fun _ _ e => e
theorem Ex1.post {st : Stmt} {σ₁ σ₂ : Sg} (h : Ex1 G k κ F σ st (.next σ₁)) (hs : Sub σ₂ σ₁) : Ex1 G k κ F σ st (.next σ₂) := fun A Xo os s E R I =>
  wpAny_mono (h A Xo os s E R I) (fun f s' q => ⟨q.mv, let ⟨os', ho, hf, I'⟩ := q.out; ⟨os', ho, hf, I'.weaken hs⟩⟩) fun _ _ e => e

theorem lookup_cons' {α : Type} {x y : Str} {a b : α} {l : List (Str × α)} (h : ((x, a) :: l).lookup y = some b) : (y = x ∧ b = a) ∨ (y ≠ x ∧ l.lookup y = some b) := by
  rw [List.lookup_cons] at h
  by_cases e : y = x
  · subst e
    simp at h
    exact .inl ⟨rfl, h.symm⟩
  · have : (y == x) = false := beq_eq_false_iff_ne.mpr e
    rw [this] at h
    exact .inr ⟨e, h⟩
theorem lookup_self {α : Type} {x : Str} {a : α} {l : List (Str × α)} : ((x, a) :: l).lookup x = some a := by rw [List.lookup_cons]; simp
theorem lookup_ne {α : Type} {x y : Str} {a : α} {l : List (Str × α)} (h : y ≠ x) : ((x, a) :: l).lookup y = l.lookup y := by
  rw [List.lookup_cons, beq_eq_false_iff_ne.mpr h]

theorem Rep.turn {h h' : Heap} {X : List Addr} {c : Addr} {d : D} {v : Value} (r : Rep X h d v) (hs : Heap.SameBut c h h') (hc : c ∈ X) : Rep X h' d v :=
  Rep.move (fun a o ha e => hs.extBut a o (fun (q : a = c) => ha (by rw [q]; exact hc)) e) (fun a q => .inl q) r
theorem RepAll.turn {h h' : Heap} {X : List Addr} {c : Addr} {d : List D} {v : List Value} (r : RepAll X h d v) (hs : Heap.SameBut c h h') (hc : c ∈ X) : RepAll X h' d v :=
  RepAll.move (fun a o ha e => hs.extBut a o (fun (q : a = c) => ha (by rw [q]; exact hc)) e) (fun a q => .inl q) r
theorem St.turn {s0 s : Shared} {h' : Heap} {tk : Nat} {c : Addr} {o' : Obj} (g : St [] s0 s) (hs : Heap.SameBut c s.heap h') (ho' : h'.get? c = some o') (h0 : s0.heap.get? c = none) (hn : s.toks ≤ tk := by first | exact Nat.le_refl _ | exact Nat.le_succ _ | omega | (dsimp only; omega)) : St [] s0 { s with heap := h', toks := tk } :=
  ⟨g.drawn, g.os, Nat.le_trans g.toks hn, g.gens, fun b o hb e => hs.extBut b o (fun (q : b = c) => by rw [q, h0] at e; cases e) (g.heap b o hb e), fun b o e => by
    by_cases q : b = c
    · subst q; exact ⟨o', ho'⟩
    · obtain ⟨o₁, e₁⟩ := g.alive b o e; exact ⟨o₁, hs.extBut b o₁ q e₁⟩⟩
theorem cmem {F : Fm} {x : Str} {c : Addr} (h : F.env.cells.lookup x = some c) : c ∈ F.env.cells.map (·.2) := List.mem_map_of_mem (f := (·.2)) (mem_of_lookup h)
theorem ccmem {F : Fm} {x : Str} {c : Addr} (h : F.env.cells.lookup x = some c) (hx : x ∈ F.cf) : c ∈ F.cc := by
  unfold Fm.cc
  exact List.mem_map_of_mem (f := (·.2)) (a := (x, c)) (List.mem_filter.mpr ⟨mem_of_lookup h, by simp [hx]⟩)
theorem Inv.cellX (I : Inv G κ F σ Xo os s) {x : Str} {c : Addr} (h : F.env.cells.lookup x = some c) : c ∈ F.X Xo os := mem_X.mpr (.inr (.inl (List.mem_map_of_mem (f := (·.2)) (mem_of_lookup h))))
theorem Inv.osX (I : Inv G κ F σ Xo os s) {x : Str} {a : Addr} (h : os.lookup x = some a) : a ∈ F.X Xo os := mem_X.mpr (.inr (.inr (.inl (List.mem_map_of_mem (f := (·.2)) (mem_of_lookup h)))))
theorem Inv.LX (I : Inv G κ F σ Xo os s) : F.env.locals ∈ F.X Xo os := mem_X.mpr (.inl rfl)

theorem os_name : ∀ {os : Os}, (os.Pairwise fun x y => x.2 ≠ y.2) → ∀ {n n' : Str} {c : Addr}, os.lookup n = some c → os.lookup n' = some c → n = n' := fun hp _ _ _ h h' => name_of_addr hp (mem_of_lookup h) (mem_of_lookup h')

/-- a name is stored -/
theorem Inv.storeSlot {x : Str} {sl : Slot} {v : Value} {A : Around} {E : Value → Shared → Prop} {Q : Unit → Shared → Prop} (I : Inv G κ F σ Xo os s) (hk : κ.names.lookup x = some .local ∨ (κ.names.lookup x = some .cell ∧ x ∈ F.cf))
    (r : ∀ c h', c ∈ F.X Xo os → (∀ b, os.lookup x = some b → b ≠ c) → Heap.SameBut c s.heap h' → SlotAt h' (F.X Xo os) os x sl v) (h : ∀ s', Inv G κ F ((x, sl) :: σ) Xo os s' → St (F.Y os) s s' → Q () s') : wpAny G.M A (storeName F.env x v) Q E s := by
  have hkind : F.env.scope.kind = .function := by rw [I.scope]; exact I.kind
  rcases hk with hk | ⟨hk, hcf⟩
  · obtain ⟨m, hn⟩ := I.ns
    refine wpAny_storeName_local (by rw [Env.kindOf, I.scope]; exact hk) hn (fun h' hn' hs' => ?_) (by rw [hkind]; rfl)
    replace hs' : Heap.SameBut F.env.locals s.heap h' := hs'
    obtain ⟨o', _, _, ho', _⟩ := id hn'
    obtain ⟨o, _, _, ho, _⟩ := id hn
    refine h _ ?_ (.same hs' ho ho' (mem_Y.mpr (.inl rfl)))
    exact {
      scope := I.scope, kind := I.kind, glob := I.glob, bi := I.bi, base := I.base, tk := I.tk
      st := I.st.turn hs' ho' I.Lnew
      Lnew := I.Lnew, osnew := I.osnew, cfnew := I.cfnew
      live := fun b hb => by
        by_cases q : b = F.env.locals
        · exact ⟨o', by rw [q]; exact ho'⟩
        · obtain ⟨o₁, e⟩ := I.live b hb; exact ⟨o₁, hs'.extBut b o₁ q e⟩
      ns := ⟨_, hn'⟩
      cells := fun y c hc => ⟨let ⟨ov, hi⟩ := (I.cells y c hc).1; ⟨ov, hi.sameBut hs' (I.cells y c hc).2⟩, (I.cells y c hc).2⟩
      cellinj := I.cellinj, ossep := I.ossep, osoff := I.osoff, osout := I.osout, ghost := fun p hp => (I.ghost p hp).turn hs' I.LX
      var := fun y sl₂ hy => by
        rcases lookup_cons' hy with ⟨rfl, rfl⟩ | ⟨hne, hy⟩
        · refine ⟨v, ?_, r _ _ I.LX (fun b hb => (I.osoff _ (mem_of_lookup hb)).1) hs'⟩
          unfold VarAt
          rw [I.scope, hk]
          exact ⟨_, hn', by simp⟩
        · obtain ⟨u, hu, hsl⟩ := I.var y sl₂ hy
          refine ⟨u, ?_, ?_⟩
          · unfold VarAt at hu ⊢
            split at hu
            · obtain ⟨m₂, hn₂, hm₂⟩ := hu
              exact ⟨_, hn', by simp only [hne, if_false]; rw [← hm₂]; exact PySem.Heap.Ns.agree hn hn₂ y⟩
            · obtain ⟨c, hc, hi⟩ := hu
              exact ⟨c, hc, hi.sameBut hs' (I.cells y c hc).2⟩
            · exact hu
          · cases sl₂ with
            | val d' => exact Rep.turn hsl hs' I.LX
            | raw u => exact hsl
            | own p xs =>
              obtain ⟨a, vs, h1, h2, h3, hp, h4⟩ := hsl
              exact ⟨a, vs, h1, h2, h3.extBut hs'.extBut (I.osoff _ (mem_of_lookup h1)).1, fun q => (hp q).extBut hs'.extBut (I.osoff _ (mem_of_lookup h1)).1, h4.turn hs' I.LX⟩ }
  · obtain ⟨c, hc, h0⟩ := I.cfnew x hcf
    obtain ⟨⟨ov, hi⟩, hcL⟩ := I.cells x c hc
    refine wpAny_storeName_cell hkind (by rw [Env.kindOf, I.scope]; exact hk) hc hi fun h' hi' hs' => ?_
    replace hs' : Heap.SameBut c s.heap h' := hs'
    obtain ⟨o', ho', _⟩ := id hi'
    obtain ⟨o, ho, _⟩ := id hi
    have hcX := I.cellX hc
    refine h _ ?_ (.same (tk := s.toks) hs' ho ho' (mem_Y.mpr (.inr (.inl (ccmem hc hcf)))))
    exact {
      scope := I.scope, kind := I.kind, glob := I.glob, bi := I.bi, base := I.base, tk := I.tk
      st := I.st.turn (tk := s.toks) hs' ho' h0
      Lnew := I.Lnew, osnew := I.osnew, cfnew := I.cfnew
      live := fun b hb => by
        by_cases q : b = c
        · exact ⟨o', by rw [q]; exact ho'⟩
        · obtain ⟨o₁, e⟩ := I.live b hb; exact ⟨o₁, hs'.extBut b o₁ q e⟩
      ns := let ⟨m, hn⟩ := I.ns; ⟨m, hn.sameBut hs' (Ne.symm hcL)⟩
      cells := fun y c' hc' => ⟨by
        by_cases q : c' = c
        · exact ⟨_, by rw [q]; exact hi'⟩
        · obtain ⟨ov', hi₂⟩ := (I.cells y c' hc').1; exact ⟨ov', hi₂.sameBut hs' q⟩, (I.cells y c' hc').2⟩
      cellinj := I.cellinj, ossep := I.ossep, osoff := I.osoff, osout := I.osout, ghost := fun p hp => (I.ghost p hp).turn hs' hcX
      var := fun y sl₂ hy => by
        rcases lookup_cons' hy with ⟨rfl, rfl⟩ | ⟨hne, hy⟩
        · refine ⟨v, ?_, r _ _ hcX (fun b hb => (I.osoff _ (mem_of_lookup hb)).2 _ (cmem hc)) hs'⟩
          unfold VarAt
          rw [I.scope, hk]
          exact ⟨c, hc, hi'⟩
        · obtain ⟨u, hu, hsl⟩ := I.var y sl₂ hy
          refine ⟨u, ?_, ?_⟩
          · unfold VarAt at hu ⊢
            split at hu
            · obtain ⟨m₂, hn₂, hm₂⟩ := hu
              exact ⟨_, hn₂.sameBut hs' (Ne.symm hcL), hm₂⟩
            · obtain ⟨c', hc', hi₂⟩ := hu
              exact ⟨c', hc', hi₂.sameBut hs' fun q => hne (I.cellinj y x c (q ▸ hc') hc)⟩
            · exact hu
          · cases sl₂ with
            | val d' => exact Rep.turn hsl hs' hcX
            | raw u => exact hsl
            | own p xs =>
              obtain ⟨a, vs, h1, h2, h3, hp, h4⟩ := hsl
              exact ⟨a, vs, h1, h2, h3.extBut hs'.extBut ((I.osoff _ (mem_of_lookup h1)).2 c (cmem hc)), fun q => (hp q).extBut hs'.extBut ((I.osoff _ (mem_of_lookup h1)).2 c (cmem hc)), h4.turn hs' hcX⟩ }
theorem Inv.storeVal {x : Str} {d : D} {v : Value} {A : Around} {E : Value → Shared → Prop} {Q : Unit → Shared → Prop} (I : Inv G κ F σ Xo os s) (hk : κ.names.lookup x = some .local ∨ (κ.names.lookup x = some .cell ∧ x ∈ F.cf))
    (r : Rep (F.X Xo os) s.heap d v) (h : ∀ s', Inv G κ F ((x, .val d) :: σ) Xo os s' → St (F.Y os) s s' → Q () s') : wpAny G.M A (storeName F.env x v) Q E s :=
  Inv.storeSlot (sl := .val d) I hk (fun c h' hc _ hs => Rep.turn r hs hc) h

noncomputable def drop (x : Str) (σ : Sg) : Sg := σ.filter fun p => p.1 != x
theorem drop_ne {x y : Str} (h : y ≠ x) : ∀ (σ : Sg), (drop x σ).lookup y = σ.lookup y
  | [] => rfl
  | (z, sl) :: σ => by
    have ih := drop_ne h σ
    unfold drop at ih ⊢
    by_cases e : z = x
    · rw [List.filter_cons_of_neg (by simp [e]), ih, lookup_ne (by rw [e]; exact h)]
    · rw [List.filter_cons_of_pos (by simp [e])]
      by_cases q : y = z
      · rw [q, lookup_self, lookup_self]
      · rw [lookup_ne q, lookup_ne q, ih]
theorem drop_self {x : Str} : ∀ (σ : Sg), (drop x σ).lookup x = none
  | [] => rfl
  | (z, sl) :: σ => by
    have ih := drop_self (x := x) σ
    unfold drop at ih ⊢
    by_cases e : z = x
    · rw [List.filter_cons_of_neg (by simp [e]), ih]
    · rw [List.filter_cons_of_pos (by simp [e]), lookup_ne (Ne.symm e), ih]

/-- a fresh list becomes x's own -/
theorem Inv.addOs {x : Str} {a : Addr} {s₁ : Shared} (I : Inv G κ F σ Xo os s) (g : St [] s s₁) (ha : s.heap.get? a = none) (hal : ∃ o, s₁.heap.get? a = some o) : Inv G κ F (drop x σ) Xo ((x, a) :: os) s₁ := by
  have I₁ := I.grow g
  have hX : ∀ c ∈ F.X Xo ((x, a) :: os), c ∈ F.X Xo os ∨ s.heap.get? c = none := X_new fun p hp => by
    rcases List.mem_cons.mp hp with rfl | q
    · exact .inr ha
    · exact .inl q
  have hne : ∀ b, (∃ o, s.heap.get? b = some o) → a ≠ b := fun b ⟨o, e⟩ q => by rw [← q, ha] at e; cases e
  exact {
    scope := I.scope, kind := I.kind, glob := I.glob, bi := I.bi, base := I.base, tk := I.tk
    st := I₁.st, Lnew := I.Lnew, cfnew := I.cfnew
    osnew := fun p hp => by
      rcases List.mem_cons.mp hp with rfl | q
      · exact I.st.dead ha
      · exact I.osnew p q
    live := fun b hb => by
      rcases mem_X.mp hb with q | q | q | q
      · exact I₁.live b (mem_X.mpr (.inl q))
      · exact I₁.live b (mem_X.mpr (.inr (.inl q)))
      · rw [List.map_cons] at q
        rcases List.mem_cons.mp q with rfl | q
        · exact hal
        · exact I₁.live b (mem_X.mpr (.inr (.inr (.inl q))))
      · exact I₁.live b (mem_X.mpr (.inr (.inr (.inr q))))
    ns := I₁.ns, cells := I₁.cells, cellinj := I.cellinj
    ossep := List.pairwise_cons.mpr ⟨fun p hp => hne _ (I.live _ (mem_X.mpr (.inr (.inr (.inl (List.mem_map_of_mem hp)))))), I.ossep⟩
    osoff := fun p hp => by
      rcases List.mem_cons.mp hp with rfl | q
      · exact ⟨hne _ (I.live _ I.LX), fun c hc => hne _ (I.live _ (mem_X.mpr (.inr (.inl hc))))⟩
      · exact I.osoff p q
    osout := fun p hp => by
      rcases List.mem_cons.mp hp with rfl | q
      · exact fun hm => by obtain ⟨o, e⟩ := I.live a (mem_X.mpr (.inr (.inr (.inr hm)))); rw [ha] at e; cases e
      · exact I.osout p q
    ghost := fun p hp => Rep.move (fun b o _ q => g.keep b o q) hX (I.ghost p hp)
    var := fun y sl hy => by
      by_cases e : y = x
      · rw [e, drop_self] at hy; cases hy
      · rw [drop_ne e] at hy
        obtain ⟨v, hv, hsl⟩ := I.var y sl hy
        refine ⟨v, hv.grow g.keep, ?_⟩
        cases sl with
        | val d => exact Rep.move (fun b o _ q => g.keep b o q) hX hsl
        | raw u => exact hsl
        | own p xs =>
          obtain ⟨b, vs, h1, h2, h3, hp, h4⟩ := hsl
          refine ⟨b, vs, by rw [lookup_ne e]; exact h1, h2, ?_, fun q => (hp q).at fun o z => g.keep b o z, RepAll.move (fun b o _ q => g.keep b o q) hX h4⟩
          obtain ⟨o, ho, z⟩ := h3; exact ⟨o, g.keep b o ho, z⟩ }

/-- x's own list has turned -/
theorem Inv.setOwn {x : Str} {p p' : Bool} {xs xs' : List D} {a : Addr} {vs' : Array Value} {h' : Heap} {tk : Nat} (I : Inv G κ F σ Xo os s) (hx : σ.lookup x = some (.own p xs)) (ha : os.lookup x = some a)
    (hs : Heap.SameBut a s.heap h') (hl : h'.IsList a vs') (hp : p' = true → h'.PlainList a vs') (r : RepAll (F.X Xo os) s.heap xs' vs'.toList) (hn : s.toks ≤ tk := by first | exact Nat.le_refl _ | exact Nat.le_succ _ | omega | (dsimp only; omega)) : Inv G κ F ((x, .own p' xs') :: σ) Xo os { s with heap := h', toks := tk } ∧ St (F.Y os) s { s with heap := h', toks := tk } := by
  have haX := I.osX ha
  obtain ⟨o, ho⟩ := I.live a haX
  obtain ⟨o', ho', _⟩ := id hl
  have hm := mem_of_lookup ha
  refine ⟨?_, .same hs ho ho' (mem_Y.mpr (.inr (.inr (List.mem_map_of_mem (f := (·.2)) hm)))) hn⟩
  exact {
    scope := I.scope, kind := I.kind, glob := I.glob, bi := I.bi, base := I.base, tk := I.tk
    st := I.st.turn hs ho' (I.osnew _ hm) hn
    Lnew := I.Lnew, osnew := I.osnew, cfnew := I.cfnew
    live := fun b hb => by
      by_cases q : b = a
      · exact ⟨o', by rw [q]; exact ho'⟩
      · obtain ⟨o₁, e⟩ := I.live b hb; exact ⟨o₁, hs.extBut b o₁ q e⟩
    ns := let ⟨m, hn⟩ := I.ns; ⟨m, hn.sameBut hs (Ne.symm (I.osoff _ hm).1)⟩
    cells := fun y c hc => ⟨let ⟨ov, hi⟩ := (I.cells y c hc).1; ⟨ov, hi.sameBut hs (Ne.symm ((I.osoff _ hm).2 c (cmem hc)))⟩, (I.cells y c hc).2⟩
    cellinj := I.cellinj, ossep := I.ossep, osoff := I.osoff, osout := I.osout, ghost := fun p hp => (I.ghost p hp).turn hs haX
    var := fun y sl hy => by
      have vat : ∀ y v, VarAt s.heap F.env y v → VarAt h' F.env y v := fun y v hv => by
        unfold VarAt at hv ⊢
        split at hv
        · obtain ⟨m₂, hn₂, hm₂⟩ := hv
          exact ⟨_, hn₂.sameBut hs (Ne.symm (I.osoff _ hm).1), hm₂⟩
        · obtain ⟨c', hc', hi₂⟩ := hv
          exact ⟨c', hc', hi₂.sameBut hs (Ne.symm ((I.osoff _ hm).2 _ (cmem hc')))⟩
        · exact hv
      rcases lookup_cons' hy with ⟨rfl, rfl⟩ | ⟨hne, hy⟩
      · obtain ⟨v, hv, hsl⟩ := I.var y _ hx
        obtain ⟨b, vs, h1, h2, _⟩ := hsl
        rw [ha] at h1; cases h1
        exact ⟨v, vat _ _ hv, a, vs', ha, h2, hl, hp, r.turn hs haX⟩
      · obtain ⟨v, hv, hsl⟩ := I.var y sl hy
        refine ⟨v, vat _ _ hv, ?_⟩
        cases sl with
        | val d => exact Rep.turn hsl hs haX
        | raw u => exact hsl
        | own q ys =>
          obtain ⟨b, vs, h1, h2, h3, hq, h4⟩ := hsl
          have hba : b ≠ a := fun e => hne (os_name I.ossep (e ▸ h1) ha)
          refine ⟨b, vs, h1, h2, h3.extBut hs.extBut hba, fun z => (hq z).extBut hs.extBut hba, h4.turn hs haX⟩ }

/-- an own list stands still from here on -/
theorem Inv.freeze {x : Str} {p : Bool} {xs : List D} (I : Inv G κ F σ Xo os s) (hx : σ.lookup x = some (.own p xs)) : ∃ os', (∀ q ∈ os', q ∈ os) ∧ Inv G κ F ((x, .val (.list xs)) :: σ) Xo os' s := by
  obtain ⟨v, hv, hsl⟩ := I.var x _ hx
  obtain ⟨a, vs, ha, rfl, hl, hp, r⟩ := hsl
  refine ⟨os.filter fun q => q.1 != x, fun q hq => (List.mem_filter.mp hq).1, ?_⟩
  have lk : ∀ y, y ≠ x → (os.filter fun q => q.1 != x).lookup y = os.lookup y := fun y h => by
    generalize os = l
    induction l with
    | nil => rfl
    | cons q l ih =>
      obtain ⟨z, b⟩ := q
      by_cases e : z = x
      · rw [List.filter_cons_of_neg (by simp [e]), ih, lookup_ne (by rw [e]; exact h)]
      · rw [List.filter_cons_of_pos (by simp [e])]
        by_cases q : y = z
        · rw [q, lookup_self, lookup_self]
        · rw [lookup_ne q, lookup_ne q, ih]
  have hsub : ∀ c ∈ F.X Xo (os.filter fun q => q.1 != x), c ∈ F.X Xo os := fun c hc => by
    rcases mem_X.mp hc with q | q | q | q
    · exact mem_X.mpr (.inl q)
    · exact mem_X.mpr (.inr (.inl q))
    · obtain ⟨p, hp, rfl⟩ := List.mem_map.mp q
      exact mem_X.mpr (.inr (.inr (.inl (List.mem_map_of_mem (List.mem_filter.mp hp).1))))
    · exact mem_X.mpr (.inr (.inr (.inr q)))
  have ham := mem_of_lookup ha
  exact {
    scope := I.scope, kind := I.kind, glob := I.glob, bi := I.bi, base := I.base, tk := I.tk, st := I.st
    Lnew := I.Lnew, osnew := fun q hq => I.osnew q (List.mem_filter.mp hq).1, cfnew := I.cfnew
    live := fun b hb => I.live b (hsub b hb)
    ns := I.ns, cells := I.cells, cellinj := I.cellinj, ossep := I.ossep.filter _, osoff := fun q hq => I.osoff q (List.mem_filter.mp hq).1, osout := fun q hq => I.osout q (List.mem_filter.mp hq).1, ghost := fun p hp => (I.ghost p hp).sub hsub
    var := fun y sl hy => by
      rcases lookup_cons' hy with ⟨rfl, rfl⟩ | ⟨hne, hy⟩
      · refine ⟨_, hv, .ofList (fun hm => ?_) hl (r.sub hsub)⟩
        rcases mem_X.mp hm with q | q | q | q
        · exact (I.osoff _ ham).1 q
        · exact (I.osoff _ ham).2 _ q rfl
        · obtain ⟨q', hq', e⟩ := List.mem_map.mp q
          have := (List.mem_filter.mp hq')
          have hn : q'.1 ≠ y := by simpa using this.2
          exact hn (name_of_addr I.ossep (show (q'.1, q'.2) ∈ os from this.1) (by rw [e]; exact ham))
        · exact I.osout _ ham q
      · obtain ⟨v, hv, hsl⟩ := I.var y sl hy
        refine ⟨v, hv, ?_⟩
        cases sl with
        | val d => exact Rep.sub hsl hsub
        | raw u => exact hsl
        | own q ys =>
          obtain ⟨b, vs, h1, h2, h3, hq, h4⟩ := hsl
          exact ⟨b, vs, by rw [lk y hne]; exact h1, h2, h3, hq, h4.sub hsub⟩ }
end
end Mine
end E3

noncomputable section E4
open PySem PySem.Calls PyProof.Rows
set_option Elab.async false
set_option linter.unusedVariables false
namespace Mine

noncomputable def Op2i (G : Gd) (k : Nat) (op : Operator) (d1 d2 d : D) : Prop := ∀ A X s v1 v2 E, Room k A → Live X s → Rep X s.heap d1 v1 → Rep X s.heap d2 v2 →
  wpAny G.M A (inplaceOp op v1 v2) (fun v s' => St [] s s' ∧ Rep X s'.heap d v) E s

/-- the name is one of the frame's own -/
noncomputable def Own (κ : Scope) (F : Fm) (x : Str) : Prop := κ.names.lookup x = some .local ∨ (κ.names.lookup x = some .cell ∧ x ∈ F.cf)

section
variable {G : Gd} {k : Nat} {κ : Scope} {F : Fm} {σ σ' : Sg} {Xo : Ou} {os os' : Os} {s s' : Shared}

theorem Rep.past {d : D} {v : Value} (r : Rep (F.X Xo os) s.heap d v) (g : St (F.Y os) s s') : Rep (F.X Xo os) s'.heap d v :=
  Rep.move (fun a o ha e => g.heap a o (fun hy => ha (Y_X a hy)) e) (fun _ q => .inl q) r
theorem Ex1.assign {x : Str} {e : Expr} {d : D} {p pos : Pos} (h : Ev G k κ F σ e d) (hk : Own κ F x) (hs : ∀ env, swapsWith e (some (.Name x p)) pos.line env = pure false) :
    Ex1 G k κ F σ (.Assign [.Name x p] e pos) (.next ((x, .val d) :: σ)) := fun A Xo os s E R I =>
  wpAny_Assign_Name (wp_st (β := Unit) (h A Xo os s E R I) fun v s1 g1 r1 => (I.grow g1).storeVal hk r1 fun s2 I2 g2 => ⟨g1.up.trans g2, os, fun _ h => .inl h, rfl, I2⟩) (hs _)
theorem drop_cons {x : Str} {sl : Slot} {σ : Sg} : Sub ((x, sl) :: σ) ((x, sl) :: drop x σ) := fun y sl' h => by
  rcases lookup_cons' h with ⟨rfl, rfl⟩ | ⟨hne, h⟩
  · exact lookup_self
  · rw [lookup_ne hne, drop_ne hne]; exact h
theorem Ex1.assignOwn {x : Str} {e : Expr} {xs : List D} {p pos : Pos} (h : EvN G k κ F σ e xs) (hk : κ.names.lookup x = some .local) (hs : ∀ env, swapsWith e (some (.Name x p)) pos.line env = pure false) :
    Ex1 G k κ F σ (.Assign [.Name x p] e pos) (.next ((x, .own true xs) :: σ)) := fun A Xo os s E R I =>
  wpAny_Assign_Name (wp_st (β := Unit) (h A Xo os s E R I) fun v s1 g1 r1 => by
    obtain ⟨a, vs, rfl, ha, hp, r⟩ := r1
    obtain ⟨n, hn⟩ := id hp
    have I1 := I.addOs (x := x) g1 ha ⟨_, hn⟩
    have hX : ∀ c ∈ F.X Xo ((x, a) :: os), c ∈ a :: F.X Xo os := fun c hc => by
      rcases mem_X.mp hc with q | q | q | q
      · exact .tail _ (mem_X.mpr (.inl q))
      · exact .tail _ (mem_X.mpr (.inr (.inl q)))
      · rw [List.map_cons] at q
        rcases List.mem_cons.mp q with q | q
        · rw [q]; exact .head _
        · exact .tail _ (mem_X.mpr (.inr (.inr (.inl q))))
      · exact .tail _ (mem_X.mpr (.inr (.inr (.inr q))))
    refine I1.storeSlot (sl := .own true xs) (.inl hk) (fun c h' hc hne hs' => ⟨a, vs, lookup_self, rfl, hp.isList.extBut hs'.extBut (hne a lookup_self), fun _ => hp.extBut hs'.extBut (hne a lookup_self), (r.sub hX).turn hs' hc⟩) fun s2 I2 g2 => ?_
    exact ⟨g1.up.trans' g2 (Y_new fun p hp => by
      rcases List.mem_cons.mp hp with rfl | q
      · exact .inr ha
      · exact .inl q), (x, a) :: os, fun p hp => by
      rcases List.mem_cons.mp hp with rfl | q
      · exact .inr ha
      · exact .inl q, rfl, I2.weaken drop_cons⟩) (hs _)
theorem Ex1.assign2 {x y : Str} {e : Expr} {d : D} {p q pos : Pos} (h : Ev G k κ F σ e d) (hx : Own κ F x) (hy : Own κ F y) (hs : ∀ env, swappedStores [.Name x p, .Name y q] e env = pure none) :
    Ex1 G k κ F σ (.Assign [.Name x p, .Name y q] e pos) (.next ((y, .val d) :: (x, .val d) :: σ)) := fun A Xo os s E R I =>
  wpAny_Assign_two (wp_st (β := Unit) (h A Xo os s E R I) fun v s1 g1 r1 => wpAny_assign_Name ((I.grow g1).storeSlot (sl := .val d) hx (fun c h' hc _ hs => Rep.turn r1 hs hc) fun s2 I2 g2 => by
    exact wpAny_assign_Name (I2.storeVal hy (Rep.past r1 g2) fun s3 I3 g3 => ⟨(g1.up.trans g2).trans g3, os, fun _ h => .inl h, rfl, I3⟩))) rfl (hs _)
theorem Ex1.aug {x : Str} {op : Operator} {e : Expr} {d1 d2 d : D} {p pos : Pos} (hx : σ.lookup x = some (.val d1)) (h : Ev G k κ F σ e d2) (ho : Op2i G k op d1 d2 d) (hk : Own κ F x) :
    Ex1 G k κ F σ (.AugAssign (.Name x p) op e pos) (.next ((x, .val d) :: σ)) := fun A Xo os s E R I =>
  wpAny_AugAssign_Name (I.load hx fun v1 r1 => wp_st (β := Unit) (h A Xo os s E R I) fun v2 s2 g2 r2 =>
    wp_st (β := Unit) (ho A (F.X Xo os) s2 v1 v2 E R (I.lives.grow g2) (Rep.grow r1 g2.keep) r2) fun v s3 g3 r3 =>
      (I.grow (g2.trans g3)).storeVal hk r3 fun s4 I4 g4 => ⟨(g2.trans g3).up.trans g4, os, fun _ h => .inl h, rfl, I4⟩)
theorem Ex1.if_t {t : Expr} {body orelse : List Stmt} {out : Out} {pos : Pos} (ht : EvT G k κ F σ t true) (h : Ex G k κ F σ body out) : Ex1 G k κ F σ (.If t body orelse pos) out := fun A Xo os s E R I =>
  wpAny_If (wp_st (β := Unit) (ht A Xo os s E R I) fun b s1 g1 r1 => by
    subst r1; simp only [if_true]
    exact wpAny_mono (h A Xo os s1 E R (I.grow g1)) (fun f s2 q => q.then g1.up fun _ h => .inl h) fun _ _ e => e)
theorem Ex1.if_f {t : Expr} {body orelse : List Stmt} {out : Out} {pos : Pos} (ht : EvT G k κ F σ t false) (h : Ex G k κ F σ orelse out) : Ex1 G k κ F σ (.If t body orelse pos) out := fun A Xo os s E R I =>
  wpAny_If (wp_st (β := Unit) (ht A Xo os s E R I) fun b s1 g1 r1 => by
    subst r1; simp only [Bool.false_eq_true, if_false]
    exact wpAny_mono (h A Xo os s1 E R (I.grow g1)) (fun f s2 q => q.then g1.up fun _ h => .inl h) fun _ _ e => e)
theorem Ex1.ret {e : Expr} {d : D} {pos : Pos} (h : Ev G k κ F σ e d) : Ex1 G k κ F σ (.Return (some e) pos) (.ret d) := fun A Xo os s E R I =>
  wpAny_Return_some (wp_st (β := Unit) (h A Xo os s E R I) fun v s1 g1 r1 => ⟨g1.up, os, fun _ h => .inl h, v, rfl, (I.grow g1).weaken fun _ _ h => by simp at h, r1⟩)
theorem Ex1.brk {pos : Pos} : Ex1 G k κ F σ (.Break pos) (.brk σ) := fun A Xo os s E R I => wpAny_Break ⟨.refl, os, fun _ h => .inl h, rfl, I⟩
theorem Ex.freeze {x : Str} {p : Bool} {xs : List D} {sts : List Stmt} {out : Out} (hx : σ.lookup x = some (.own p xs)) (h : Ex G k κ F ((x, .val (.list xs)) :: σ) sts out) : Ex G k κ F σ sts out := fun A Xo os s E R I => by
  obtain ⟨os', hos, I'⟩ := I.freeze hx
  refine wpAny_mono (h A Xo os' s E R I') (fun f s2 q => q.then (s := s) ?_ fun p hp => .inl (hos p hp)) fun _ _ e => e
  exact .refl
theorem Ex1.append {x : Str} {e : Expr} {xs : List D} {d : D} {np apos cpos pos : Pos} (hx : σ.lookup x = some (.own true xs)) (h : Ev G k κ F σ e d) (hl : xs.length ≤ sizeLine) (hd : (x == ("__debug__" : Str)) = false)
    (hst : ∀ env, backTo cpos (starEach [e] env) = [(false, eval e env)]) (hline : (apos.endLine == cpos.line) = true) :
    Ex1 G k κ F σ (.Expr (.Call (.Attribute (.Name x np) "append" apos) [e] [] cpos) pos) (.next ((x, .own true (xs ++ [d])) :: σ)) := fun A Xo os s E R I => by
  have hkind : F.env.scope.kind = .function := by rw [I.scope]; exact I.kind
  refine wpAny_Expr (wpAny_Call_append rfl ?_ hline (hst _) (wpAny_Name (I.load hx fun v hsl => ?_) hd)) (by unfold interactive; rw [hkind]; rfl) rfl
  · rw [hst]; rfl
  · obtain ⟨a, vs, ha, rfl, hli, hp, r⟩ := hsl
    obtain ⟨n, hn⟩ := hp rfl
    refine ⟨a, vs, rfl, ⟨_, n, hn, rfl, rfl, rfl⟩, wp_st (β := Unit) (h A Xo os s E R I) fun v s1 g1 r1 => ?_⟩
    have hsz := r.length
    refine wpAny_list_append_plain ((hp rfl).at fun o e => g1.keep a o e) (fun h' hp' hs' => ?_) (by simp at hsz; omega)
    have z := (I.grow g1).setOwn (p' := true) (xs' := xs ++ [d]) (tk := s1.toks) hx ha hs' hp'.isList (fun _ => hp') (by rw [Array.toList_push]; exact (r.grow g1.keep).append (.one r1))
    exact ⟨g1.up.trans z.2, os, fun _ h => .inl h, rfl, z.1⟩
theorem Ex1.setItem {x : Str} {p : Bool} {ei e : Expr} {xs : List D} {i : Int} {d : D} {np spos pos : Pos} (hx : σ.lookup x = some (.own p xs)) (h : Ev G k κ F σ e d) (hi : Ev G k κ F σ ei (.int i)) (h0 : 0 ≤ i) (h1 : i < xs.length) (hl : xs.length ≤ sizeLine)
    (hd : (x == ("__debug__" : Str)) = false) (hs : ∀ env, swapsWith e (some (.Subscript (.Name x np) ei spos)) pos.line env = pure false) :
    Ex1 G k κ F σ (.Assign [.Subscript (.Name x np) ei spos] e pos) (.next ((x, .own false (xs.set i.toNat d)) :: σ)) := fun A Xo os s E R I => by
  refine wpAny_Assign_Subscript (wp_st (β := Unit) (h A Xo os s E R I) fun v s1 g1 r1 => wpAny_Name ((I.grow g1).load hx fun lv hsl => ?_) hd) (hs _)
  obtain ⟨a, vs, ha, rfl, hli, hp, r⟩ := hsl
  refine wp_st (β := Unit) (hi A Xo os s1 E R (I.grow g1)) fun iv s2 g2 r2 => ?_
  obtain ⟨t, rfl⟩ := r2.int'
  have hsz : vs.size = xs.length := by simpa using r.length
  rw [sizeLine_eq] at hl
  refine wpAny_setItem_list (hli.at fun o e => g2.keep a o e) h0 (by omega) (by omega) fun h' hl' hs' => ?_
  have hr : RepAll (F.X Xo os) s2.heap (xs.set i.toNat d) (vs.setIfInBounds i.toNat v).toList := by
    refine RepAll.ofGet (by simp [hsz]) fun j d' v' h1 h2 => ?_
    rw [Array.toList_setIfInBounds] at h2
    rw [List.getElem?_set] at h1 h2
    by_cases q : i.toNat = j
    · rw [if_pos q] at h1 h2
      rw [if_pos (by omega)] at h1
      rw [if_pos (by simp; omega)] at h2
      cases h1; cases h2
      exact r1.grow g2.keep
    · rw [if_neg q] at h1 h2
      obtain ⟨d'', e1, e2⟩ := RepAll.get' j (r.grow g2.keep) h2
      rw [h1] at e1; cases e1; exact e2
  have z := (I.grow (g1.trans g2)).setOwn (p' := false) (tk := s2.toks) hx ha hs' hl' (fun q => nomatch q) hr
  exact ⟨(g1.trans g2).up.trans z.2, os, fun _ h => .inl h, rfl, z.1⟩

-- the in-place operators
theorem Op2i.addI {a b : Int} : Op2i G k .Add (.int a) (.int b) (.int (a + b)) := fun A X s v1 v2 E R l r1 r2 => by
  obtain ⟨t, rfl⟩ := r1.int'; obtain ⟨u, rfl⟩ := r2.int'
  exact PyProof.Rows.iadd_int ⟨.tok, .ofInt⟩
theorem Op2i.subI {a b : Int} : Op2i G k .Sub (.int a) (.int b) (.int (a - b)) := fun A X s v1 v2 E R l r1 r2 => by
  obtain ⟨t, rfl⟩ := r1.int'; obtain ⟨u, rfl⟩ := r2.int'
  exact PyProof.Rows.isub_int ⟨.tok, .ofInt⟩
theorem Op2i.xorI {a b : Int} : Op2i G k .BitXor (.int a) (.int b) (.int (Builtin.bitXor a b)) := fun A X s v1 v2 E R l r1 r2 => by
  obtain ⟨t, rfl⟩ := r1.int'; obtain ⟨u, rfl⟩ := r2.int'
  exact PyProof.Rows.ixor_int ⟨.tok, .ofInt⟩
theorem Op2i.orI {a b : Int} : Op2i G k .BitOr (.int a) (.int b) (.int (Builtin.bitOr a b)) := fun A X s v1 v2 E R l r1 r2 => by
  obtain ⟨t, rfl⟩ := r1.int'; obtain ⟨u, rfl⟩ := r2.int'
  exact PyProof.Rows.ior_int ⟨.tok, .ofInt⟩
theorem Op2i.shlI {a n : Int} (h1 : 0 ≤ n) (h : (Builtin.Int.intBits a : Int) + n ≤ 2 ^ 27) : Op2i G k .LShift (.int a) (.int n) (.int (a * 2 ^ n.toNat)) := fun A X s v1 v2 E R l r1 r2 => by
  obtain ⟨t, rfl⟩ := r1.int'; obtain ⟨u, rfl⟩ := r2.int'
  exact PyProof.Rows.ilshift_int h1 h ⟨.tok, .ofInt⟩
end
end Mine
end E4

noncomputable section E5
open PySem PySem.Calls PyProof.Rows
set_option Elab.async false
set_option linter.unusedVariables false
namespace Mine

section
variable {G : Gd} {k : Nat} {κ : Scope} {F : Fm} {σ σ' : Sg} {Xo : Ou} {os os' : Os} {s s' : Shared}

/-- what lies around has turned -/
theorem Inv.turnW {W : List Addr} (I : Inv G κ F σ Xo os s) (g : St W s s') (hX : ∀ b ∈ W, b ∈ Xo.xs) (hY : ∀ b ∈ W, b ∉ F.Z os) (h0 : ∀ b ∈ W, F.s0.heap.get? b = none) : Inv G κ F σ Xo os s' := by
  have hXX : ∀ b ∈ W, b ∈ F.X Xo os := fun b hb => mem_X.mpr (.inr (.inr (.inr (hX b hb))))
  have rp : ∀ {d v}, Rep (F.X Xo os) s.heap d v → Rep (F.X Xo os) s'.heap d v := fun r => Rep.move (fun a o ha e => g.heap a o (fun hy => ha (hXX a hy)) e) (fun _ q => .inl q) r
  have rpa : ∀ {d v}, RepAll (F.X Xo os) s.heap d v → RepAll (F.X Xo os) s'.heap d v := fun r => RepAll.move (fun a o ha e => g.heap a o (fun hy => ha (hXX a hy)) e) (fun _ q => .inl q) r
  have hL : F.env.locals ∉ W := fun h => hY _ h (mem_Z.mpr (.inl rfl))
  have hC : ∀ x c, F.env.cells.lookup x = some c → c ∉ W := fun x c hc h => hY _ h (mem_Z.mpr (.inr (.inl (cmem hc))))
  have hO : ∀ x a, os.lookup x = some a → a ∉ W := fun x a ha h => hY _ h (mem_Z.mpr (.inr (.inr (List.mem_map_of_mem (f := (·.2)) (mem_of_lookup ha)))))
  have nsk : ∀ {m}, s.heap.Ns F.env.locals m → s'.heap.Ns F.env.locals m := fun hn => hn.at fun o e => g.heap _ o hL e
  have ck : ∀ {x c ov}, F.env.cells.lookup x = some c → s.heap.IsCell c ov → s'.heap.IsCell c ov := fun hc ⟨o, e, hd⟩ => ⟨o, g.heap _ o (hC _ _ hc) e, hd⟩
  exact {
    scope := I.scope, kind := I.kind, glob := I.glob, bi := I.bi, base := I.base, tk := I.tk
    st := I.st.trans' g (fun c hc => .inr (h0 c hc)) |>.mono fun _ h => h
    Lnew := I.Lnew, osnew := I.osnew, cfnew := I.cfnew
    live := fun b hb => let ⟨o, e⟩ := I.live b hb; g.alive b o e
    ns := let ⟨m, hn⟩ := I.ns; ⟨m, nsk hn⟩
    cells := fun x c hc => ⟨let ⟨ov, h⟩ := (I.cells x c hc).1; ⟨ov, ck hc h⟩, (I.cells x c hc).2⟩
    cellinj := I.cellinj, ossep := I.ossep, osoff := I.osoff, osout := I.osout
    ghost := fun p hp => rp (I.ghost p hp)
    var := fun x sl hx => by
      obtain ⟨v, hv, hsl⟩ := I.var x sl hx
      refine ⟨v, ?_, ?_⟩
      · unfold VarAt at hv ⊢
        split at hv
        · obtain ⟨m₂, hn₂, hm₂⟩ := hv
          exact ⟨_, nsk hn₂, hm₂⟩
        · obtain ⟨c', hc', hi₂⟩ := hv
          exact ⟨c', hc', ck hc' hi₂⟩
        · exact hv
      · cases sl with
        | val d => exact rp hsl
        | raw u => exact hsl
        | own p xs =>
          obtain ⟨a, vs, h1, h2, h3, hp, h4⟩ := hsl
          have := hO x a h1
          exact ⟨a, vs, h1, h2, h3.at fun o e => g.heap a o this e, fun q => (hp q).at fun o e => g.heap a o this e, rpa h4⟩ }

/-- more lies around: addresses that were dead, data that are held -/
theorem Inv.around {W : List Addr} {gh : List (D × Value)} {s₁ : Shared} (I : Inv G κ F σ Xo os s) (g : St [] s s₁) (hW : ∀ b ∈ W, s.heap.get? b = none) (hWl : ∀ b ∈ W, ∃ o, s₁.heap.get? b = some o)
    (hg : ∀ p ∈ gh, Rep (W ++ F.X Xo os) s₁.heap p.1 p.2) : Inv G κ F σ ⟨W ++ Xo.xs, gh ++ Xo.gh⟩ os s₁ := by
  have I₁ := I.grow g
  have hX : ∀ c ∈ F.X ⟨W ++ Xo.xs, gh ++ Xo.gh⟩ os, c ∈ F.X Xo os ∨ c ∈ W := fun c hc => by
    rcases mem_X.mp hc with q | q | q | q
    · exact .inl (mem_X.mpr (.inl q))
    · exact .inl (mem_X.mpr (.inr (.inl q)))
    · exact .inl (mem_X.mpr (.inr (.inr (.inl q))))
    · rcases List.mem_append.mp q with q | q
      · exact .inr q
      · exact .inl (mem_X.mpr (.inr (.inr (.inr q))))
  have hX' : ∀ c ∈ F.X ⟨W ++ Xo.xs, gh ++ Xo.gh⟩ os, c ∈ F.X Xo os ∨ s.heap.get? c = none := fun c hc => (hX c hc).imp id (hW c)
  have hX2 : ∀ c ∈ F.X ⟨W ++ Xo.xs, gh ++ Xo.gh⟩ os, c ∈ W ++ F.X Xo os := fun c hc => List.mem_append.mpr ((hX c hc).symm)
  exact {
    scope := I.scope, kind := I.kind, glob := I.glob, bi := I.bi, base := I.base, tk := I.tk
    st := I₁.st, Lnew := I.Lnew, osnew := I.osnew, cfnew := I.cfnew
    live := fun b hb => (hX b hb).elim (I₁.live b) (hWl b)
    ns := I₁.ns, cells := I₁.cells, cellinj := I.cellinj, ossep := I.ossep, osoff := I.osoff
    osout := fun p hp hm => by
      rcases List.mem_append.mp hm with q | q
      · obtain ⟨o, e⟩ := I.live p.2 (mem_X.mpr (.inr (.inr (.inl (List.mem_map_of_mem hp)))))
        rw [hW _ q] at e; cases e
      · exact I.osout p hp q
    ghost := fun p hp => by
      rcases List.mem_append.mp hp with q | q
      · exact (hg p q).sub hX2
      · exact Rep.move (fun b o _ q => g.keep b o q) hX' (I.ghost p q)
    var := fun x sl hx => by
      obtain ⟨v, hv, hsl⟩ := I.var x sl hx
      refine ⟨v, hv.grow g.keep, ?_⟩
      cases sl with
      | val d => exact Rep.move (fun b o _ q => g.keep b o q) hX' hsl
      | raw u => exact hsl
      | own p xs =>
        obtain ⟨b, vs, h1, h2, h3, hp, h4⟩ := hsl
        exact ⟨b, vs, h1, h2, h3.at fun o z => g.keep b o z, fun q => (hp q).at fun o z => g.keep b o z, RepAll.move (fun b o _ q => g.keep b o q) hX' h4⟩ }
theorem Inv.inside {W : List Addr} {gh : List (D × Value)} (I : Inv G κ F σ ⟨W ++ Xo.xs, gh ++ Xo.gh⟩ os s) : Inv G κ F σ Xo os s := by
  have hX : ∀ c ∈ F.X Xo os, c ∈ F.X ⟨W ++ Xo.xs, gh ++ Xo.gh⟩ os := fun c hc => by
    rcases mem_X.mp hc with q | q | q | q
    · exact mem_X.mpr (.inl q)
    · exact mem_X.mpr (.inr (.inl q))
    · exact mem_X.mpr (.inr (.inr (.inl q)))
    · exact mem_X.mpr (.inr (.inr (.inr (List.mem_append.mpr (.inr q)))))
  exact {
    scope := I.scope, kind := I.kind, glob := I.glob, bi := I.bi, base := I.base, tk := I.tk, st := I.st, Lnew := I.Lnew, osnew := I.osnew, cfnew := I.cfnew
    live := fun b hb => I.live b (hX b hb)
    ns := I.ns, cells := I.cells, cellinj := I.cellinj, ossep := I.ossep, osoff := I.osoff
    osout := fun p hp hm => I.osout p hp (List.mem_append.mpr (.inr hm))
    ghost := fun p hp => (I.ghost p (List.mem_append.mpr (.inr hp))).sub hX
    var := fun x sl hx => by
      obtain ⟨v, hv, hsl⟩ := I.var x sl hx
      refine ⟨v, hv, ?_⟩
      cases sl with
      | val d => exact Rep.sub hsl hX
      | raw u => exact hsl
      | own p xs =>
        obtain ⟨b, vs, h1, h2, h3, hp, h4⟩ := hsl
        exact ⟨b, vs, h1, h2, h3, hp, h4.sub hX⟩ }
theorem X_inside {W : List Addr} {gh : List (D × Value)} : ∀ c ∈ F.X Xo os, c ∈ F.X ⟨W ++ Xo.xs, gh ++ Xo.gh⟩ os := fun c hc => by
  rcases mem_X.mp hc with q | q | q | q
  · exact mem_X.mpr (.inl q)
  · exact mem_X.mpr (.inr (.inl q))
  · exact mem_X.mpr (.inr (.inr (.inl q)))
  · exact mem_X.mpr (.inr (.inr (.inr (List.mem_append.mpr (.inr q)))))

/-- the state moves, and what lies in W may be gone -/
structure Stw (W : List Addr) (s s' : Shared) : Prop where
  drawn : s'.drawn = s.drawn
  os : s'.os = s.os
  toks : s.toks ≤ s'.toks
  gens : ∃ l : List GenState, s'.gens = s.gens ++ l.toArray ∧ ∀ g ∈ l, g.bare = true
  heap : ∀ b o, b ∉ W → s.heap.get? b = some o → s'.heap.get? b = some o
theorem Stw.one {c : Addr} {s : Shared} {h' : Heap} (e : Heap.ExtBut c s.heap h') : Stw [c] s { s with heap := h' } := ⟨rfl, rfl, Nat.le_refl _, ⟨[], by simp, fun _ h => nomatch h⟩, fun b o hb q => e b o (fun z => hb (by rw [z]; exact .head _)) q⟩
theorem Stw.up {W V : List Addr} {s s' : Shared} (g : Stw W s s') (h : ∀ b ∈ W, b ∈ V) : Stw V s s' := ⟨g.drawn, g.os, g.toks, g.gens, fun b o hb e => g.heap b o (fun q => hb (h b q)) e⟩
theorem St.w {X W : List Addr} {s s' s'' : Shared} (a : St X s s') (b : Stw W s' s'') (hW : ∀ c ∈ W, s.heap.get? c = none) : St X s s'' := by
  obtain ⟨l, h1, h2⟩ := a.gens
  obtain ⟨l', h3, h4⟩ := b.gens
  refine ⟨b.drawn.trans a.drawn, b.os.trans a.os, Nat.le_trans a.toks b.toks, ⟨l ++ l', ?_, fun g hg => ?_⟩, fun x o hx e => b.heap x o (fun q => ?_) (a.heap x o hx e), fun x o e => ?_⟩
  · rw [h3, h1]; simp
  · rcases List.mem_append.mp hg with q | q
    · exact h2 g q
    · exact h4 g q
  · rw [hW x q] at e; cases e
  · obtain ⟨o', e'⟩ := a.alive x o e
    exact ⟨o', b.heap x o' (fun q => by rw [hW x q] at e; cases e) e'⟩
/-- what turned around is gone -/
theorem Inv.closeW {W : List Addr} {gh : List (D × Value)} (I : Inv G κ F σ ⟨W ++ Xo.xs, gh ++ Xo.gh⟩ os s) (g : Stw W s s') (hY : ∀ b ∈ W, b ∉ F.X Xo os) (h0 : ∀ b ∈ W, F.s0.heap.get? b = none) : Inv G κ F σ Xo os s' := by
  have rp : ∀ {d v}, Rep (F.X ⟨W ++ Xo.xs, gh ++ Xo.gh⟩ os) s.heap d v → Rep (F.X Xo os) s'.heap d v := fun r => Rep.move (fun a o ha e => g.heap a o (fun hy => ha (mem_X.mpr (.inr (.inr (.inr (List.mem_append.mpr (.inl hy))))))) e) (fun _ q => .inl (X_inside _ q)) r
  have rpa : ∀ {d v}, RepAll (F.X ⟨W ++ Xo.xs, gh ++ Xo.gh⟩ os) s.heap d v → RepAll (F.X Xo os) s'.heap d v := fun r => RepAll.move (fun a o ha e => g.heap a o (fun hy => ha (mem_X.mpr (.inr (.inr (.inr (List.mem_append.mpr (.inl hy))))))) e) (fun _ q => .inl (X_inside _ q)) r
  have hL : F.env.locals ∉ W := fun h => hY _ h (mem_X.mpr (.inl rfl))
  have hC : ∀ x c, F.env.cells.lookup x = some c → c ∉ W := fun x c hc h => hY _ h (mem_X.mpr (.inr (.inl (cmem hc))))
  have hO : ∀ x a, os.lookup x = some a → a ∉ W := fun x a ha h => hY _ h (mem_X.mpr (.inr (.inr (.inl (List.mem_map_of_mem (f := (·.2)) (mem_of_lookup ha))))))
  have nsk : ∀ {m}, s.heap.Ns F.env.locals m → s'.heap.Ns F.env.locals m := fun hn => hn.at fun o e => g.heap _ o hL e
  have ck : ∀ {x c ov}, F.env.cells.lookup x = some c → s.heap.IsCell c ov → s'.heap.IsCell c ov := fun hc ⟨o, e, hd⟩ => ⟨o, g.heap _ o (hC _ _ hc) e, hd⟩
  exact {
    scope := I.scope, kind := I.kind, glob := I.glob, bi := I.bi, base := I.base, tk := I.tk
    st := I.st.w g h0
    Lnew := I.Lnew, osnew := I.osnew, cfnew := I.cfnew
    live := fun b hb => let ⟨o, e⟩ := I.live b (X_inside _ hb); ⟨o, g.heap b o (fun q => hY b q hb) e⟩
    ns := let ⟨m, hn⟩ := I.ns; ⟨m, nsk hn⟩
    cells := fun x c hc => ⟨let ⟨ov, h⟩ := (I.cells x c hc).1; ⟨ov, ck hc h⟩, (I.cells x c hc).2⟩
    cellinj := I.cellinj, ossep := I.ossep, osoff := I.osoff, osout := fun p hp hm => I.osout p hp (List.mem_append.mpr (.inr hm))
    ghost := fun p hp => rp (I.ghost p (List.mem_append.mpr (.inr hp)))
    var := fun x sl hx => by
      obtain ⟨v, hv, hsl⟩ := I.var x sl hx
      refine ⟨v, ?_, ?_⟩
      · unfold VarAt at hv ⊢
        split at hv
        · obtain ⟨m₂, hn₂, hm₂⟩ := hv
          exact ⟨_, nsk hn₂, hm₂⟩
        · obtain ⟨c', hc', hi₂⟩ := hv
          exact ⟨c', hc', ck hc' hi₂⟩
        · exact hv
      · cases sl with
        | val d => exact rp hsl
        | raw u => exact hsl
        | own p xs =>
          obtain ⟨a, vs, h1, h2, h3, hp, h4⟩ := hsl
          have := hO x a h1
          exact ⟨a, vs, h1, h2, h3.at fun o e => g.heap a o this e, fun q => (hp q).at fun o e => g.heap a o this e, rpa h4⟩ }

/-- a source of turns: each binds the target anew -/
structure Src (G : Gd) (k : Nat) (κ : Scope) (F : Fm) (target : Expr) (it : Value) (n : Nat) (bs : Nat → Sg) (W : List Addr) (gh : List (D × Value)) (P : Nat → Heap → Prop) : Prop where
  keep : ∀ i h h', P i h → (∀ b ∈ W, ∀ o, h.get? b = some o → h'.get? b = some o) → P i h'
  self : ∀ A i s (E : Value → Shared → Prop) (Q : Value → Shared → Prop), P i s.heap → Q it s → wpAny G.M A (pyIter it) Q E s
  turn : ∀ A i s σ Xo os (E : Value → Shared → Prop) (Q : Shared → Prop), Room k A → i < n → Inv G κ F σ Xo os s → (∀ b ∈ W, b ∈ Xo.xs) → (∀ p ∈ gh, p ∈ Xo.gh) → (∀ b ∈ W, b ∉ F.Z os) → (∀ b ∈ W, F.s0.heap.get? b = none) → P i s.heap →
    (∀ s', Inv G κ F (bs i ++ σ) Xo os s' → P (i + 1) s'.heap → St (W ++ F.Y os) s s' → Q s') →
    wpAny G.M A (pyNext it) (fun r s₁ => ∃ v, r = some v ∧ wpAny G.M A (letOwnedTupleGo target it v) (fun _ s₂ => wpAny G.M A (assign target F.env v) (fun _ s₃ => Q s₃) E s₂) E s₁) E s
  done : ∀ A s (E : Value → Shared → Prop) (Q : Shared → Prop), Room k A → P n s.heap → (∀ b ∈ gh, Rep W s.heap b.1 b.2) → (∀ s', Stw W s s' → Q s') → wpAny G.M A (pyNext it) (fun r s₁ => r = none ∧ Q s₁) E s

noncomputable def OwnT (κ : Scope) (F : Fm) : Expr → Prop
  | .Name x _ => Own κ F x
  | .Tuple [.Name x _, .Name y _] _ _ => Own κ F x ∧ Own κ F y
  | _ => False

/-- the iterable, its iterator made -/
noncomputable def EvI (G : Gd) (k : Nat) (κ : Scope) (F : Fm) (target : Expr) (σ : Sg) (iter : Expr) (n : Nat) (bs : Nat → Sg) : Prop :=
  ∀ A Xo os s E, Room k A → Inv G κ F σ Xo os s → wpAny G.M A (eval iter F.env) (fun xv s₁ => wpAny G.M A (pyIter xv) (fun it s₂ => St [] s s₂ ∧ ∃ W gh P, (∀ κ' F', OwnT κ' F' target → Src G k κ' F' target it n bs W gh P) ∧ P 0 s₂.heap ∧
    (∀ b ∈ W, s.heap.get? b = none) ∧ (∀ b ∈ W, ∃ o, s₂.heap.get? b = some o) ∧ (∀ p ∈ gh, Rep (W ++ F.X Xo os) s₂.heap p.1 p.2)) E s₁) E s

theorem Post.inside {W : List Addr} {gh : List (D × Value)} {out : Out} {f : Flow} (p : Post G κ F ⟨W ++ Xo.xs, gh ++ Xo.gh⟩ os s out f s') : Post G κ F Xo os s out f s' := by
  refine ⟨p.mv, ?_⟩
  obtain ⟨os', ho, q⟩ := p.out
  refine ⟨os', ho, ?_⟩
  cases out with
  | next σ' => exact ⟨q.1, q.2.inside⟩
  | brk σ' => exact ⟨q.1, q.2.inside⟩
  | ret d => obtain ⟨v, e, I, r⟩ := q; exact ⟨v, e, I.inside, r.sub X_inside⟩

theorem Ex1.for {target iter : Expr} {body orelse : List Stmt} {pos : Pos} {n m : Nat} {bs σs : Nat → Sg} {out : Out}
    (hit : EvI G k κ F target (σs 0) iter n bs) (hown : OwnT κ F target) (hfs : ∀ env x, foldedSetIterable iter env x = pure x) (hm : m ≤ n)
    (hbody : ∀ i, i < m → ∃ σ', Ex G k κ F (bs i ++ σs i) body (.next σ') ∧ Sub (σs (i + 1)) σ')
    (hend : (m = n ∧ Ex G k κ F (σs m) orelse out) ∨ (m < n ∧ ∃ o, Ex G k κ F (bs m ++ σs m) body o ∧ ((∃ σ', o = .brk σ' ∧ out = .next σ') ∨ (∃ d, o = .ret d ∧ out = .ret d)))) :
    Ex1 G k κ F (σs 0) (.For target iter body orelse pos) out := fun A Xo os s E R I => by
  refine wpAny_For (wpAny_mono (hit A Xo os s E R I) (fun xv s₁ h₁ => wpAny_mono h₁ (fun it s₂ h₂ => ?_) fun _ _ e => e) fun _ _ e => e) (hfs _)
  obtain ⟨g2, W, gh, P, hsrc, hP, hWd, hWl, hgh⟩ := h₂
  have S := hsrc κ F hown
  have I2 := I.around g2 hWd hWl hgh
  have hWY : ∀ os', (∀ p ∈ os', p ∈ os ∨ s₂.heap.get? p.2 = none) → ∀ b ∈ W, b ∉ F.Z os' := fun os' ho b hb hy => by
    rcases Z_new ho b hy with q | q
    · obtain ⟨o, e⟩ := I.live b (Z_X b q); rw [hWd b hb] at e; cases e
    · obtain ⟨o, e⟩ := hWl b hb; rw [q] at e; cases e
  have hW0 : ∀ b ∈ W, F.s0.heap.get? b = none := fun b hb => I.st.dead (hWd b hb)
  -- the post out of a later place
  have fin : ∀ (os₃ : Os) (s₃ s₄ : Shared) (out : Out) (f : Flow), (∀ p ∈ os₃, p ∈ os ∨ s₂.heap.get? p.2 = none) → St (W ++ F.Y os) s₂ s₃ → Post G κ F ⟨W ++ Xo.xs, gh ++ Xo.gh⟩ os₃ s₃ out f s₄ → Post G κ F Xo os s out f s₄ := by
    intro os₃ s₃ s₄ out f ho g3 q
    have g : St (F.Y os) s s₃ := (g2.up (X := F.Y os)).trans' g3 fun c hc => (List.mem_append.mp hc).elim (fun z => .inr (hWd c z)) .inl
    exact (q.inside).then g fun p hp => (ho p hp).imp id fun z => g2.dead z
  refine codeAny_forLoop_any (fun c s' => ∃ i os', i ≤ m ∧ c = m + 1 - i ∧ (∀ p ∈ os', p ∈ os ∨ s₂.heap.get? p.2 = none) ∧ Inv G κ F (σs i) ⟨W ++ Xo.xs, gh ++ Xo.gh⟩ os' s' ∧ P i s'.heap ∧ St (W ++ F.Y os) s₂ s') ?_ (m + 1)
    ⟨0, os, Nat.zero_le _, rfl, fun _ h => .inl h, I2, hP, .refl⟩
  rintro c s' ⟨i, os', hi, rfl, ho, I', hP', g'⟩
  by_cases hin : i < n
  · refine wpAny_mono (S.turn A i s' (σs i) _ os' _ (fun s₃ =>
        wpAny G.M A (execs body F.env) (fun f s₃ => match f with
              | .next => ∃ m_1, m_1 < m + 1 - i ∧ ∃ i os', i ≤ m ∧ m_1 = m + 1 - i ∧ (∀ p ∈ os', p ∈ os ∨ s₂.heap.get? p.2 = none) ∧ Inv G κ F (σs i) ⟨W ++ Xo.xs, gh ++ Xo.gh⟩ os' s₃ ∧ P i s₃.heap ∧ St (W ++ F.Y os) s₂ s₃
              | .cont => ∃ m_1, m_1 < m + 1 - i ∧ ∃ i os', i ≤ m ∧ m_1 = m + 1 - i ∧ (∀ p ∈ os', p ∈ os ∨ s₂.heap.get? p.2 = none) ∧ Inv G κ F (σs i) ⟨W ++ Xo.xs, gh ++ Xo.gh⟩ os' s₃ ∧ P i s₃.heap ∧ St (W ++ F.Y os) s₂ s₃
              | .brk => Post G κ F Xo os s out .next s₃
              | .ret v => Post G κ F Xo os s out (.ret v) s₃) (notedBy G.M A F.env fun e s' => cameBackBy G.M A F.env E e s') s₃) R hin I' (fun b hb => List.mem_append.mpr (.inl hb)) (fun p hp => List.mem_append.mpr (.inl hp)) (hWY os' ho) hW0 hP' fun s₃ I₃ hP₃ g₃ => ?_) (fun r s₃ h₃ => ?_) fun _ _ e => e
    · have g₃' : St (W ++ F.Y os) s₂ s₃ := g'.trans' g₃ fun c hc => by
        rcases List.mem_append.mp hc with q | q
        · exact .inl (List.mem_append.mpr (.inl q))
        · exact (Y_new ho c q).imp (fun z => List.mem_append.mpr (.inr z)) id
      by_cases him : i < m
      · obtain ⟨σ', hex, hsub⟩ := hbody i him
        refine wpAny_mono (hex A _ os' s₃ _ R I₃) (fun f s₄ q => ?_) fun _ _ e => e
        obtain ⟨g₄, os₄, ho₄, rfl, I₄⟩ := q
        refine ⟨m + 1 - (i + 1), by omega, i + 1, os₄, by omega, rfl, fun p hp => (ho₄ p hp).elim (ho p) fun z => .inr (g₃'.dead z), I₄.weaken hsub, ?_, ?_⟩
        · exact S.keep _ _ _ hP₃ fun b hb o e => g₄.heap b o (fun q => hWY os' ho b hb (Y_Z b q)) e
        · exact g₃'.trans' g₄ fun c hc => (Y_new ho c hc).imp (fun z => List.mem_append.mpr (.inr z)) id
      · obtain rfl : i = m := by omega
        rcases hend with ⟨rfl, _⟩ | ⟨_, o, hex, hout⟩
        · omega
        · refine wpAny_mono (hex A _ os' s₃ _ R I₃) (fun f s₄ q => ?_) fun _ _ e => e
          have q' := fin os' s₃ s₄ o f ho g₃' q
          rcases hout with ⟨σ', rfl, rfl⟩ | ⟨d, rfl, rfl⟩
          · obtain ⟨g₄, os₄, ho₄, rfl, I₄⟩ := q'
            exact ⟨g₄, os₄, ho₄, rfl, I₄⟩
          · have q2 := q'
            obtain ⟨g₄, os₄, ho₄, v, rfl, _⟩ := q'
            exact q2
    · obtain ⟨v, rfl, h₃⟩ := h₃
      exact h₃
  · have him : i = m := by omega
    subst him
    have hmn : i = n := by omega
    subst hmn
    rcases hend with ⟨_, hor⟩ | ⟨hlt, _⟩
    · have hWX : ∀ b ∈ W, b ∉ F.X Xo os' := fun b hb hy => by
        rcases mem_X.mp hy with q | q | q | q
        · exact hWY os' ho b hb (mem_Z.mpr (.inl q))
        · exact hWY os' ho b hb (mem_Z.mpr (.inr (.inl q)))
        · exact hWY os' ho b hb (mem_Z.mpr (.inr (.inr q)))
        · obtain ⟨o, e⟩ := I.live b (mem_X.mpr (.inr (.inr (.inr q)))); rw [hWd b hb] at e; cases e
      refine wpAny_mono (S.done A s' _ (fun s₃ => wpAny G.M A (execs orelse F.env) (fun f s₃ => Post G κ F Xo os s out f s₃) (notedBy G.M A F.env fun e s' => cameBackBy G.M A F.env E e s') s₃) R hP' (fun p hp => (I'.ghost p (List.mem_append.mpr (.inl hp))).sub fun b hb => mem_X.mpr (.inr (.inr (.inr (List.mem_append.mpr (.inl hb)))))) fun s₃ g₃ => ?_) (fun r s₃ h₃ => ?_) fun _ _ e => e
      · have I₃ := I'.closeW g₃ hWX hW0
        have g : St (F.Y os) s s' := (g2.up (X := F.Y os)).trans' g' fun c hc => (List.mem_append.mp hc).elim (fun z => .inr (hWd c z)) .inl
        have g₄ : St (F.Y os) s s₃ := g.w g₃ hWd
        exact wpAny_mono (hor A _ os' s₃ _ R I₃) (fun f s₄ q => q.then g₄ fun p hp => (ho p hp).imp id fun z => g2.dead z) fun _ _ e => e
      · obtain ⟨rfl, h₃⟩ := h₃
        exact h₃
    · omega

theorem Ex1.while {test : Expr} {body : List Stmt} {pos : Pos} {n : Nat} {σs : Nat → Sg} (ht : ∀ i, i < n → EvT G k κ F (σs i) test true) (hb : ∀ i, i < n → ∃ σ', Ex G k κ F (σs i) body (.next σ') ∧ Sub (σs (i + 1)) σ')
    (hf : EvT G k κ F (σs n) test false) : Ex1 G k κ F (σs 0) (.While test body [] pos) (.next (σs n)) := fun A Xo os s E R I => by
  refine wpAny_While (codeAny_whileLoop (fun c s' => ∃ i os', i ≤ n ∧ c = n + 1 - i ∧ (∀ p ∈ os', p ∈ os ∨ s.heap.get? p.2 = none) ∧ Inv G κ F (σs i) Xo os' s' ∧ St (F.Y os) s s') ?_ (n + 1) ⟨0, os, Nat.zero_le _, rfl, fun _ h => .inl h, I, .refl⟩)
  rintro c s' ⟨i, os', hi, rfl, ho, I', g'⟩
  by_cases hin : i < n
  · refine wp_st (β := Unit) (ht i hin A Xo os' s' _ R I') fun b s₁ g₁ hb₁ => ?_
    subst hb₁
    simp only [if_true]
    obtain ⟨σ', hex, hsub⟩ := hb i hin
    refine wpAny_mono (hex A Xo os' s₁ _ R (I'.grow g₁)) (fun f s₂ q => ?_) fun _ _ e => e
    obtain ⟨g₂, os₂, ho₂, rfl, I₂⟩ := q
    exact ⟨n + 1 - (i + 1), by omega, i + 1, os₂, by omega, rfl, fun p hp => (ho₂ p hp).elim (ho p) fun z => .inr ((g'.trans g₁.up).dead z), I₂.weaken hsub, (g'.trans g₁.up).trans' g₂ (Y_new ho)⟩
  · obtain rfl : i = n := by omega
    refine wp_st (β := Unit) (hf A Xo os' s' _ R I') fun b s₁ g₁ hb₁ => ?_
    subst hb₁
    simp only [Bool.false_eq_true, if_false]
    exact wpAny_execs_nil ⟨g'.trans g₁.up, os', ho, rfl, I'.grow g₁⟩
end
end Mine
end E5

noncomputable section E6
open PySem PySem.Calls PyProof.Rows
set_option Elab.async false
set_option linter.unusedVariables false
namespace Mine

section
variable {G : Gd} {k : Nat} {κ : Scope} {F : Fm} {σ σ' : Sg} {Xo : Ou} {os os' : Os} {s s' : Shared}

theorem St.sameBut {c : Addr} {h' : Heap} {tk : Nat} {o' : Obj} (hs : Heap.SameBut c s.heap h') (ho' : h'.get? c = some o') (hn : s.toks ≤ tk := by first | exact Nat.le_refl _ | exact Nat.le_succ _ | omega | (dsimp only; omega)) : St [c] s { s with heap := h', toks := tk } :=
  ⟨rfl, rfl, hn, ⟨[], by simp, fun _ h => nomatch h⟩, fun b o hb e => hs.extBut b o (fun q => hb (by rw [show b = c from q]; exact .head _)) e,
   fun b o₁ e => by
    by_cases q : b = c
    · subst q; exact ⟨o', ho'⟩
    · exact ⟨o₁, hs.extBut b o₁ q e⟩⟩
theorem St.ofKeep {h' : Heap} {tk : Nat} {X : List Addr} (hk : ∀ b o, b ∉ X → s.heap.get? b = some o → h'.get? b = some o) (hl : ∀ b ∈ X, ∃ o, h'.get? b = some o) (hn : s.toks ≤ tk := by first | exact Nat.le_refl _ | exact Nat.le_succ _ | omega | (dsimp only; omega)) : St X s { s with heap := h', toks := tk } :=
  ⟨rfl, rfl, hn, ⟨[], by simp, fun _ h => nomatch h⟩, fun b o hb e => hk b o hb e, fun b o₁ e => by
    by_cases q : b ∈ X
    · exact hl b q
    · exact ⟨o₁, hk b o₁ q e⟩⟩

theorem letGo_Name {x : Str} {p : Pos} {it v : Value} {A : Around} {E : Value → Shared → Prop} {Q : Unit → Shared → Prop} {M : Model} (h : Q () s) : wpAny M A (letOwnedTupleGo (.Name x p) it v) Q E s := by
  unfold letOwnedTupleGo; exact wpAny_pure h
theorem Inv.bind1 {x : Str} {p : Pos} {d : D} {v : Value} {A : Around} {E : Value → Shared → Prop} {Q : Shared → Prop} (I : Inv G κ F σ Xo os s) (hk : Own κ F x) (r : Rep (F.X Xo os) s.heap d v)
    (h : ∀ s', Inv G κ F ([(x, .val d)] ++ σ) Xo os s' → St (F.Y os) s s' → Q s') : wpAny G.M A (assign (.Name x p) F.env v) (fun _ s' => Q s') E s := wpAny_assign_Name (I.storeVal hk r h)
theorem Inv.bind2 {x y : Str} {p q pos : Pos} {c : Nat} {d1 d2 : D} {v1 v2 : Value} {t : Addr} {A : Around} {E : Value → Shared → Prop} {Q : Shared → Prop} (I : Inv G κ F σ Xo os s) (hh : A.handled = none) (hx : Own κ F x) (hy : Own κ F y)
    (ht : s.heap.IsTuple t #[v1, v2]) (r1 : Rep (F.X Xo os) s.heap d1 v1) (r2 : Rep (F.X Xo os) s.heap d2 v2)
    (h : ∀ s', Inv G κ F ([(y, .val d2), (x, .val d1)] ++ σ) Xo os s' → St (F.Y os) s s' → Q s') : wpAny G.M A (assign (.Tuple [.Name x p, .Name y q] c pos) F.env (.ref t)) (fun _ s' => Q s') E s := by
  refine wpAny_assign_Tuple hh ht rfl rfl fun h' hs' => ?_
  have g0 : St [] s { s with heap := h' } := .of (h' := h') (tk := s.toks) fun b o e => hs' b o (fun q => by rw [q, get_size] at e; cases e) e
  have I0 := I.grow g0
  show wpAny G.M A (assignInOrder [assign (.Name x p) F.env, assign (.Name y q) F.env] [v1, v2]) _ E _
  unfold assignInOrder
  refine wpAny_bind (wpAny_holding ?_)
  refine (wpAny_assign_Name (I0.storeVal hx (r1.grow g0.keep) fun s1 I1 g1 => ?_))
  unfold assignInOrder
  refine wpAny_bind (wpAny_holding ?_)
  refine (wpAny_assign_Name (I1.storeVal hy (Rep.past (r2.grow g0.keep) g1) fun s2 I2 g2 => ?_))
  unfold assignInOrder
  exact wpAny_pure (h s2 I2 ((g0.up.trans g1).trans g2))

theorem Src.list1 {x : Str} {p : Pos} {ds : List D} {l it : Addr} {bs : Nat → Sg} (hx : Own κ F x) (hb : ∀ i d, ds[i]? = some d → bs i = [(x, .val d)]) :
    Src G k κ F (.Name x p) (.ref it) ds.length bs [it] [(.list ds, .ref l)] fun i h => h.IsListIter it l i where
  keep i h h' hP hk := hP.at fun o e => hk it (.head _) o e
  self A i s E Q hP hQ := wpAny_pyIter_listiter hP hQ
  turn A i s σ Xo os E Q R hi I hW hg hWY hW0 hP h := by
    have r := I.ghost _ (hg _ (.head _))
    obtain ⟨a, vs, e, ha, hl, ra⟩ := Rep.list' r
    cases e
    have hlen := ra.length
    have hi' : i < vs.toList.length := by omega
    obtain ⟨d, hd, rd⟩ := ra.get' i (List.getElem?_eq_getElem hi')
    refine wpAny_pyNext_list_item hP hl (x := vs.toList[i]) (by rw [Array.getElem?_eq_getElem (by simpa using hi')]; simp) fun h' hP' hs' => ?_
    refine ⟨_, rfl, letGo_Name ?_⟩
    obtain ⟨o', ho', _⟩ := id hP'
    have g0 : St [it] s { s with heap := h' } := .sameBut (tk := s.toks) hs' ho'
    have I0 := I.turnW g0 hW hWY hW0
    refine I0.bind1 (d := d) hx (rd.turn hs' (mem_X.mpr (.inr (.inr (.inr (hW it (.head _))))))) fun s1 I1 g1 => h s1 (by rw [hb i d hd]; exact I1) ?_ ?_
    · exact hP'.at fun o e => g1.heap it o (fun q => hWY it (.head _) (Y_Z _ q)) e
    · exact (g0.mono fun b hb => List.mem_append.mpr (.inl hb)).trans (g1.mono fun b hb => List.mem_append.mpr (.inr hb))
  done A s E Q R hP hg h := by
    obtain ⟨a, vs, e, ha, hl, ra⟩ := Rep.list' (hg _ (.head _))
    cases e
    have hlen : vs.size = ds.length := by simpa using ra.length
    exact wpAny_pyNext_list_end R.handled hP hl (Array.getElem?_eq_none (by omega)) fun h' hs' => ⟨rfl, h _ (.one hs')⟩

theorem Src.list2 {x y : Str} {p q pos : Pos} {c : Nat} {ds : List D} {l it : Addr} {bs : Nat → Sg} (hx : Own κ F x) (hy : Own κ F y) (hb : ∀ i d, ds[i]? = some d → ∃ d1 d2, d = .tuple [d1, d2] ∧ bs i = [(y, .val d2), (x, .val d1)]) :
    Src G k κ F (.Tuple [.Name x p, .Name y q] c pos) (.ref it) ds.length bs [it] [(.list ds, .ref l)] fun i h => h.IsListIter it l i where
  keep i h h' hP hk := hP.at fun o e => hk it (.head _) o e
  self A i s E Q hP hQ := wpAny_pyIter_listiter hP hQ
  turn A i s σ Xo os E Q R hi I hW hg hWY hW0 hP h := by
    have r := I.ghost _ (hg _ (.head _))
    obtain ⟨a, vs, e, ha, hl, ra⟩ := Rep.list' r
    cases e
    have hlen := ra.length
    have hi' : i < vs.toList.length := by omega
    obtain ⟨d, hd, rd⟩ := ra.get' i (List.getElem?_eq_getElem hi')
    obtain ⟨d1, d2, rfl, hbi⟩ := hb i d hd
    refine wpAny_pyNext_list_item hP hl (x := vs.toList[i]) (by rw [Array.getElem?_eq_getElem (by simpa using hi')]; simp) fun h' hP' hs' => ?_
    obtain ⟨o', ho', _⟩ := id hP'
    have g0 : St [it] s { s with heap := h' } := .sameBut (tk := s.toks) hs' ho'
    have I0 := I.turnW g0 hW hWY hW0
    have rd' := rd.turn hs' (mem_X.mpr (.inr (.inr (.inr (hW it (.head _))))))
    obtain ⟨t, ts, e, _, ht, rt⟩ := Rep.tuple' rd'
    refine ⟨_, rfl, ?_⟩
    rw [e]
    refine wpAny_letOwnedTupleGo_listiter hP' ?_
    obtain ⟨v1, r1, e1, q1, rt⟩ := (by simpa only [RepAll] using rt)
    obtain ⟨v2, r2, e2, q2, rt⟩ := rt
    subst rt; subst e2
    have e1' : ts = #[v1, v2] := by apply Array.toList_inj.mp; rw [e1]
    subst e1'
    refine I0.bind2 R.handled hx hy ht q1 q2 fun s1 I1 g1 => h s1 (by rw [hbi]; exact I1) ?_ ?_
    · exact hP'.at fun o e => g1.heap it o (fun q => hWY it (.head _) (Y_Z _ q)) e
    · exact (g0.mono fun b hb => List.mem_append.mpr (.inl hb)).trans (g1.mono fun b hb => List.mem_append.mpr (.inr hb))
  done A s E Q R hP hg h := by
    obtain ⟨a, vs, e, ha, hl, ra⟩ := Rep.list' (hg _ (.head _))
    cases e
    have hlen : vs.size = ds.length := by simpa using ra.length
    exact wpAny_pyNext_list_end R.handled hP hl (Array.getElem?_eq_none (by omega)) fun h' hs' => ⟨rfl, h _ (.one hs')⟩

theorem Src.range1 {x : Str} {p : Pos} {a n : Nat} {it : Addr} (hx : Own κ F x) :
    Src G k κ F (.Name x p) (.ref it) n (fun i => [(x, .val (.int ((a + i : Nat) : Int)))]) [it] [] fun i h => IsRangeIter h it ((a + i : Nat) : Int) ((n : Int) - i) 1 where
  keep i h h' hP hk := hk it (.head _) _ hP
  self A i s E Q hP hQ := wpAny_pyIter_rangeiter hP hQ
  turn A i s σ Xo os E Q R hi I hW hg hWY hW0 hP h := by
    refine wpAny_pyNext_range_item hP (by omega) fun h' hP' hs' => ⟨_, rfl, letGo_Name ?_⟩
    have g0 : St [it] s { s with heap := h', toks := s.toks + 1 } := .sameBut (tk := s.toks + 1) hs' hP'
    have I0 := I.turnW g0 hW hWY hW0
    refine I0.bind1 (d := .int ((a + i : Nat) : Int)) hx .ofInt fun s1 I1 g1 => h s1 I1 ?_ ?_
    · have := g1.heap it _ (fun q => hWY it (.head _) (Y_Z _ q)) hP'
      show IsRangeIter _ _ _ _ _
      rw [show ((a + (i + 1) : Nat) : Int) = ((a + i : Nat) : Int) + 1 by omega, show (n : Int) - ((i + 1 : Nat) : Int) = n - i - 1 by omega]
      exact this
    · exact (g0.mono fun b hb => List.mem_append.mpr (.inl hb)).trans (g1.mono fun b hb => List.mem_append.mpr (.inr hb))
  done A s E Q R hP hg h := wpAny_pyNext_range_end R.handled hP (by omega) fun h' hs' => ⟨rfl, h _ (.one hs')⟩
end
end Mine
end E6

noncomputable section E7
open PySem PySem.Calls PyProof.Rows
set_option Elab.async false
set_option linter.unusedVariables false
namespace Mine

section
variable {G : Gd} {k : Nat} {κ : Scope} {F : Fm} {σ σ' : Sg} {Xo : Ou} {os os' : Os} {s s' : Shared}

theorem IsPair.tuple {h : Heap} {t : Addr} {a b : Value} (x : IsPair h t a b) : h.IsTuple t #[a, b] := ⟨_, x, rfl, _, rfl⟩

theorem Src.enum {x y : Str} {p q pos : Pos} {c : Nat} {ds : List D} {l it e : Addr} {bs : Nat → Sg} (hx : Own κ F x) (hy : Own κ F y) (hne : e ≠ it) (hb : ∀ i d, ds[i]? = some d → bs i = [(y, .val d), (x, .val (.int i))]) :
    Src G k κ F (.Tuple [.Name x p, .Name y q] c pos) (.ref e) ds.length bs [e, it] [(.list ds, .ref l)] fun i h => h.IsListIter it l i ∧ ∃ old, IsEnum h e it (i : Nat) old where
  keep i h h' hP hk := ⟨hP.1.at fun o e => hk it (.tail _ (.head _)) o e, let ⟨old, h⟩ := hP.2; ⟨old, hk e (.head _) _ h⟩⟩
  self A i s E Q hP hQ := let ⟨old, h⟩ := hP.2; wpAny_pyIter_enum h hQ
  turn A i s σ Xo os E Q R hi I hW hg hWY hW0 hP h := by
    obtain ⟨hP, old, he⟩ := hP
    have r := I.ghost _ (hg _ (.head _))
    obtain ⟨a, vs, e', ha, hl, ra⟩ := Rep.list' r
    cases e'
    have hlen := ra.length
    have hi' : i < vs.toList.length := by omega
    obtain ⟨d, hd, rd⟩ := ra.get' i (List.getElem?_eq_getElem hi')
    have heX : e ∈ F.X Xo os := mem_X.mpr (.inr (.inr (.inr (hW e (.head _)))))
    have hiX : it ∈ F.X Xo os := mem_X.mpr (.inr (.inr (.inr (hW it (.tail _ (.head _))))))
    refine wpAny_pyNext_enum_item he hP hl (x := vs.toList[i]) (by rw [Array.getElem?_eq_getElem (by simpa using hi')]; simp) hne fun h' he' hP' hn hsz hk => ⟨_, rfl, ?_⟩
    have g0 : St [e, it] s { s with heap := h', toks := s.toks + 1 } := .ofKeep (tk := s.toks + 1) (fun b o hb q => hk b o (fun z => hb (by rw [z]; exact .head _)) (fun z => hb (by rw [z]; exact .tail _ (.head _))) q) (fun b hb => by
      rcases List.mem_cons.mp hb with z | z
      · exact ⟨_, by rw [z]; exact he'⟩
      · obtain ⟨o', ho', _⟩ := id hP'
        rw [List.mem_singleton.mp z]; exact ⟨o', ho'⟩)
    have I0 := I.turnW g0 hW hWY hW0
    refine wpAny_letOwnedTupleGo_enum he' fun h2 he2 hs2 => ?_
    have g1 : St [e, it] { s with heap := h', toks := s.toks + 1 } { s with heap := h2, toks := s.toks + 1 } := (St.sameBut (s := { s with heap := h', toks := s.toks + 1 }) (tk := s.toks + 1) hs2 he2).mono fun b hb => by rw [List.mem_singleton.mp hb]; exact .head _
    have I1 := I0.turnW g1 hW hWY hW0
    have rd1 : Rep (F.X Xo os) h2 d vs.toList[i] := Rep.move (fun a o ha e => (g0.trans g1).heap a o (fun hm => ha (mem_X.mpr (.inr (.inr (.inr (hW a hm)))))) e) (fun _ q => .inl q) rd
    have hne2 : s.heap.objs.size ≠ e := fun z => by have w : s.heap.get? e = some _ := he; rw [← z, get_size] at w; cases w
    have ht : h2.IsTuple s.heap.objs.size #[.int i s.toks, vs.toList[i]] := ⟨_, hs2.extBut _ _ hne2 hn, rfl, _, rfl⟩
    refine I1.bind2 R.handled hx hy ht (d1 := .int i) .ofInt rd1 fun s1 I2 g2 => h s1 (by rw [hb i d hd]; exact I2) ?_ ?_
    · have hP2 : h2.IsListIter it l (i + 1) := hP'.extBut hs2.extBut (Ne.symm hne)
      exact ⟨hP2.at fun o e => g2.heap it o (fun q => hWY it (.tail _ (.head _)) (Y_Z _ q)) e, _, by
        have := g2.heap e _ (fun q => hWY e (.head _) (Y_Z _ q)) he2
        show IsEnum _ _ _ _ _
        rw [show (((i + 1 : Nat) : Nat) : Int) = (i : Int) + 1 by omega]; exact this⟩
    · exact ((g0.trans g1).mono fun b hb => List.mem_append.mpr (.inl hb)).trans (g2.mono fun b hb => List.mem_append.mpr (.inr hb))
  done A s E Q R hP hg h := by
    obtain ⟨hP, old, he⟩ := hP
    obtain ⟨a, vs, e', ha, hl, ra⟩ := Rep.list' (hg _ (.head _))
    cases e'
    have hlen : vs.size = ds.length := by simpa using ra.length
    exact wpAny_pyNext_enum_end R.handled he hP hl (Array.getElem?_eq_none (by omega)) fun h' hs' => ⟨rfl, h _ ((Stw.one hs').up fun b hb => by rw [List.mem_singleton.mp hb]; exact .tail _ (.head _))⟩

theorem Src.zip {x y : Str} {p q pos : Pos} {c : Nat} {ds es : List D} {l1 l2 z TI TO i1 i2 : Addr} {bs : Nat → Sg} (hx : Own κ F x) (hy : Own κ F y) (hD : ZipApart z TI TO i1 i2 l1 l2)
    (hb : ∀ i d e, ds[i]? = some d → es[i]? = some e → bs i = [(y, .val e), (x, .val d)]) :
    Src G k κ F (.Tuple [.Name x p, .Name y q] c pos) (.ref z) (min ds.length es.length) bs [z, TO, i1, i2, TI] [(.list ds, .ref l1), (.list es, .ref l2)]
      fun i h => IsZip h z TI TO .none ∧ IsPair h TI (.ref i1) (.ref i2) ∧ (∃ a b, IsPair h TO a b) ∧ h.IsListIter i1 l1 i ∧ h.IsListIter i2 l2 i where
  keep i h h' hP hk := by
    obtain ⟨h1, h2, ⟨a, b, h3⟩, h4, h5⟩ := hP
    exact ⟨hk z (by simp) _ h1, hk TI (by simp) _ h2, ⟨a, b, hk TO (by simp) _ h3⟩, h4.at fun o e => hk i1 (by simp) o e, h5.at fun o e => hk i2 (by simp) o e⟩
  self A i s E Q hP hQ := wpAny_pyIter_zip hP.1 hQ
  turn A i s σ Xo os E Q R hi I hW hg hWY hW0 hP h := by
    obtain ⟨hz, hTI, ⟨a0, b0, hTO⟩, h1, h2⟩ := hP
    obtain ⟨a, vs, e', _, hl1, ra1⟩ := Rep.list' (I.ghost _ (hg _ (.head _)))
    cases e'
    obtain ⟨a, ws, e', _, hl2, ra2⟩ := Rep.list' (I.ghost _ (hg _ (.tail _ (.head _))))
    cases e'
    have hlen1 := ra1.length
    have hlen2 := ra2.length
    have hi1 : i < vs.toList.length := by omega
    have hi2 : i < ws.toList.length := by omega
    obtain ⟨d, hd, rd⟩ := ra1.get' i (List.getElem?_eq_getElem hi1)
    obtain ⟨e, he, re⟩ := ra2.get' i (List.getElem?_eq_getElem hi2)
    have hX : ∀ b ∈ [z, TO, i1, i2, TI], b ∈ F.X Xo os := fun b hb => mem_X.mpr (.inr (.inr (.inr (hW b hb))))
    refine wpAny_pyNext_zip_item hD hz hTI hTO h1 h2 hl1 hl2 (x := vs.toList[i]) (y := ws.toList[i]) (by rw [Array.getElem?_eq_getElem (by simpa using hi1)]; simp) (by rw [Array.getElem?_eq_getElem (by simpa using hi2)]; simp)
      fun h' hz' hTO' h1' h2' hn hsz hk => ⟨_, rfl, ?_⟩
    have hTI' : IsPair h' TI (.ref i1) (.ref i2) := hk _ _ hD.TIz hD.TITO hD.TIi1 hD.TIi2 hTI
    have g0 : St [z, TO, i1, i2, TI] s { s with heap := h' } := .ofKeep (tk := s.toks) (fun b o hb q => hk b o (fun z => hb (by rw [z]; simp)) (fun z => hb (by rw [z]; simp)) (fun z => hb (by rw [z]; simp)) (fun z => hb (by rw [z]; simp)) q) (fun b hb => by
      simp only [List.mem_cons, List.not_mem_nil, or_false] at hb
      rcases hb with rfl | rfl | rfl | rfl | rfl
      · exact ⟨_, hz'⟩
      · exact ⟨_, hTO'⟩
      · obtain ⟨o', ho', _⟩ := id h1'; exact ⟨_, ho'⟩
      · obtain ⟨o', ho', _⟩ := id h2'; exact ⟨_, ho'⟩
      · exact ⟨_, hTI'⟩)
    have I0 := I.turnW g0 hW hWY hW0
    refine wpAny_letOwnedTupleGo_zip hz' fun h3 hz3 hs3 => ?_
    have g1 : St [z, TO, i1, i2, TI] { s with heap := h' } { s with heap := h3 } := (St.sameBut (s := { s with heap := h' }) (tk := s.toks) hs3 hz3).mono fun b hb => by rw [List.mem_singleton.mp hb]; exact .head _
    have I1 := I0.turnW g1 hW hWY hW0
    have mv : ∀ {d v}, Rep (F.X Xo os) s.heap d v → Rep (F.X Xo os) h3 d v := fun r => Rep.move (fun a o ha e => (g0.trans g1).heap a o (fun hm => ha (hX a hm)) e) (fun _ q => .inl q) r
    have hne2 : s.heap.objs.size ≠ z := fun q => by have w : s.heap.get? z = some _ := hz; rw [← q, get_size] at w; cases w
    have ht : h3.IsTuple s.heap.objs.size #[vs.toList[i], ws.toList[i]] := IsPair.tuple (hs3.extBut _ _ hne2 hn)
    refine I1.bind2 R.handled hx hy ht (mv rd) (mv re) fun s1 I2 g2 => h s1 (by rw [hb i d e hd he]; exact I2) ?_ ?_
    · have kp : ∀ b ∈ [z, TO, i1, i2, TI], ∀ o, h3.get? b = some o → s1.heap.get? b = some o := fun b hb o e => g2.heap b o (fun q => hWY b hb (Y_Z _ q)) e
      exact ⟨kp z (by simp) _ hz3, kp TI (by simp) _ (hs3.extBut _ _ hD.TIz hTI'), ⟨_, _, kp TO (by simp) _ (hs3.extBut _ _ hD.TOz hTO')⟩,
        (h1'.extBut hs3.extBut hD.i1z).at fun o e => kp i1 (by simp) o e, (h2'.extBut hs3.extBut hD.i2z).at fun o e => kp i2 (by simp) o e⟩
    · exact ((g0.trans g1).mono fun b hb => List.mem_append.mpr (.inl hb)).trans (g2.mono fun b hb => List.mem_append.mpr (.inr hb))
  done A s E Q R hP hg h := by
    obtain ⟨hz, hTI, ⟨a0, b0, hTO⟩, h1, h2⟩ := hP
    obtain ⟨a, vs, e', _, hl1, ra1⟩ := Rep.list' (hg _ (.head _))
    cases e'
    obtain ⟨a, ws, e', _, hl2, ra2⟩ := Rep.list' (hg _ (.tail _ (.head _)))
    cases e'
    have hlen1 : vs.size = ds.length := by simpa using ra1.length
    have hlen2 : ws.size = es.length := by simpa using ra2.length
    refine wpAny_pyNext_zip_end R.handled hD hz hTI hTO h1 h2 hl1 hl2 ?_ fun h' hk => ⟨rfl, h _ ⟨rfl, rfl, Nat.le_refl _, ⟨[], by simp, fun _ h => nomatch h⟩, fun b o hb e => hk b o (fun z => hb (by rw [z]; simp)) (fun z => hb (by rw [z]; simp)) (fun z => hb (by rw [z]; simp)) (fun z => hb (by rw [z]; simp)) e⟩⟩
    rcases Nat.le_total ds.length es.length with q | q
    · exact .inl (Array.getElem?_eq_none (by omega))
    · exact .inr (Array.getElem?_eq_none (by omega))
end

-- the iterables
section
variable {G : Gd} {k : Nat} {κ : Scope} {F : Fm} {σ σ' : Sg}
noncomputable def Out1 (x : Str) (ds : List D) (i : Nat) : Sg := [(x, .val (ds.getD i .none))]
noncomputable def Out2 (x y : Str) (ds : List D) (i : Nat) : Sg := match ds.getD i .none with
  | .tuple [a, b] => [(y, .val b), (x, .val a)]
  | _ => []
noncomputable def OutE (x y : Str) (ds : List D) (i : Nat) : Sg := [(y, .val (ds.getD i .none)), (x, .val (.int i))]
noncomputable def OutZ (x y : Str) (ds es : List D) (i : Nat) : Sg := [(y, .val (es.getD i .none)), (x, .val (ds.getD i .none))]
noncomputable def OutR (x : Str) (a : Nat) (i : Nat) : Sg := [(x, .val (.int ((a + i : Nat) : Int)))]

theorem EvI.list1 {x : Str} {p : Pos} {e : Expr} {ds : List D} (h : Ev G k κ F σ e (.list ds)) : EvI G k κ F (.Name x p) σ e ds.length (Out1 x ds) := fun A Xo os s E R I =>
  wp_st (β := Unit) (h A Xo os s _ R I) fun v s1 g1 r1 => by
    obtain ⟨l, vs, rfl, hlX, hl, ra⟩ := r1.list'
    refine wpAny_pyIter_list hl ⟨g1.trans (.push (tk := s1.toks)), [s1.heap.objs.size], [(.list ds, .ref l)], _, fun κ' F' ho => Src.list1 ho fun i d hd => by unfold Out1; rw [List.getD_eq_getElem?_getD, hd]; rfl,
      ⟨_, Heap.get?_push_size _ rfl, rfl, rfl⟩, fun b hb => ?_, fun b hb => ?_, fun p hp => ?_⟩
    · rw [List.mem_singleton.mp hb]; exact g1.dead (get_size _)
    · rw [List.mem_singleton.mp hb]; exact ⟨_, Heap.get?_push_size _ rfl⟩
    · rw [List.mem_singleton.mp hp]
      exact Rep.move (fun _ _ _ e => Heap.get?_push_of_some _ e) (fun b hb => by
        rcases List.mem_append.mp hb with q | q
        · rw [List.mem_singleton.mp q]; exact .inr (get_size _)
        · exact .inl q) (Rep.ofList hlX hl ra)
theorem EvI.list2 {x y : Str} {p q pos : Pos} {c : Nat} {e : Expr} {ds : List D} (h : Ev G k κ F σ e (.list ds)) (ht : ∀ d ∈ ds, ∃ a b, d = .tuple [a, b]) : EvI G k κ F (.Tuple [.Name x p, .Name y q] c pos) σ e ds.length (Out2 x y ds) := fun A Xo os s E R I =>
  wp_st (β := Unit) (h A Xo os s _ R I) fun v s1 g1 r1 => by
    obtain ⟨l, vs, rfl, hlX, hl, ra⟩ := r1.list'
    refine wpAny_pyIter_list hl ⟨g1.trans (.push (tk := s1.toks)), [s1.heap.objs.size], [(.list ds, .ref l)], _, fun κ' F' ho => Src.list2 ho.1 ho.2 fun i d hd => by
        obtain ⟨a, b, rfl⟩ := ht d (List.mem_of_getElem? hd)
        exact ⟨a, b, rfl, by unfold Out2; rw [List.getD_eq_getElem?_getD, hd]; rfl⟩,
      ⟨_, Heap.get?_push_size _ rfl, rfl, rfl⟩, fun b hb => ?_, fun b hb => ?_, fun p hp => ?_⟩
    · rw [List.mem_singleton.mp hb]; exact g1.dead (get_size _)
    · rw [List.mem_singleton.mp hb]; exact ⟨_, Heap.get?_push_size _ rfl⟩
    · rw [List.mem_singleton.mp hp]
      exact Rep.move (fun _ _ _ e => Heap.get?_push_of_some _ e) (fun b hb => by
        rcases List.mem_append.mp hb with q | q
        · rw [List.mem_singleton.mp q]; exact .inr (get_size _)
        · exact .inl q) (Rep.ofList hlX hl ra)
end
end Mine
end E7

noncomputable section E8
open PySem PySem.Calls PyProof.Rows
set_option Elab.async false
set_option linter.unusedVariables false
namespace Mine

section
variable {G : Gd} {k : Nat} {κ : Scope} {F : Fm} {σ σ' : Sg} {Xo : Ou} {os os' : Os} {s s' : Shared}

theorem callTQ {x : Str} {p pos : Pos} {T : String} {args : List Expr} {ds : List D} (hv : EvV G κ F σ (.Name x p) (.type T))
    (ha : EvA G k κ F σ args ds) (hb : ∀ env, backTo pos (starEach args env) = starEach args env) (hne : ∀ env, ∃ t r, starEach args env = (false, t) :: r) (hpl : ∀ env, (starEach args env).any (·.1) = false)
    {A : Around} {E : Value → Shared → Prop} {Q : Value → Shared → Prop} (R : Room k A) (I : Inv G κ F σ Xo os s)
    (h : ∀ vs s1, St [] s s1 → RepAll (F.X Xo os) s1.heap ds vs → wpAny G.M A (call (.type T) vs) Q E s1) : wpAny G.M A (eval (.Call (.Name x p) args [] pos) F.env) Q E s := by
  refine wpAny_Call_ofName (hv A Xo os s E _ I ?_)
  show wpAny G.M A (callWith pos (.type T) [] (backTo pos (starEach args F.env)) []) _ E s
  rw [hb]
  refine PySem.callWith_type (hpl _) ?_
  have key : wpAny G.M A (spliced (starEach args F.env)) (fun vs s₁ => wpAny G.M A (call (.type T) vs) Q E s₁) E s :=
    wp_st (β := Unit) (ha A Xo os s E R I) fun vs s1 g1 r1 => h vs s1 g1 r1
  obtain ⟨t, r, e⟩ := hne F.env
  rw [e] at key ⊢
  exact evalArgs_plain key
theorem callBQ {x : Str} {p pos : Pos} {T : String} {args : List Expr} {ds : List D} (hv : EvV G κ F σ (.Name x p) (.builtin T))
    (ha : EvA G k κ F σ args ds) (hb : ∀ env, backTo pos (starEach args env) = starEach args env) (hne : ∀ env, ∃ t r, starEach args env = (false, t) :: r) (hpl : ∀ env, (starEach args env).any (·.1) = false)
    {A : Around} {E : Value → Shared → Prop} {Q : Value → Shared → Prop} (R : Room k A) (I : Inv G κ F σ Xo os s)
    (h : ∀ vs s1, St [] s s1 → RepAll (F.X Xo os) s1.heap ds vs → wpAny G.M A (call (.builtin T) vs) Q E s1) : wpAny G.M A (eval (.Call (.Name x p) args [] pos) F.env) Q E s := by
  refine wpAny_Call_ofName (hv A Xo os s E _ I ?_)
  show wpAny G.M A (callWith pos (.builtin T) [] (backTo pos (starEach args F.env)) []) _ E s
  rw [hb]
  refine callWith_builtin (hpl _) ?_
  have key : wpAny G.M A (spliced (starEach args F.env)) (fun vs s₁ => wpAny G.M A (call (.builtin T) vs) Q E s₁) E s :=
    wp_st (β := Unit) (ha A Xo os s E R I) fun vs s1 g1 r1 => h vs s1 g1 r1
  obtain ⟨t, r, e⟩ := hne F.env
  rw [e] at key ⊢
  exact evalArgs_plain key

theorem RepAll.two {X : List Addr} {h : Heap} {d1 d2 : D} {vs : List Value} (r : RepAll X h [d1, d2] vs) : ∃ v1 v2, vs = [v1, v2] ∧ Rep X h d1 v1 ∧ Rep X h d2 v2 := by
  simp only [RepAll] at r
  obtain ⟨v1, r1, rfl, h1, v2, r2, rfl, h2, rfl⟩ := r
  exact ⟨v1, v2, rfl, h1, h2⟩
theorem RepAll.single {X : List Addr} {h : Heap} {d1 : D} {vs : List Value} (r : RepAll X h [d1] vs) : ∃ v1, vs = [v1] ∧ Rep X h d1 v1 := by
  simp only [RepAll] at r
  obtain ⟨v1, r1, rfl, h1, rfl⟩ := r
  exact ⟨v1, rfl, h1⟩
theorem RepAll.three {X : List Addr} {h : Heap} {d1 d2 d3 : D} {vs : List Value} (r : RepAll X h [d1, d2, d3] vs) : ∃ v1 v2 v3, vs = [v1, v2, v3] ∧ Rep X h d1 v1 ∧ Rep X h d2 v2 ∧ Rep X h d3 v3 := by
  simp only [RepAll] at r
  obtain ⟨v1, r1, rfl, h1, v2, r2, rfl, h2, v3, r3, rfl, h3, rfl⟩ := r
  exact ⟨v1, v2, v3, rfl, h1, h2, h3⟩

theorem fitsL {a : Int} (h : 0 ≤ a) (h' : a < 2 ^ 41) : Builtin.Range.rangeFitsLong a = true := by
  unfold Builtin.Range.rangeFitsLong
  simp only [Bool.and_eq_true, decide_eq_true_eq]
  constructor <;> omega
theorem small_of {a b : Int} (ha : 0 ≤ a) (hb : 0 ≤ b) (ha' : a < 2 ^ 40) (hb' : b < 2 ^ 40) : Builtin.Range.small a b 1 = true := by
  have h : Builtin.Range.rangeSize a b 1 = if a < b then b - a else 0 := rangeSize_one a b
  unfold Builtin.Range.small
  rw [h, fitsL ha (by omega), fitsL hb (by omega), fitsL (by decide : (0 : Int) ≤ 1) (by decide), fitsL (a := if a < b then b - a else 0) (by split <;> omega) (by split <;> omega), fitsL (a := b + (1 - 1)) (by omega) (by omega)]
  simp
theorem dead_ge {h : Heap} {b : Nat} (hb : h.objs.size ≤ b) : h.get? b = none := by
  cases e : h.get? b with
  | none => rfl
  | some o => exact absurd (Heap.lt_size e) (Nat.not_lt.mpr hb)
theorem neA {a b : Nat} (h : a ≠ b) : @Ne Addr a b := h

theorem EvI.range {x f : Str} {p fp pos : Pos} {args : List Expr} {ds : List D} {a n : Nat} (hv : EvV G κ F σ (.Name f fp) (.type "range")) (ha : EvA G k κ F σ args ds)
    (hds : (ds = [.int (n : Int)] ∧ a = 0) ∨ (ds = [.int (a : Int), .int ((a + n : Nat) : Int)])) (hn : a + n < 2 ^ 40)
    (hb : ∀ env, backTo pos (starEach args env) = starEach args env) (hne : ∀ env, ∃ t r, starEach args env = (false, t) :: r) (hpl : ∀ env, (starEach args env).any (·.1) = false) :
    EvI G k κ F (.Name x p) σ (.Call (.Name f fp) args [] pos) n (OutR x a) := fun A Xo os s E R I =>
  callTQ hv ha hb hne hpl R I fun vs s1 g1 r1 => by
    have fin : ∀ (s2 : Shared) (b : Int) (t u v : Tok), St [] s s2 → b = a + n → IsRange s2.heap (s1.heap.objs.size) a b 1 t u v → wpAny G.M A (pyIter (.ref s1.heap.objs.size)) (fun it s₂ => St [] s s₂ ∧ ∃ W gh P, (∀ κ' F', OwnT κ' F' (.Name x p) → Src G k κ' F' (.Name x p) it n (OutR x a) W gh P) ∧ P 0 s₂.heap ∧
        (∀ b ∈ W, s.heap.get? b = none) ∧ (∀ b ∈ W, ∃ o, s₂.heap.get? b = some o) ∧ (∀ p ∈ gh, Rep (W ++ F.X Xo os) s₂.heap p.1 p.2)) E s2 := by
      rintro s2 b t u v g2 rfl hr
      refine wpAny_pyIter_range hr (small_of (by omega) (by omega) (by omega) (by omega)) ⟨g2.trans (.push (tk := s2.toks)), [s2.heap.objs.size], [], _, fun κ' F' ho => Src.range1 (a := a) ho, ?_, fun b hb => ?_, fun b hb => ?_, fun p hp => nomatch hp⟩
      · show IsRangeIter _ _ _ _ _
        have e : (if (a : Int) < a + n then (a : Int) + n - a else 0) = (n : Int) - 0 := by split <;> omega
        rw [rangeSize_one, e]
        exact Heap.get?_push_size _ rfl
      · rw [List.mem_singleton.mp hb]; exact g2.dead (get_size _)
      · rw [List.mem_singleton.mp hb]; exact ⟨_, Heap.get?_push_size _ rfl⟩
    rcases hds with ⟨rfl, rfl⟩ | rfl
    · obtain ⟨v1, rfl, r⟩ := r1.single
      obtain ⟨t, rfl⟩ := r.int'
      exact call_range_1 (fin _ n _ _ _ (g1.trans .push) (by omega) (Heap.get?_push_size _ rfl))
    · obtain ⟨v1, v2, rfl, r, r'⟩ := r1.two
      obtain ⟨t, rfl⟩ := r.int'
      obtain ⟨t', rfl⟩ := r'.int'
      exact call_range_2 (fin _ _ _ _ _ (g1.trans .push) (by omega) (Heap.get?_push_size _ rfl))

theorem EvI.enum {x y f : Str} {p q fp tp pos : Pos} {c : Nat} {args : List Expr} {ds : List D} (hv : EvV G κ F σ (.Name f fp) (.type "enumerate")) (ha : EvA G k κ F σ args [.list ds])
    (hb : ∀ env, backTo pos (starEach args env) = starEach args env) (hne : ∀ env, ∃ t r, starEach args env = (false, t) :: r) (hpl : ∀ env, (starEach args env).any (·.1) = false) :
    EvI G k κ F (.Tuple [.Name x p, .Name y q] c tp) σ (.Call (.Name f fp) args [] pos) ds.length (OutE x y ds) := fun A Xo os s E R I =>
  callTQ hv ha hb hne hpl R I fun vs s1 g1 r1 => by
    obtain ⟨v1, rfl, r⟩ := r1.single
    obtain ⟨l, vs, rfl, hlX, hl, ra⟩ := r.list'
    refine call_enumerate_list hl fun h' he hi hsz hk => ?_
    have g2 : St [] s1 { s1 with heap := h' } := .of (tk := s1.toks) hk
    refine wpAny_pyIter_enum he ⟨g1.trans g2, [s1.heap.objs.size + 1, s1.heap.objs.size], [(.list ds, .ref l)], _,
      fun κ' F' ho => Src.enum ho.1 ho.2 (neA (by omega)) fun i d hd => by unfold OutE; rw [List.getD_eq_getElem?_getD, hd]; rfl, ⟨hi, _, he⟩, fun b hb => ?_, fun b hb => ?_, fun p hp => ?_⟩
    · refine g1.dead ?_
      rcases List.mem_cons.mp hb with q | q
      · rw [q]; exact dead_ge (Nat.le_add_right _ 1)
      · rw [List.mem_singleton.mp q]; exact get_size _
    · rcases List.mem_cons.mp hb with q | q
      · exact ⟨_, by rw [q]; exact he⟩
      · obtain ⟨o', ho', _⟩ := id hi
        rw [List.mem_singleton.mp q]; exact ⟨o', ho'⟩
    · rw [List.mem_singleton.mp hp]
      exact Rep.move (fun a o _ e => hk a o e) (fun b hb => by
        rcases List.mem_append.mp hb with q | q
        · refine .inr ?_
          rcases List.mem_cons.mp q with q | q
          · rw [q]; exact dead_ge (Nat.le_add_right _ 1)
          · rw [List.mem_singleton.mp q]; exact get_size _
        · exact .inl q) (Rep.ofList hlX hl ra)

theorem EvI.zip {x y f : Str} {p q fp tp pos : Pos} {c : Nat} {args : List Expr} {ds es : List D} (hv : EvV G κ F σ (.Name f fp) (.type "zip")) (ha : EvA G k κ F σ args [.list ds, .list es])
    (hb : ∀ env, backTo pos (starEach args env) = starEach args env) (hne : ∀ env, ∃ t r, starEach args env = (false, t) :: r) (hpl : ∀ env, (starEach args env).any (·.1) = false) :
    EvI G k κ F (.Tuple [.Name x p, .Name y q] c tp) σ (.Call (.Name f fp) args [] pos) (min ds.length es.length) (OutZ x y ds es) := fun A Xo os s E R I =>
  callTQ hv ha hb hne hpl R I fun vs s1 g1 r1 => by
    obtain ⟨v1, v2, rfl, r, r'⟩ := r1.two
    obtain ⟨l, vs, rfl, hlX, hl, ra⟩ := r.list'
    obtain ⟨l', vs', rfl, hlX', hl', ra'⟩ := r'.list'
    have ne1 : ∀ b : Nat, s1.heap.objs.size ≤ b → @Ne Addr l b := fun b hb e => by
      obtain ⟨o, ho, _⟩ := id hl
      rw [e, dead_ge hb] at ho; cases ho
    have ne2 : ∀ b : Nat, s1.heap.objs.size ≤ b → @Ne Addr l' b := fun b hb e => by
      obtain ⟨o, ho, _⟩ := id hl'
      rw [e, dead_ge hb] at ho; cases ho
    refine call_zip_2 hl hl' fun h' hz hTI hTO h1 h2 hsz hk => ?_
    have g2 : St [] s1 { s1 with heap := h' } := .of (tk := s1.toks) hk
    have hdead : ∀ b : Nat, s1.heap.objs.size ≤ b → s1.heap.get? b = none := fun b hb => dead_ge hb
    have hmem : ∀ b ∈ [s1.heap.objs.size + 4, s1.heap.objs.size + 3, s1.heap.objs.size, s1.heap.objs.size + 1, s1.heap.objs.size + 2], s1.heap.get? b = none := fun b hb => by
      simp only [List.mem_cons, List.not_mem_nil, or_false] at hb
      rcases hb with rfl | rfl | rfl | rfl | rfl <;> exact hdead _ (by omega)
    generalize s1.heap.objs.size = n at *
    refine wpAny_pyIter_zip hz ⟨g1.trans g2, [n + 4, n + 3, n, n + 1, n + 2], [(.list ds, .ref l), (.list es, .ref l')], _,
      fun κ' F' ho => Src.zip (TI := n + 2) (i1 := n) (i2 := n + 1) ho.1 ho.2 ⟨neA (by omega), neA (by omega), neA (by omega), neA (by omega), neA (by omega), neA (by omega), neA (by omega), neA (by omega), neA (by omega), neA (by omega), ne1 _ (by omega), ne1 _ (by omega), ne1 _ (by omega), ne1 _ (by omega), ne2 _ (by omega), ne2 _ (by omega), ne2 _ (by omega), ne2 _ (by omega)⟩
        fun i d e hd he => by unfold OutZ; rw [List.getD_eq_getElem?_getD, he, List.getD_eq_getElem?_getD, hd]; rfl, ⟨hz, hTI, ⟨_, _, hTO⟩, h1, h2⟩, fun b hb => ?_, fun b hb => ?_, fun p hp => ?_⟩
    · exact g1.dead (hmem b hb)
    · simp only [List.mem_cons, List.not_mem_nil, or_false] at hb
      rcases hb with rfl | rfl | rfl | rfl | rfl
      · exact ⟨_, hz⟩
      · exact ⟨_, hTO⟩
      · obtain ⟨o', ho', _⟩ := id h1; exact ⟨_, ho'⟩
      · obtain ⟨o', ho', _⟩ := id h2; exact ⟨_, ho'⟩
      · exact ⟨_, hTI⟩
    · have mv : ∀ {d v}, Rep (F.X Xo os) s1.heap d v → Rep ([n + 4, n + 3, n, n + 1, n + 2] ++ F.X Xo os) h' d v := fun r => Rep.move (fun a o _ e => hk a o e) (fun b hb => by
        rcases List.mem_append.mp hb with q | q
        · exact .inr (hmem b q)
        · exact .inl q) r
      rcases List.mem_cons.mp hp with q | q
      · rw [q]; exact mv (Rep.ofList hlX hl ra)
      · rw [List.mem_singleton.mp q]; exact mv (Rep.ofList hlX' hl' ra')
end
end Mine
end E8

noncomputable section E9
open PySem PySem.Calls PyProof.Rows
set_option Elab.async false
set_option linter.unusedVariables false
namespace Mine

noncomputable def freesOf (names : List (Str × NameKind)) : List Str := (names.filter (·.2 == .free)).map (·.1)
theorem closure_go {env : Env} {cf : Str → Addr} (f : Str × NameKind → List (Str × Addr) → Sem (ForInStep (List (Str × Addr))))
    (hf : ∀ name kind cells, f (name, kind) cells = if kind == .free then (do let a ← cellOf env name; pure (.yield ((name, a) :: cells))) else pure (.yield cells)) :
    ∀ (names : List (Str × NameKind)) (acc : List (Str × Addr)), (∀ n ∈ freesOf names, env.cells.lookup n = some (cf n)) → forIn names acc f = pure ((freesOf names).reverse.map (fun n => (n, cf n)) ++ acc)
  | [], acc, h => by rw [List.forIn_nil]; rfl
  | (n, kind) :: r, acc, h => by
    rw [List.forIn_cons, hf]
    by_cases q : (kind == NameKind.free) = true
    · have e : freesOf ((n, kind) :: r) = n :: freesOf r := by unfold freesOf; rw [List.filter_cons_of_pos (by simpa using q)]; rfl
      rw [if_pos q]
      have hc : cellOf env n = pure (cf n) := by unfold cellOf; rw [h n (by rw [e]; exact .head _)]
      rw [hc]
      simp only [pure_bind]
      rw [closure_go f hf r _ fun m hm => h m (by rw [e]; exact .tail _ hm), e]
      simp
    · have e : freesOf ((n, kind) :: r) = freesOf r := by unfold freesOf; rw [List.filter_cons_of_neg (by simpa using q)]
      rw [if_neg q]
      simp only [pure_bind]
      rw [closure_go f hf r _ fun m hm => h m (by rw [e]; exact hm), e]
theorem closureFor_eq {scope : Scope} {env : Env} {cf : Str → Addr} (h : ∀ n ∈ freesOf scope.names, env.cells.lookup n = some (cf n)) : closureFor scope env = pure ((freesOf scope.names).reverse.map fun n => (n, cf n)) := by
  simp only [closureFor]
  rw [closure_go (cf := cf) _ (fun name kind cells => rfl) scope.names [] h]
  simp

theorem wpAny_newCompEnv {M : Model} {A : Around} {E : Value → Shared → Prop} {s : Shared} {scope : Scope} {globals : Addr} {cl : List (Str × Addr)} {qual : Str} {env : Env} {Q : Env → Shared → Prop}
    (h : Q { scope := scope, locals := s.heap.objs.size, globals := globals, cells := cellsFrom (s.heap.objs.size + 1) scope.names cl, qual := qual, func := none, code := env.code, frame := env.frame, builtins := env.builtins }
      { s with heap := pushCells (s.heap.push { cls := .type "dict", data := .dict #[] }) scope.names }) : wpAny M A (newFunctionEnv scope globals cl [] qual none .none (some env)) Q E s := by
  simp only [newFunctionEnv, Option.isSome_some, if_true]
  refine wpAny_bind (wpAny_alloc ?_)
  refine wpAny_bind (wpAny_layCells _ (fun name kind cells => by dsimp only) _ _ _ _ ?_)
  refine wpAny_bind (wpAny_pure ?_)
  refine wpAny_pure ?_
  rw [show ({ s with heap := s.heap.push { cls := .type "dict", data := .dict #[] } } : Shared).heap.objs.size = s.heap.objs.size + 1 from Heap.size_push ..]
  exact h

noncomputable def relabelK (scope κ : Scope) : Scope :=
  { scope with names := scope.names.map fun (n, k) => if (k == .free && κ.kind == .function && κ.names.lookup n == some .cell) then (n, .cell) else (n, k) }
theorem relabel_eq {scope : Scope} {env : Env} {κ : Scope} (h : env.scope = κ) : relabel scope env = relabelK scope κ := by subst h; rfl

/-- the scope of a comprehension: the names that it reads from around, the cells that it lays -/
structure CompOk (scope κ : Scope) (fr cf : List Str) : Prop where
  kind : scope.kind = .function
  names : ∀ x ∈ scope.names, x.2 = .local → scope.names.lookup x.1 = some .local
  frees : freesOf scope.names = fr
  outer : ∀ x ∈ fr, κ.names.lookup x = some .cell
  inner : ∀ x ∈ fr, (relabelK scope κ).names.lookup x = some .cell
  cells : (cf = [] ∧ ∀ x ∈ scope.names, x.2 ≠ .cell) ∨ (fr = [] ∧ ∀ x ∈ cf, ∀ n, ((cellsFrom n scope.names []).lookup x).isSome = true)

theorem cellsFrom_id : ∀ {names : List (Str × NameKind)} {n : Nat} {acc : List (Str × Addr)}, (∀ x ∈ names, x.2 ≠ .cell) → cellsFrom n names acc = acc
  | [], _, _, _ => rfl
  | (x, kind) :: r, n, acc, h => by
    unfold cellsFrom
    rw [if_neg (by simpa using h _ (.head _))]
    exact cellsFrom_id fun y hy => h y (.tail _ hy)

theorem lookup_map_cf {fr : List Str} {cf : Str → Addr} {x : Str} {c : Addr} (h : (fr.map fun n => (n, cf n)).lookup x = some c) : x ∈ fr ∧ c = cf x := by
  have := mem_of_lookup h
  obtain ⟨n, hn, e⟩ := List.mem_map.mp this
  cases e
  exact ⟨hn, rfl⟩
theorem lookup_map_mem {cf : Str → Addr} {x : Str} : ∀ {fr : List Str}, x ∈ fr → (fr.map fun n => (n, cf n)).lookup x = some (cf x)
  | y :: r, h => by
    rw [List.map_cons]
    by_cases e : x = y
    · subst e; exact lookup_self
    · rw [lookup_ne e]
      exact lookup_map_mem ((List.mem_cons.mp h).resolve_left e)

structure CellsIn (h : Heap) (lo : Nat) (outer cells : List (Str × Addr)) (fr cf : List Str) : Prop where
  old : ∀ x c, cells.lookup x = some c → (outer.lookup x = some c) ∨ (h.IsCell c none ∧ lo ≤ c)
  inj : ∀ x y c, cells.lookup x = some c → cells.lookup y = some c → x = y
  own : ∀ x ∈ cf, ∃ c, cells.lookup x = some c ∧ lo ≤ c
  free : ∀ x ∈ fr, cells.lookup x = outer.lookup x
  mem : ∀ c ∈ cells.map (·.2), c ∈ outer.map (·.2) ∨ (h.IsCell c none ∧ lo ≤ c)
  ccnew : ∀ p ∈ cells, p.1 ∈ cf → lo ≤ p.2

section
variable {G : Gd} {k : Nat} {κ : Scope} {F : Fm} {σ σ' : Sg} {Xo : Ou} {os os' : Os} {s s' : Shared}

theorem cells_in {scope : Scope} {fr cf : List Str} {cfun : Str → Addr} {h : Heap} (C : CompOk scope κ fr cf) (ho : ∀ x ∈ fr, F.env.cells.lookup x = some (cfun x))
    (hinj : ∀ x y c, F.env.cells.lookup x = some c → F.env.cells.lookup y = some c → x = y) :
    CellsIn (pushCells h scope.names) h.objs.size F.env.cells (cellsFrom h.objs.size scope.names (fr.reverse.map fun n => (n, cfun n))) fr cf := by
  rcases C.cells with ⟨rfl, hc⟩ | ⟨rfl, hc⟩
  · rw [cellsFrom_id hc]
    have lk : ∀ x c, (fr.reverse.map fun n => (n, cfun n)).lookup x = some c → F.env.cells.lookup x = some c := fun x c e => by
      obtain ⟨h1, rfl⟩ := lookup_map_cf e
      exact ho x (List.mem_reverse.mp h1)
    exact ⟨fun x c e => .inl (lk x c e), fun x y c e e' => hinj x y c (lk x c e) (lk y c e'), (fun x hx => nomatch hx),
      fun x hx => by rw [ho x hx]; exact lookup_map_mem (List.mem_reverse.mpr hx),
      fun c hc => by
        obtain ⟨p, hp, rfl⟩ := List.mem_map.mp hc
        obtain ⟨n, hn, rfl⟩ := List.mem_map.mp hp
        exact .inl (List.mem_map_of_mem (f := (·.2)) (mem_of_lookup (ho n (List.mem_reverse.mp hn)))), fun p _ hp => nomatch hp⟩
  · have ok := cellsFrom_ok scope.names h h.objs.size [] ⟨(fun n c hm => nomatch hm), .nil⟩ (Nat.le_refl _)
    show CellsIn _ _ _ (cellsFrom h.objs.size scope.names []) [] cf
    exact ⟨fun x c e => .inr (ok.empty x c (mem_of_lookup e)), fun x y c e e' => name_of_addr ok.apart (mem_of_lookup e) (mem_of_lookup e'),
      fun x hx => by
        have := hc x hx h.objs.size
        obtain ⟨c, e⟩ := Option.isSome_iff_exists.mp this
        exact ⟨c, e, (ok.empty x c (mem_of_lookup e)).2⟩,
      (fun x hx => nomatch hx), fun c hc => by
        obtain ⟨p, hp, rfl⟩ := List.mem_map.mp hc
        exact .inr (ok.empty p.1 p.2 hp), fun p hp _ => (ok.empty p.1 p.2 hp).2⟩

noncomputable def Slot.isOwn : Slot → Bool
  | .own _ _ => true
  | _ => false

/-- the frame of a comprehension -/
theorem inner_frame {scope : Scope} {fr cf : List Str} {cfun : Str → Addr} {extra : List Addr} {gh : List (D × Value)} (C : CompOk scope κ fr cf) (I : Inv G κ F σ Xo os s) (ho : ∀ x ∈ fr, F.env.cells.lookup x = some (cfun x))
    (g : St [] s s') (hed : ∀ b ∈ extra, s.heap.get? b = none) (hel : ∀ b ∈ extra, ∃ o, s'.heap.get? b = some o) (hgh : ∀ p ∈ gh, Rep (extra ++ F.X Xo os) s'.heap p.1 p.2)
    (hσ : ∀ x sl, σ'.lookup x = some sl → x ∈ fr ∧ σ.lookup x = some sl ∧ sl.isOwn = false) (F' : Fm) (s4 : Shared) (L : Addr)
    (hL : L = s'.heap.objs.size)
    (hF : F' = ⟨{ scope := relabel scope F.env, locals := L, globals := F.env.globals, cells := cellsFrom (s'.heap.objs.size + 1) scope.names (fr.reverse.map fun n => (n, cfun n)), qual := F.env.qual, func := none, code := F.env.code, frame := F.env.frame, builtins := F.env.builtins }, F.s0, cf⟩)
    (hs4 : s4 = { s' with heap := pushCells (s'.heap.push { cls := .type "dict", data := .dict #[] }) scope.names }) :
    Inv G (relabelK scope κ) F' σ' ⟨extra ++ F.X Xo os, gh ++ Xo.gh⟩ [] s4 ∧ St [] s' s4 ∧ (∀ b ∈ F'.Y [], s'.heap.get? b = none) ∧ F'.cf = cf ∧ (∀ b ∈ F'.Z [], b ∈ F.Z os ∨ s'.heap.get? b = none) := by
  have hsz : (s'.heap.push { cls := .type "dict", data := .dict #[] }).objs.size = s'.heap.objs.size + 1 := Heap.size_push ..
  have ci := cells_in (F := F) (h := s'.heap.push { cls := .type "dict", data := .dict #[] }) C ho I.cellinj
  rw [hsz] at ci
  have k1 : ∀ b o, s'.heap.get? b = some o → s4.heap.get? b = some o := fun b o e => by rw [hs4]; exact pushCells_keeps _ _ _ _ (Heap.get?_push_of_some _ e)
  have g4 : St [] s' s4 := by rw [hs4]; exact .of (tk := s'.toks) fun b o e => pushCells_keeps _ _ _ _ (Heap.get?_push_of_some _ e)
  have gg := g.trans g4
  have hns : s4.heap.Ns L fun _ => none := by
    rw [hs4, hL]
    exact (Heap.Ns.new s'.heap (.type "dict")).keeps fun b o e => pushCells_keeps _ _ _ _ e
  have hLd : s'.heap.get? L = none := by rw [hL]; exact get_size _
  have deadge : ∀ c : Addr, s'.heap.objs.size + 1 ≤ c → s'.heap.get? c = none := fun c hc => dead_ge (Nat.le_of_succ_le hc)
  have ci' : CellsIn s4.heap (s'.heap.objs.size + 1) F.env.cells F'.env.cells fr cf := by rw [hs4, hF]; exact ci
  have hloc : F'.env.locals = L := by rw [hF]
  have I' := I.grow gg
  have hX : ∀ c ∈ F'.X ⟨extra ++ F.X Xo os, gh ++ Xo.gh⟩ [], c ∈ extra ++ F.X Xo os ∨ s'.heap.get? c = none := fun c hc => by
    rcases mem_X.mp hc with q | q | q | q
    · rw [hloc] at q; rw [q]; exact .inr hLd
    · rcases ci'.mem c q with z | z
      · exact .inl (List.mem_append.mpr (.inr (mem_X.mpr (.inr (.inl z)))))
      · exact .inr (deadge c z.2)
    · exact nomatch q
    · exact .inl q
  have hXs : ∀ c ∈ F'.X ⟨extra ++ F.X Xo os, gh ++ Xo.gh⟩ [], c ∈ F.X Xo os ∨ s.heap.get? c = none := fun c hc => by
    rcases hX c hc with q | q
    · rcases List.mem_append.mp q with z | z
      · exact .inr (hed c z)
      · exact .inl z
    · exact .inr (g.dead q)
  have hlive : ∀ b ∈ F'.X ⟨extra ++ F.X Xo os, gh ++ Xo.gh⟩ [], ∃ o, s4.heap.get? b = some o := fun b hb => by
    rcases mem_X.mp hb with q | q | q | q
    · rw [hloc] at q; obtain ⟨m, es, ep, ho, _⟩ := hns; rw [q]; exact ⟨_, ho⟩
    · rcases ci'.mem b q with z | z
      · obtain ⟨o, e⟩ := I.live b (mem_X.mpr (.inr (.inl z))); exact ⟨o, gg.keep b o e⟩
      · obtain ⟨o, e, _⟩ := z.1; exact ⟨o, e⟩
    · exact nomatch q
    · rcases List.mem_append.mp q with z | z
      · obtain ⟨o, e⟩ := hel b z; exact ⟨o, g4.keep b o e⟩
      · obtain ⟨o, e⟩ := I.live b z; exact ⟨o, gg.keep b o e⟩
  refine ⟨{
    scope := by rw [hF]; exact relabel_eq I.scope
    kind := C.kind
    glob := by rw [hF]; exact I.glob
    bi := by rw [hF]; exact I.bi
    base := by rw [hF]; exact I.base
    tk := by rw [hF]; exact I.tk
    st := by rw [show F'.s0 = F.s0 by rw [hF]]; exact I.st.trans gg
    Lnew := by rw [show F'.s0 = F.s0 by rw [hF], hloc]; exact (I.st.trans g).dead hLd
    osnew := fun p hp => nomatch hp
    cfnew := fun x hx => by
      have : x ∈ cf := by rw [hF] at hx; exact hx
      obtain ⟨c, hc, hlo⟩ := ci'.own x this
      exact ⟨c, hc, by rw [show F'.s0 = F.s0 by rw [hF]]; exact (I.st.trans g).dead (deadge c hlo)⟩
    live := hlive
    ns := ⟨_, by rw [hloc]; exact hns⟩
    cells := fun x c hc => by
      rw [hloc]
      rcases ci'.old x c hc with q | ⟨q, hlo⟩
      · obtain ⟨⟨ov, hi⟩, _⟩ := I'.cells x c q
        refine ⟨⟨ov, hi⟩, fun e => ?_⟩
        obtain ⟨o, ho⟩ := I.live c (I.cellX q)
        have := g.keep _ _ ho
        rw [e, hLd] at this; cases this
      · exact ⟨⟨_, q⟩, fun e => by rw [e, hL] at hlo; exact Nat.lt_irrefl _ hlo⟩
    cellinj := ci'.inj
    ossep := .nil, osoff := (fun p hp => nomatch hp), osout := fun p hp => nomatch hp
    ghost := fun p hp => by
      rcases List.mem_append.mp hp with q | q
      · exact Rep.move (fun b o _ e => g4.keep b o e) hX (hgh p q)
      · exact Rep.move (fun b o _ e => gg.keep b o e) hXs (I.ghost p q)
    var := fun x sl hx => by
      obtain ⟨hfr, hsl, hno⟩ := hσ x sl hx
      obtain ⟨v, hv, hs⟩ := I.var x sl hsl
      refine ⟨v, ?_, ?_⟩
      · unfold VarAt at hv ⊢
        rw [I.scope, C.outer x hfr] at hv
        obtain ⟨c, hc, hi⟩ := hv
        have e1 : F'.env.scope.names.lookup x = some .cell := by
          have : F'.env.scope = relabelK scope κ := by rw [hF]; exact relabel_eq I.scope
          rw [this]; exact C.inner x hfr
        rw [e1]
        exact ⟨c, by rw [ci'.free x hfr]; exact hc, hi.keeps gg.keep⟩
      · cases sl with
        | val d => exact Rep.move (fun b o _ e => gg.keep b o e) hXs hs
        | own p xs => cases hno
        | raw u => exact hs }, g4, fun b hb => ?_, by rw [hF], fun b hb => ?_⟩
  · rcases mem_Y.mp hb with q | q | q
    · rw [hloc] at q; rw [q]; exact hLd
    · unfold Fm.cc at q
      obtain ⟨p, hp, rfl⟩ := List.mem_map.mp q
      obtain ⟨hp1, hp2⟩ := List.mem_filter.mp hp
      refine deadge _ (ci'.ccnew p hp1 ?_)
      have : F'.cf = cf := by rw [hF]
      rw [this] at hp2; simpa using hp2
    · exact nomatch q
  · rcases mem_Z.mp hb with q | q | q
    · rw [hloc] at q; rw [q]; exact .inr hLd
    · rcases ci'.mem b q with z | z
      · exact .inl (mem_Z.mpr (.inr (.inl z)))
      · exact .inr (deadge b z.2)
    · exact nomatch q
end
end Mine
end E9

noncomputable section E10
open PySem PySem.Calls PyProof.Rows
set_option Elab.async false
set_option linter.unusedVariables false
namespace Mine

section
variable {prog : Program} {w : World} {A : Around}
theorem codeAny_compLoop_gen {s : Shared} {elt target iter : Expr} {ifs : List Expr} {scope : Scope} {pos : Pos} {it acc : Value} {env : Env} {R : Result → Shared → Prop} (I : Nat → Shared → Prop)
    (turn : ∀ n s, I n s → wpAny (model prog w) A (pyNext it) (fun r s₁ => match r with
      | none => R (.ok .next) s₁
      | some v => wpAny (model prog w) A (letOwnedTupleGo target it v) (fun _ s₁' => wpAny (model prog w) A (assign target env v) (fun _ s₂ =>
          wpAny (model prog w) A (forIn ifs true fun c r => if r = true then do let ok ← PySem.isTrue c env (eval c env); pure (ForInStep.yield ok) else pure (ForInStep.yield r)) (fun ok s₃ => if ok = true then
          wpAny (model prog w) A (eval elt env) (fun x s₄ =>
              wpAny (model prog w) A (call (.builtin "list.append") [acc, x]) (fun _ s₅ => ∃ m, m < n ∧ I m s₅) (notedBy (model prog w) A env fun e s' => R (.error e) s') s₄) (notedBy (model prog w) A env fun e s' => R (.error e) s') s₃
          else ∃ m, m < n ∧ I m s₃) (notedBy (model prog w) A env fun e s' => R (.error e) s') s₂)
          (notedBy (model prog w) A env fun e s' => R (.error e) s') s₁') (notedBy (model prog w) A env fun e s' => R (.error e) s') s₁) (notedBy (model prog w) A env fun e s' => R (.error e) s') s)
    (n : Nat) (h : I n s) : codeAny (model prog w) A (.compLoop (.ListComp elt [⟨target, iter, ifs, 0⟩] scope pos) 0 it acc env) R s := by
  refine codeAny_loop rfl I (fun n s hI => ?_) n h
  show wpAny _ A ((compTurn (.ListComp elt [⟨target, iter, ifs, 0⟩] scope pos) 0 it acc env).onRaise (fun x => do noteFrame x env; theTreesLotGoes x)) _ _ s
  refine wpAny_noted ?_
  rw [compTurn_list]
  refine wpAny_bind (wpAny_standAt (wpAny_bind (wpAny_mono (turn n s hI) (fun r s₁ h₁ => ?_) fun _ _ h' => h')))
  cases r with
  | none => exact wpAny_pure h₁
  | some v =>
    refine wpAny_bind (wpAny_mono h₁ (fun _ s₁' h₁' => ?_) fun _ _ h' => h')
    refine wpAny_bind (wpAny_mono h₁' (fun _ s₂ h₂ => wpAny_bind (wpAny_mono h₂ (fun ok s₃ h₃ => ?_) fun _ _ h' => h')) fun _ _ h' => h')
    cases ok with
    | true =>
      simp only [if_true] at h₃ ⊢
      exact wpAny_bind (wpAny_bind (wpAny_mono h₃ (fun x s₄ h₄ => wpAny_bind (wpAny_mono h₄ (fun _ s₅ h₅ => wpAny_pure (wpAny_pure ⟨rfl, h₅⟩)) fun _ _ h' => h')) fun _ _ h' => h'))
    | false =>
      simp only [Bool.false_eq_true, if_false] at h₃ ⊢
      exact wpAny_pure ⟨rfl, h₃⟩
end

section
variable (G : Gd) (k : Nat)
noncomputable def EvTs (κ : Scope) (F : Fm) (σ : Sg) (ifs : List Expr) (ok : Bool) : Prop :=
  ∀ A Xo os s E, Room k A → Inv G κ F σ Xo os s → wpAny G.M A (forIn ifs true fun c r => if r = true then do let ok ← PySem.isTrue c F.env (eval c F.env); pure (ForInStep.yield ok) else pure (ForInStep.yield r)) (fun r s' => St [] s s' ∧ r = ok) E s
/-- an expression that turns V -/
noncomputable def EvX (κ : Scope) (F : Fm) (σ : Sg) (e : Expr) (d : D) (V : List Addr) (gv : List (D × Value)) (TP : Nat → Value → Prop) (P Q : Heap → Prop) : Prop :=
  ∀ A Xo os s E, Room k A → Inv G κ F σ Xo os s → (∀ b ∈ V, b ∈ Xo.xs) → (∀ b ∈ V, b ∉ F.Z os) → (∀ b ∈ V, F.s0.heap.get? b = none) → (∀ p ∈ gv, p ∈ Xo.gh) → P s.heap → wpAny G.M A (eval e F.env) (fun v s' => St V s s' ∧ Rep (F.X Xo os) s'.heap d v ∧ TP s'.toks v ∧ Q s'.heap) E s
end

section
variable {G : Gd} {k : Nat} {κ : Scope} {F : Fm} {σ σ' : Sg} {Xo : Ou} {os os' : Os} {s s' : Shared}
theorem EvTs.nil : EvTs G k κ F σ [] true := fun A Xo os s E R I => wpAny_tests_nil ⟨.refl, rfl⟩
theorem EvTs.one {c : Expr} {b : Bool} (h : EvT G k κ F σ c b) : EvTs G k κ F σ [c] b := fun A Xo os s E R I => wpAny_tests_one (h A Xo os s E R I)
theorem Ev.x {e : Expr} {d : D} (h : Ev G k κ F σ e d) : EvX G k κ F σ e d [] [] (fun _ _ => True) (fun _ => True) (fun _ => True) := fun A Xo os s E R I _ _ _ _ _ =>
  wp_st (β := Unit) (h A Xo os s E R I) fun v s1 g1 r1 => ⟨g1, r1, trivial, trivial⟩

theorem St.dropDead {U V : List Addr} (g : St U s s') (h : ∀ b ∈ U, b ∈ V ∨ s.heap.get? b = none) : St V s s' :=
  ⟨g.drawn, g.os, g.toks, g.gens, fun b o hb e => g.heap b o (fun q => (h b q).elim hb fun z => by rw [z] at e; cases e) e, g.alive⟩

noncomputable def upto (outs : Nat → Option D) (n : Nat) : List D := (List.range n).filterMap outs
theorem upto_succ (outs : Nat → Option D) (n : Nat) : upto outs (n + 1) = upto outs n ++ (outs n).toList := by
  unfold upto
  rw [List.range_succ, List.filterMap_append]
  congr 1
theorem upto_length (outs : Nat → Option D) : ∀ n, (upto outs n).length ≤ n
  | 0 => Nat.le_refl _
  | n + 1 => by
    rw [upto_succ, List.length_append]
    have := upto_length outs n
    have h : (outs n).toList.length ≤ 1 := by cases outs n <;> simp
    omega

noncomputable abbrev compI (G : Gd) (κ' : Scope) (F' : Fm) (σ' : Sg) (Xi : Ou) (Y : List Addr) (a : Addr) (n : Nat) (outs : Nat → Option D) (P PV : Nat → Heap → Prop) (TP : Nat → Value → Prop) (s : Shared) (c : Nat) (s' : Shared) : Prop :=
  ∃ i vs, i ≤ n ∧ c = n + 1 - i ∧ Inv G κ' F' σ' Xi [] s' ∧ P i s'.heap ∧ PV i s'.heap ∧ s'.heap.PlainList a vs ∧ RepAll (F'.X Xi []) s'.heap (upto outs i) vs.toList ∧ St Y s s' ∧ ∀ v ∈ vs.toList, TP s'.toks v
theorem comp_core {elt target iter : Expr} {ifs : List Expr} {scope : Scope} {pos p0 : Pos} {n : Nat} {bs : Nat → Sg} {outs : Nat → Option D} {fr cf : List Str} {V : List Addr} {gv : List (D × Value)} {PV : Nat → Heap → Prop} {TP : Nat → Value → Prop}
    {use : Option (Value → Sem Unit)} (hit : EvI G k κ F target σ iter n bs) (hc : CompOk scope κ fr cf) (hσ : ∀ x sl, σ'.lookup x = some sl → x ∈ fr ∧ σ.lookup x = some sl ∧ sl.isOwn = false)
    (hfr : ∀ x ∈ fr, ∃ sl, σ.lookup x = some sl) (hown : ∀ F' : Fm, F'.cf = cf → OwnT (relabelK scope κ) F' target) (hbs : ∀ i, Sub σ' (bs i ++ σ'))
    (hturn : ∀ i, i < n → ∀ F' : Fm, F'.cf = cf → ∃ ok, EvTs G k (relabelK scope κ) F' (bs i ++ σ') ifs ok ∧ (ok = false → outs i = none ∧ ∀ h, PV i h → PV (i + 1) h) ∧
      (ok = true → ∃ d, outs i = some d ∧ EvX G k (relabelK scope κ) F' (bs i ++ σ') elt d V gv TP (PV i) (PV (i + 1)))) (hTP : ∀ n n' v, TP n v → n ≤ n' → TP n' v)
    (hPVk : ∀ i h h', PV i h → (∀ b ∈ V, ∀ o, h.get? b = some o → h'.get? b = some o) → PV i h') (hsz : n ≤ sizeLine)
    (hfs : ∀ env x, foldedSetIterable iter env x = pure x)
    {A : Around} {E : Value → Shared → Prop} {Q : Value → Shared → Prop} (R : Room k A) (I : Inv G κ F σ Xo os s) (hV : ∀ b ∈ V, b ∈ Xo.xs) (hVZ : ∀ b ∈ V, b ∉ F.Z os) (hV0 : ∀ b ∈ V, F.s0.heap.get? b = none)
    (hgv : ∀ p ∈ gv, p ∈ Xo.gh) (hPV : PV 0 s.heap)
    (h : ∀ a C vs m s', St V s s' → s.heap.get? a = none → s.heap.get? C = none → C ≠ a → s'.heap.PlainList a vs → RepAll (C :: a :: F.X Xo os) s'.heap (upto outs n) vs.toList → s'.heap.Ns C m → PV n s'.heap → (∀ v ∈ vs.toList, TP s'.toks v) →
      compPost G.M A E use Q (.ref a) C (.ok .next) s') :
    wpAny G.M A (comprehension (.ListComp elt [⟨target, iter, ifs, 0⟩] scope pos) scope F.env p0 (newList []) false (eval iter F.env) use) Q E s := by
  -- the closure
  have hcell : ∀ x ∈ fr, ∃ c, F.env.cells.lookup x = some c := fun x hx => by
    obtain ⟨sl, hsl⟩ := hfr x hx
    obtain ⟨v, hv, _⟩ := I.var x sl hsl
    unfold VarAt at hv
    rw [I.scope, hc.outer x hx] at hv
    obtain ⟨c, hc, _⟩ := hv
    exact ⟨c, hc⟩
  have hcl : ∀ x ∈ fr, F.env.cells.lookup x = some ((F.env.cells.lookup x).getD 0) := fun x hx => by
    obtain ⟨c, e⟩ := hcell x hx
    rw [e]; rfl
  refine wpAny_comprehension_free (cl := fr.reverse.map fun x => (x, (F.env.cells.lookup x).getD 0)) rfl (hfs _) ?_ hc.kind hc.names ?_
  · have := closureFor_eq (scope := scope) (env := F.env) (cf := fun x => (F.env.cells.lookup x).getD 0) (by rw [hc.frees]; exact hcl)
    rw [this, hc.frees]
  refine wpAny_mono (hit A Xo os s E R I) (fun xv s₁ h₁ => wpAny_mono h₁ (fun it s₂ h₂ => ?_) fun _ _ e => e) fun _ _ e => e
  obtain ⟨g2, W, gh, P, hsrc, hP, hWd, hWl, hgh⟩ := h₂
  refine wpAny_newObj_type (wpAny_newCompEnv ?_)
  let a : Addr := s₂.heap.objs.size
  have ea : a = s₂.heap.objs.size := rfl
  rw [← ea]
  have had : s₂.heap.get? a = none := get_size _
  generalize hs3 : ({ s₂ with heap := s₂.heap.push { cls := .type "list", dict := none, data := .seq ([] : List Value).toArray } } : Shared) = s3
  have g3 : St [] s₂ s3 := by rw [← hs3]; exact .push (tk := s₂.toks)
  have g23 := g2.trans g3
  have hal : s3.heap.PlainList a #[] := ⟨_, by rw [← hs3]; exact Heap.get?_push_size _ rfl⟩
  have hsa : s.heap.get? a = none := g2.dead had
  have haW : a ∉ W := fun q => by obtain ⟨o, e⟩ := hWl a q; rw [had] at e; cases e
  have IF := inner_frame (σ' := σ') (cfun := fun x => (F.env.cells.lookup x).getD 0) (extra := W ++ [a]) (gh := gh) (s' := s3) hc I hcl g23 (fun b hb => by
      rcases List.mem_append.mp hb with q | q
      · exact hWd b q
      · rw [List.mem_singleton.mp q]; exact hsa) (fun b hb => by
      rcases List.mem_append.mp hb with q | q
      · obtain ⟨o, e⟩ := hWl b q; exact ⟨o, g3.keep b o e⟩
      · obtain ⟨m, e⟩ := hal; rw [List.mem_singleton.mp q]; exact ⟨_, e⟩) (fun p hp => Rep.move (fun b o _ e => g3.keep b o e) (fun b hb => by
      rcases List.mem_append.mp hb with q | q
      · rcases List.mem_append.mp q with z | z
        · exact .inl (List.mem_append.mpr (.inl z))
        · rw [List.mem_singleton.mp z]; exact .inr had
      · exact .inl (List.mem_append.mpr (.inr q))) (hgh p hp)) hσ _ _ s3.heap.objs.size rfl rfl rfl
  generalize hC : s3.heap.objs.size = C at IF ⊢
  generalize hs4 : ({ s3 with heap := pushCells (s3.heap.push { cls := .type "dict", data := .dict #[] }) scope.names } : Shared) = s4 at IF ⊢
  obtain ⟨I4, g4, hYd, hF'cf, hZ⟩ := IF
  revert I4 hYd hF'cf hZ
  show ∀ (_ : Inv G (relabelK scope κ) ⟨_, F.s0, cf⟩ σ' _ [] s4), _
  generalize hF' : (⟨{ scope := relabel scope F.env, locals := C, globals := F.env.globals, cells := cellsFrom (C + 1) scope.names (fr.reverse.map fun n => (n, (F.env.cells.lookup n).getD 0)), qual := F.env.qual, func := none, code := F.env.code, frame := F.env.frame, builtins := F.env.builtins }, F.s0, cf⟩ : Fm) = F'
  intro I4 hYd hF'cf hZ
  have hFC : F'.env.locals = C := by rw [← hF']
  have hF0 : F'.s0 = F.s0 := by rw [← hF']
  have S := hsrc (relabelK scope κ) F' (hown F' hF'cf)
  have hYs : ∀ b ∈ F'.Y [], s.heap.get? b = none := fun b hb => g23.dead (hYd b hb)
  have hXo : ∀ b ∈ F.X Xo os, b ∈ (W ++ [a]) ++ F.X Xo os := fun b hb => List.mem_append.mpr (.inr hb)
  have hVX : ∀ b ∈ V, b ∈ F.X Xo os := fun b hb => mem_X.mpr (.inr (.inr (.inr (hV b hb))))
  have hVl : ∀ b ∈ V, ∃ o, s.heap.get? b = some o := fun b hb => I.live b (hVX b hb)
  have hWZ : ∀ b ∈ W, b ∉ F'.Z [] := fun b hb hz => by
    rcases hZ b hz with q | q
    · obtain ⟨o, e⟩ := I.live b (Z_X b q); rw [hWd b hb] at e; cases e
    · obtain ⟨o, e⟩ := hWl b hb; rw [g3.dead q] at e; cases e
  have haZ : a ∉ F'.Z [] := fun hz => by
    rcases hZ a hz with q | q
    · obtain ⟨o, e⟩ := I.live a (Z_X a q); rw [hsa] at e; cases e
    · obtain ⟨m, e⟩ := hal; rw [q] at e; cases e
  have hVZ' : ∀ b ∈ V, b ∉ F'.Z [] := fun b hb hz => by
    rcases hZ b hz with q | q
    · exact hVZ b hb q
    · obtain ⟨o, e⟩ := hVl b hb; have := g23.keep b o e; rw [q] at this; cases this
  have hWV : ∀ b ∈ W, b ∉ V := fun b hb hv => by obtain ⟨o, e⟩ := hVl b hv; rw [hWd b hb] at e; cases e
  have haV : a ∉ V := fun hv => by obtain ⟨o, e⟩ := hVl a hv; rw [hsa] at e; cases e
  have hW0 : ∀ b ∈ W, F'.s0.heap.get? b = none := fun b hb => by rw [hF0]; exact I.st.dead (hWd b hb)
  have ha0 : F'.s0.heap.get? a = none := by rw [hF0]; exact I.st.dead hsa
  have hV0' : ∀ b ∈ V, F'.s0.heap.get? b = none := fun b hb => by rw [hF0]; exact hV0 b hb
  have hX' : ∀ b, b ∈ W ∨ b = a ∨ b ∈ F.X Xo os → b ∈ F'.X ⟨(W ++ [a]) ++ F.X Xo os, gh ++ Xo.gh⟩ [] := fun b hb => mem_X.mpr (.inr (.inr (.inr (by
    rcases hb with q | q | q
    · exact List.mem_append.mpr (.inl (List.mem_append.mpr (.inl q)))
    · exact List.mem_append.mpr (.inl (List.mem_append.mpr (.inr (by rw [q]; exact .head _))))
    · exact List.mem_append.mpr (.inr q)))))
  have hCa : C ≠ a := fun e => by obtain ⟨m, e'⟩ := hal; rw [← e, ← hC, get_size] at e'; cases e'
  have hCs : s.heap.get? C = none := hYs C (mem_Y.mpr (.inl hFC.symm))
  have loop : codeAny G.M A (.compLoop (.ListComp elt [⟨target, iter, ifs, 0⟩] scope pos) 0 it (.ref a) F'.env) (compPost G.M A E use Q (.ref a) C) s4 := by
    refine codeAny_compLoop_gen (fun c s' => compI G (relabelK scope κ) F' σ' ⟨(W ++ [a]) ++ F.X Xo os, gh ++ Xo.gh⟩ (W ++ a :: (F'.Y [] ++ V)) a n outs P PV TP s c s') ?_ (n + 1)
      ⟨0, #[], Nat.zero_le _, rfl, I4, S.keep _ _ _ hP fun b _ o e => (g3.trans g4).keep b o e, hPVk _ _ _ hPV fun b _ o e => (g23.trans g4).keep b o e, hal.at fun o e => g4.keep a o e, .nil, (g23.trans g4).up, fun v hv => (by simp at hv)⟩
    rintro c s' ⟨i, vs, hi, rfl, I', hP', hPV', hpl, hrep, g', htp⟩
    by_cases hin : i < n
    · obtain ⟨ok, hts, hno, hyes⟩ := hturn i hin F' hF'cf
      refine wpAny_mono (S.turn A i s' σ' _ [] _ (fun s₃ => wpAny G.M A (forIn ifs true fun c r => if r = true then do let ok ← PySem.isTrue c F'.env (eval c F'.env); pure (ForInStep.yield ok) else pure (ForInStep.yield r)) (fun ok s₃ => if ok = true then
          wpAny G.M A (eval elt F'.env) (fun x s₄ =>
              wpAny G.M A (call (.builtin "list.append") [.ref a, x]) (fun _ s₅ => ∃ m, m < n + 1 - i ∧ compI G (relabelK scope κ) F' σ' ⟨(W ++ [a]) ++ F.X Xo os, gh ++ Xo.gh⟩ (W ++ a :: (F'.Y [] ++ V)) a n outs P PV TP s m s₅) (notedBy G.M A F'.env fun e s' => compPost G.M A E use Q (.ref a) C (.error e) s') s₄) (notedBy G.M A F'.env fun e s' => compPost G.M A E use Q (.ref a) C (.error e) s') s₃
          else ∃ m, m < n + 1 - i ∧ compI G (relabelK scope κ) F' σ' ⟨(W ++ [a]) ++ F.X Xo os, gh ++ Xo.gh⟩ (W ++ a :: (F'.Y [] ++ V)) a n outs P PV TP s m s₃) (notedBy G.M A F'.env fun e s' => compPost G.M A E use Q (.ref a) C (.error e) s') s₃) R hin I'
        (fun b hb => List.mem_append.mpr (.inl (List.mem_append.mpr (.inl hb)))) (fun p hp => List.mem_append.mpr (.inl hp)) hWZ hW0 hP' fun s₃ I₃ hP₃ g₃ => ?_) (fun r s₃ h₃ => ?_) fun _ _ e => e
      · have hkpa : ∀ o, s'.heap.get? a = some o → s₃.heap.get? a = some o := fun o e => g₃.heap a o (fun q => (List.mem_append.mp q).elim haW fun z => haZ (Y_Z _ z)) e
        have hkpV : ∀ b ∈ V, ∀ o, s'.heap.get? b = some o → s₃.heap.get? b = some o := fun b hb o e => g₃.heap b o (fun q => (List.mem_append.mp q).elim (fun z => hWV b z hb) fun z => hVZ' b hb (Y_Z _ z)) e
        have hpl₃ := hpl.at hkpa
        have hPV₃ := hPVk _ _ _ hPV' hkpV
        have hrep₃ : RepAll (F'.X ⟨(W ++ [a]) ++ F.X Xo os, gh ++ Xo.gh⟩ []) s₃.heap (upto outs i) vs.toList := RepAll.move (fun b o hb e => g₃.heap b o (fun q => hb ((List.mem_append.mp q).elim (fun z => hX' b (.inl z)) fun z => Y_X b z)) e) (fun _ q => .inl q) hrep
        have g₃' : St (W ++ a :: (F'.Y [] ++ V)) s s₃ := g'.trans (g₃.mono fun b hb => by
          rcases List.mem_append.mp hb with q | q
          · exact List.mem_append.mpr (.inl q)
          · exact List.mem_append.mpr (.inr (.tail _ (List.mem_append.mpr (.inl q)))))
        refine wp_st (β := Unit) (hts A _ [] s₃ _ R I₃) fun b s₄ g₄ hb => ?_
        subst hb
        have I₄ := I₃.grow g₄
        have hP₄ := S.keep _ _ _ hP₃ fun b _ o e => g₄.keep b o e
        have hPV₄ := hPVk _ _ _ hPV₃ fun b _ o e => g₄.keep b o e
        have hpl₄ := hpl₃.at fun o e => g₄.keep a o e
        have hrep₄ := hrep₃.grow g₄.keep
        have g₄' := g₃'.trans (g₄.up (X := W ++ a :: (F'.Y [] ++ V)))
        cases b with
        | false =>
          obtain ⟨hout, hPVs⟩ := hno rfl
          simp only [Bool.false_eq_true, if_false]
          exact ⟨n + 1 - (i + 1), by omega, i + 1, vs, by omega, rfl, I₄.weaken (hbs i), hP₄, hPVs _ hPV₄, hpl₄, by rw [upto_succ, hout]; simpa using hrep₄, g₄', fun v hv => hTP _ _ _ (htp v hv) (Nat.le_trans g₃.toks g₄.toks)⟩
        | true =>
          obtain ⟨d, hout, hev⟩ := hyes rfl
          simp only [if_true]
          refine wpAny_mono (hev A _ [] s₄ _ R I₄ (fun b hb => List.mem_append.mpr (.inr (hVX b hb))) hVZ' hV0' (fun p hp => List.mem_append.mpr (.inr (hgv p hp))) hPV₄) (fun v s₅ h₅ => ?_) fun _ _ e => e
          obtain ⟨g₅, r₅, htp₅, hPV₅⟩ := h₅
          have I₅ := I₄.turnW g₅ (fun b hb => List.mem_append.mpr (.inr (hVX b hb))) hVZ' hV0'
          have hP₅ := S.keep _ _ _ hP₄ fun b hb o e => g₅.heap b o (hWV b hb) e
          have hpl₅ := hpl₄.at fun o e => g₅.heap a o haV e
          have hrep₅ : RepAll (F'.X ⟨(W ++ [a]) ++ F.X Xo os, gh ++ Xo.gh⟩ []) s₅.heap (upto outs i) vs.toList := RepAll.move (fun b o hb e => g₅.heap b o (fun q => hb (hX' b (.inr (.inr (hVX b q))))) e) (fun _ q => .inl q) hrep₄
          have hlen : vs.size ≤ sizeLine := by
            have h1 : vs.size = (upto outs i).length := by simpa using hrep.length
            have h2 := upto_length outs i
            omega
          refine wpAny_list_append_plain hpl₅ (fun h' hpl' hs' => ?_) hlen
          obtain ⟨m', e'⟩ := id hpl'
          have g₆ : St [a] s₅ { s₅ with heap := h' } := .sameBut (tk := s₅.toks) hs' e'
          refine ⟨n + 1 - (i + 1), by omega, i + 1, _, by omega, rfl, (I₅.turnW g₆ (fun b hb => ?_) (fun b hb => ?_) (fun b hb => ?_)).weaken (hbs i), S.keep _ _ _ hP₅ (fun b hb o e => g₆.heap b o (fun q => haW (by rw [← List.mem_singleton.mp q]; exact hb)) e),
            hPVk _ _ _ hPV₅ (fun b hb o e => g₆.heap b o (fun q => haV (by rw [← List.mem_singleton.mp q]; exact hb)) e), hpl', ?_, ?_, ?_⟩
          · rw [List.mem_singleton.mp hb]; exact List.mem_append.mpr (.inl (List.mem_append.mpr (.inr (.head _))))
          · rw [List.mem_singleton.mp hb]; exact haZ
          · rw [List.mem_singleton.mp hb]; exact ha0
          · rw [upto_succ, hout, Array.toList_push]
            exact (hrep₅.turn hs' (hX' a (.inr (.inl rfl)))).append (.one (r₅.turn hs' (hX' a (.inr (.inl rfl)))))
          · exact (g₄'.trans (g₅.mono fun b hb => List.mem_append.mpr (.inr (.tail _ (List.mem_append.mpr (.inr hb)))))).trans (g₆.mono fun b hb => by rw [List.mem_singleton.mp hb]; exact List.mem_append.mpr (.inr (.head _)))
          · intro y hy
            rw [Array.toList_push] at hy
            rcases List.mem_append.mp hy with q | q
            · exact hTP _ _ _ (htp y q) (Nat.le_trans (Nat.le_trans g₃.toks g₄.toks) g₅.toks)
            · rw [List.mem_singleton.mp q]; exact htp₅
      · obtain ⟨v, rfl, h₃⟩ := h₃
        exact h₃
    · obtain rfl : i = n := by omega
      refine wpAny_mono (S.done A s' _ (fun s₃ => compPost G.M A E use Q (.ref a) C (.ok .next) s₃) R hP' (fun p hp => (I'.ghost p (List.mem_append.mpr (.inl hp))).sub fun b hb => hX' b (.inl hb)) fun s₃ g₃ => ?_) (fun r s₃ h₃ => ?_) fun _ _ e => e
      · have gV : St V s s' := g'.dropDead fun b hb => by
          rcases List.mem_append.mp hb with q | q
          · exact .inr (hWd b q)
          · rcases List.mem_cons.mp q with q | q
            · rw [q]; exact .inr hsa
            · rcases List.mem_append.mp q with z | z
              · exact .inr (hYs b z)
              · exact .inl z
        obtain ⟨m, hn⟩ := I'.ns
        rw [hFC] at hn
        have hCW : C ∉ W := fun q => hWZ C q (mem_Z.mpr (.inl hFC.symm))
        refine h a C vs m s₃ (gV.w g₃ hWd) hsa hCs hCa (hpl.at fun o e => g₃.heap a o haW e) (RepAll.move (fun b o hb e => g₃.heap b o (fun q => hb (hX' b (.inl q))) e) (fun b hb => .inl ?_) hrep) (hn.at fun o e => g₃.heap C o hCW e) (hPVk _ _ _ hPV' fun b hb o e => g₃.heap b o (fun q => hWV b q hb) e) (fun y hy => hTP _ _ _ (htp y hy) g₃.toks)
        rcases List.mem_cons.mp hb with q | q
        · rw [q]; exact mem_X.mpr (.inl hFC.symm)
        · rcases List.mem_cons.mp q with q | q
          · exact hX' b (.inr (.inl q))
          · exact hX' b (.inr (.inr q))
      · obtain ⟨rfl, h₃⟩ := h₃
        exact h₃
  have e1 : compPost G.M A E use Q (.ref a) C = compPost G.M A E use Q (.ref a) F'.env.locals := by rw [hFC]
  subst hF'
  exact codeAny_compStart_list loop (S.self A 0 s4 _ _ (S.keep _ _ _ hP fun b _ o e => (g3.trans g4).keep b o e) loop)
end
end Mine
end E10

noncomputable section E11
open PySem PySem.Calls PyProof.Rows
set_option Elab.async false
set_option linter.unusedVariables false
namespace Mine

section
variable {G : Gd} {k : Nat} {κ : Scope} {F : Fm} {σ σ' : Sg} {Xo : Ou} {os os' : Os} {s s' : Shared}

/-- a comprehension: its turns by data alone -/
structure Comp (G : Gd) (k : Nat) (κ : Scope) (F : Fm) (σ : Sg) (elt target iter : Expr) (ifs : List Expr) (scope : Scope) (ds : List D) (σ' : Sg) (fr cf : List Str) (n : Nat) (bs : Nat → Sg) (outs : Nat → Option D) : Prop where
  it : EvI G k κ F target σ iter n bs
  ok : CompOk scope κ fr cf
  hσ : ∀ x sl, σ'.lookup x = some sl → x ∈ fr ∧ σ.lookup x = some sl ∧ sl.isOwn = false
  hfr : ∀ x ∈ fr, ∃ sl, σ.lookup x = some sl
  own : ∀ F' : Fm, F'.cf = cf → OwnT (relabelK scope κ) F' target
  hbs : ∀ i, Sub σ' (bs i ++ σ')
  turn : ∀ i, i < n → ∀ F' : Fm, F'.cf = cf → ∃ ok, EvTs G k (relabelK scope κ) F' (bs i ++ σ') ifs ok ∧ (ok = false → outs i = none) ∧ (ok = true → ∃ d, outs i = some d ∧ Ev G k (relabelK scope κ) F' (bs i ++ σ') elt d)
  size : n ≤ sizeLine
  fs : ∀ env x, foldedSetIterable iter env x = pure x
  res : upto outs n = ds

theorem Comp.core {elt target iter : Expr} {ifs : List Expr} {scope : Scope} {ds : List D} {fr cf : List Str} {n : Nat} {bs : Nat → Sg} {outs : Nat → Option D} {use : Option (Value → Sem Unit)} {pos p0 : Pos} (c : Comp G k κ F σ elt target iter ifs scope ds σ' fr cf n bs outs)
    {A : Around} {E : Value → Shared → Prop} {Q : Value → Shared → Prop} (R : Room k A) (I : Inv G κ F σ Xo os s)
    (h : ∀ a C vs m s', St [] s s' → s.heap.get? a = none → s.heap.get? C = none → C ≠ a → s'.heap.PlainList a vs → RepAll (C :: a :: F.X Xo os) s'.heap ds vs.toList → s'.heap.Ns C m →
      compPost G.M A E use Q (.ref a) C (.ok .next) s') : wpAny G.M A (comprehension (.ListComp elt [⟨target, iter, ifs, 0⟩] scope pos) scope F.env p0 (newList []) false (eval iter F.env) use) Q E s := by
  have z := c.res
  subst z
  exact comp_core (V := []) (gv := []) (PV := fun _ _ => True) (TP := fun _ _ => True) c.it c.ok c.hσ c.hfr c.own c.hbs (fun i hi F' hF' => by
    obtain ⟨ok, h1, h2, h3⟩ := c.turn i hi F' hF'
    exact ⟨ok, h1, fun q => ⟨h2 q, fun _ _ => trivial⟩, fun q => by obtain ⟨d, e, hd⟩ := h3 q; exact ⟨d, e, hd.x⟩⟩) (fun _ _ _ _ _ => trivial) (fun _ _ _ _ _ => trivial) c.size c.fs R I (fun b hb => nomatch hb) (fun b hb => nomatch hb) (fun b hb => nomatch hb) (fun b hb => nomatch hb) trivial
    fun a C vs m s' g h1 h2 h3 h4 h5 h6 _ _ => h a C vs m s' g h1 h2 h3 h4 h5 h6

theorem EvN.comp {elt target iter : Expr} {ifs : List Expr} {scope : Scope} {ds : List D} {fr cf : List Str} {n : Nat} {bs : Nat → Sg} {outs : Nat → Option D} {pos : Pos} (c : Comp G k κ F σ elt target iter ifs scope ds σ' fr cf n bs outs) :
    EvN G k κ F σ (.ListComp elt [⟨target, iter, ifs, 0⟩] scope pos) ds := fun A Xo os s E R I => by
  rw [eval_ListComp]
  refine c.core R I fun a C vs m s' g ha hC hCa hpl hr hn => ⟨m, hn, fun h' hs' => ?_⟩
  have gw : Stw [C] s' { s' with heap := h' } := .one hs'.extBut
  refine ⟨g.w gw fun b hb => by rw [List.mem_singleton.mp hb]; exact hC, a, vs, rfl, ha, hpl.extBut hs'.extBut (Ne.symm hCa), (hr.turn hs' (.head _)).sub fun b hb => .tail _ hb⟩
theorem Ev.comp {elt target iter : Expr} {ifs : List Expr} {scope : Scope} {ds : List D} {fr cf : List Str} {n : Nat} {bs : Nat → Sg} {outs : Nat → Option D} {pos : Pos} (c : Comp G k κ F σ elt target iter ifs scope ds σ' fr cf n bs outs) :
    Ev G k κ F σ (.ListComp elt [⟨target, iter, ifs, 0⟩] scope pos) (.list ds) := (EvN.comp c).ev
theorem Ex1.comp {x : Str} {p : Pos} {elt target iter : Expr} {ifs : List Expr} {scope : Scope} {ds : List D} {fr cf : List Str} {n : Nat} {bs : Nat → Sg} {outs : Nat → Option D} {cpos pos : Pos} (c : Comp G k κ F σ elt target iter ifs scope ds σ' fr cf n bs outs)
    (hk : Own κ F x) (hs : ∀ env : Env, env.scope = κ → swapsWith (.ListComp elt [⟨target, iter, ifs, 0⟩] scope cpos) (some (.Name x p)) pos.line env = pure true) :
    Ex1 G k κ F σ (.Assign [.Name x p] (.ListComp elt [⟨target, iter, ifs, 0⟩] scope cpos) pos) (.next ((x, .val (.list ds)) :: σ)) := fun A Xo os s E R I => by
  rw [exec_Assign_Name_used _ _ _ _ (hs _ I.scope)]
  refine wpAny_bind (wpAny_standAt (wpAny_bind ?_))
  rw [arm_evalThenUse_ListComp]
  refine wpAny_bind (c.core R I fun a C vs m s' g ha hC hCa hpl hr hn => ?_)
  obtain ⟨n0, hn0⟩ := id hpl
  obtain ⟨oC, _, _, hoC, _⟩ := id hn
  have I' := I.around (W := [C]) (gh := []) g (fun b hb => by rw [List.mem_singleton.mp hb]; exact hC) (fun b hb => by rw [List.mem_singleton.mp hb]; exact ⟨_, hoC⟩) (fun p hp => nomatch hp)
  have hX : ∀ c ∈ F.X ⟨[C] ++ Xo.xs, [] ++ Xo.gh⟩ os, c = C ∨ c ∈ F.X Xo os := fun c hc => by
    rcases mem_X.mp hc with q | q | q | q
    · exact .inr (mem_X.mpr (.inl q))
    · exact .inr (mem_X.mpr (.inr (.inl q)))
    · exact .inr (mem_X.mpr (.inr (.inr (.inl q))))
    · rcases List.mem_append.mp q with z | z
      · exact .inl (List.mem_singleton.mp z)
      · exact .inr (mem_X.mpr (.inr (.inr (.inr z))))
  have hCX : C ∉ F.X Xo os := I.off hC
  have r : Rep (F.X ⟨[C] ++ Xo.xs, [] ++ Xo.gh⟩ os) s'.heap (.list ds) (.ref a) := Rep.ofList (fun q => by
      rcases hX a q with z | z
      · exact hCa z.symm
      · exact I.off ha z) hpl.isList (hr.sub fun c hc => by
      rcases hX c hc with z | z
      · rw [z]; exact .head _
      · exact .tail _ (.tail _ z))
  refine wpAny_assign_Name (I'.storeVal hk r fun s2 I2 g2 => ?_)
  have hCY : C ∉ F.Y os := fun q => hCX (Y_X C q)
  refine ⟨m, hn.at fun o e => g2.heap C o hCY e, fun h' hs' => wpAny_pure (wpAny_pure ?_)⟩
  have gw : Stw [C] s2 { s2 with heap := h' } := .one hs'.extBut
  refine ⟨(g.up.trans g2).w gw fun b hb => by rw [List.mem_singleton.mp hb]; exact hC, os, fun _ h => .inl h, rfl, I2.closeW gw (fun b hb => by rw [List.mem_singleton.mp hb]; exact hCX) fun b hb => by rw [List.mem_singleton.mp hb]; exact I.st.dead hC⟩
end
end Mine
end E11

noncomputable section E12
open PySem PySem.Calls PyProof.Rows
set_option Elab.async false
set_option linter.unusedVariables false
namespace Mine

noncomputable def FnAt (G : Gd) (mg : Str → Option Value) (k : Nat) (name : Str) (ds : List D) (d : D) : Prop :=
  ∃ f o fd, mg name = some (.ref f) ∧ G.hb.get? f = some o ∧ o.data = .func fd ∧ Cal G k (.ref f) ds d

theorem bind1 {P : List Value → Prop} (h : ∀ a, P [a]) (vs : List Value) (e : vs.length = 1) : P vs := by
  obtain ⟨a, rfl⟩ := List.length_eq_one_iff.mp e
  exact h a
theorem bind2 {P : List Value → Prop} (h : ∀ a b, P [a, b]) (vs : List Value) (e : vs.length = 2) : P vs := by
  obtain ⟨a, r, rfl⟩ := List.exists_cons_of_length_eq_add_one e
  exact bind1 (P := fun r => P (a :: r)) (h a) r (Nat.succ.inj e)
theorem bind3 {P : List Value → Prop} (h : ∀ a b c, P [a, b, c]) (vs : List Value) (e : vs.length = 3) : P vs := by
  obtain ⟨a, r, rfl⟩ := List.exists_cons_of_length_eq_add_one e
  exact bind2 (P := fun r => P (a :: r)) (h a) r (Nat.succ.inj e)
theorem St.late {X : List Addr} {s s' : Shared} {n : Nat} (g : St X { s with toks := n } s') (h : s.toks ≤ s'.toks) : St X s s' := ⟨g.drawn, g.os, h, g.gens, g.heap, g.alive⟩
theorem lookup_of_mem {α : Type} : ∀ {l : List (Str × α)} {q : Str × α}, (l.map (·.1)).Nodup → q ∈ l → l.lookup q.1 = some q.2
  | r :: l, q, hn, hq => by
    rw [List.map_cons, List.nodup_cons] at hn
    rcases List.mem_cons.mp hq with rfl | h
    · rw [show q = (q.1, q.2) from rfl]; exact lookup_self
    · have hne : q.1 ≠ r.1 := fun e => hn.1 (by rw [← e]; exact List.mem_map_of_mem h)
      rw [show r = (r.1, r.2) from rfl, lookup_ne hne]
      exact lookup_of_mem hn.2 h
theorem zip_sep {names : List Str} (hn : names.Nodup) : ∀ (vs : List Value), (names.zip vs).Pairwise fun a b => a.1 ≠ b.1 := by
  induction names with
  | nil => intro vs; exact .nil
  | cons n names ih =>
    intro vs
    cases vs with
    | nil => exact .nil
    | cons v vs =>
      rw [List.zip_cons_cons]
      rw [List.nodup_cons] at hn
      exact List.pairwise_cons.mpr ⟨fun p hp e => hn.1 (by rw [show n = p.1 from e]; exact (List.of_mem_zip hp).1), ih hn.2 vs⟩
theorem bindL_off {kd : Str → Option NameKind} {x : Str} : ∀ {bs : List (Str × Value)} {m : Str → Option Value}, (∀ p ∈ bs, p.1 ≠ x) → bindL kd bs m x = m x
  | [], _, _ => rfl
  | (n, v) :: r, m, h => by
    unfold bindL
    rw [bindL_off fun p hp => h p (.tail _ hp)]
    have := h (n, v) (.head _)
    split
    · exact if_neg (Ne.symm this)
    · rfl
theorem bindL_at {kd : Str → Option NameKind} {x : Str} {v : Value} : ∀ {bs : List (Str × Value)} {m : Str → Option Value}, (∀ p ∈ bs, kd p.1 = some .local) → (bs.Pairwise fun a b => a.1 ≠ b.1) → bs.lookup x = some v → bindL kd bs m x = some v
  | (n, u) :: r, m, hk, hp, h => by
    unfold bindL
    obtain ⟨h1, h2⟩ := List.pairwise_cons.mp hp
    rw [if_pos (hk (n, u) (.head _))]
    rcases lookup_cons' h with ⟨rfl, rfl⟩ | ⟨hne, h⟩
    · rw [bindL_off fun p hp q => h1 p hp q.symm]
      exact if_pos rfl
    · exact bindL_at (fun p hp => hk p (.tail _ hp)) h2 h
theorem zip_lookup {X : List Addr} {h : Heap} {x : Str} {sl : Slot} : ∀ {names : List Str} {ds : List D} {vs : List Value}, RepAll X h ds vs → ds.length = names.length → (names.zip (ds.map Slot.val)).lookup x = some sl → ∃ d v, sl = .val d ∧ (names.zip vs).lookup x = some v ∧ Rep X h d v
  | [], _, _, _, _, h => by simp at h
  | n :: names, [], _, _, hl, _ => by simp at hl
  | n :: names, d :: ds, vs, r, hl, e => by
    simp only [RepAll] at r
    obtain ⟨v, q, rfl, h1, h2⟩ := r
    simp only [List.map_cons, List.zip_cons_cons] at e ⊢
    rcases lookup_cons' e with ⟨rfl, rfl⟩ | ⟨hne, e⟩
    · exact ⟨d, v, rfl, lookup_self, h1⟩
    · obtain ⟨d', v', e1, e2, e3⟩ := zip_lookup h2 (by simpa using hl) e
      exact ⟨d', v', e1, by rw [lookup_ne hne]; exact e2, e3⟩

section
variable {G : Gd} {k : Nat} {p : Program} {loose : List Str} {mean : ExcName → Option Value} {mg mb : Str → Option Value}

theorem call_cells_t {prog : Program} {w : World} {A : Around} {s : Shared} {R : Result → Shared → Prop} {a : Addr} {o : Obj} {fd : FuncData} {body : List Stmt} {vals : List Value} {binds : List (Str × Value)}
    (hroom : A.depth < recursionLimit) (ho : s.heap.get? a = some o) (hdata : o.data = .func fd) (hlim : s.heap.NoLimit) (hcd : s.heap.CodeRec fd.code fd.qualname)
    (hbody : fd.body = .stmts body) (hbind : bindArgs fd ⟨vals, []⟩ = pure binds) (hclo : fd.closure = [])
    (hkind : ∀ x ∈ binds, fd.scope.names.lookup x.1 = some .local ∨ (fd.scope.names.lookup x.1 = some .cell ∧ ((cellsFrom (s.heap.objs.size + 1) fd.scope.names []).lookup x.1).isSome = true))
    (h : ∀ s₁, s.toks ≤ s₁.toks → InCallC s (callEnvC fd s.heap.objs.size a).locals (bindL (callEnvC fd s.heap.objs.size a).kindOf binds fun _ => none) (callEnvC fd s.heap.objs.size a).cells
        (bindC (callEnvC fd s.heap.objs.size a).kindOf binds fun _ => none) s₁ →
      wpAny (model prog w) (A.deeper (callEnvC fd s.heap.objs.size a)) (execs body (callEnvC fd s.heap.objs.size a)) (fun f s' => R (.ok (.ret (match f with | .ret v => v | _ => .none))) s')
        (fun e s' => wpAny (model prog w) (A.deeper (callEnvC fd s.heap.objs.size a)) (leaving (callEnvC fd s.heap.objs.size a) e) (fun _ s'' => R (.error e) s'') (fun e' s'' => R (.error e') s'') s') s₁)
    (hco : fd.scope.isCoroutine = false) (hgen : fd.scope.isGenerator = false) (hk : fd.scope.kind = .function) :
    codeAny (model prog w) A (.call (.ref a) ⟨vals, []⟩) R s := by
  refine codeAny_call_function hroom ho hdata hco hgen hbody hcd ?_
  rw [hbind, hclo]
  refine wpAny_pure (wpAny_with_toks (Nat.le_refl _) (wpAny_newFunctionEnv_cells hk hkind fun env he s' x hn => ?_))
  subst he
  exact ⟨hlim.keeps x.toInCall.keep, codeAny_func (h s' hn x)⟩

/-- what a call of a def finds -/
theorem call_def0 (T : Top p loose mean mg mb G.hb) {rc : DefRec} {f : Addr} {o : Obj} {pm code doc : Value} {names cf : List Str} {vs : List Value} (hf : G.hb.get? f = some o) (hd : o.data = .func (docDef rc.name rc.params rc.body rc.scope pm code doc)) (hcd : G.hb.CodeRec code rc.name)
    (hbind : bindArgs (docDef rc.name rc.params rc.body rc.scope pm code doc) { pos := vs } = pure (names.zip vs)) (hκ : rc.scope.kind = .function) (hloc : ∀ x ∈ names, rc.scope.names.lookup x = some .local)
    (hgen : rc.scope.isGenerator = false) (hco : rc.scope.isCoroutine = false) (hcf : ∀ n, (cellsFrom n rc.scope.names []).map (·.1) = cf) (hcn : cf.Nodup) (hzip : (names.zip vs).Pairwise fun a b => a.1 ≠ b.1)
    {A : Around} {X : List Addr} {gh : List (D × Value)} {σ : Sg} {s s00 : Shared} {E : Value → Shared → Prop} {Q : Value → Shared → Prop} (R : Room (k + 1) A) (hin0 : G.In s00) (h00 : St [] s00 s) (hl : Live X s)
    (hgh : ∀ p ∈ gh, Rep X s.heap p.1 p.2)
    (hσ : ∀ x sl, σ.lookup x = some sl → ∃ v, (names.zip vs).lookup x = some v ∧ ((∃ d, sl = .val d ∧ Rep X s.heap d v) ∨ sl = .raw v))
    (h : ∀ F s₁ A', F.cf = cf → F.s0 = s00 → Room k A' → St [] s s₁ → (∀ b ∈ F.Z [], s.heap.get? b = none) → Inv G rc.scope F σ ⟨X, gh⟩ [] s₁ →
      ∀ E', wpAny G.M A' (execs rc.body F.env) (fun fl s' => match fl with
        | .ret v => Q v s'
        | _ => Q .none s') E' s₁) : wpAny G.M A (call (.ref f) vs) Q E s := by
  have hb : ∀ b o, G.hb.get? b = some o → s.heap.get? b = some o := fun b o e => h00.keep b o (hin0.1 b o e)
  refine wpAny_call (call_cells_t (fd := docDef rc.name rc.params rc.body rc.scope pm code doc) (body := rc.body) (binds := names.zip vs) (by have := R.depth; omega) (hb _ _ hf) hd (T.nolimit.keeps hb) (hcd.keeps hb) rfl hbind rfl
    (fun x hx => .inl (hloc x.1 (List.of_mem_zip hx).1)) (fun s₁ htk C => ?_) hco hgen hκ)
  obtain ⟨⟨hsame, hns, hkeep, _⟩, hcell, hap, hab⟩ := C
  obtain ⟨h', tk, rfl⟩ := hsame
  have g : St [] s { s with heap := h', toks := tk } := .of hkeep htk
  have dead : ∀ c, s.heap.objs.size ≤ c → s.heap.get? c = none := fun c hc => dead_ge hc
  have hLd := dead s.heap.objs.size (Nat.le_refl _)
  refine wpAny_mono (h ⟨callEnvC (docDef rc.name rc.params rc.body rc.scope pm code doc) s.heap.objs.size f, s00, cf⟩ _ (A.deeper (callEnvC (docDef rc.name rc.params rc.body rc.scope pm code doc) s.heap.objs.size f)) rfl rfl ?_ g ?_ ?_ _) (fun fl s' q => by cases fl <;> exact q) fun _ _ e => e
  · exact ⟨R.handled, by have := R.depth; show A.depth + 1 + k < _; omega, by have := R.units; show A.units + 3 + 200 + 10 * k < _; omega⟩
  · intro b hb
    rcases mem_Z.mp hb with q | q | q
    · rw [q]; exact hLd
    · obtain ⟨p, hp, rfl⟩ := List.mem_map.mp q
      exact dead _ (Nat.le_of_lt (hab p.1 p.2 hp))
    · exact nomatch q
  · have hX : ∀ c ∈ Fm.X ⟨callEnvC (docDef rc.name rc.params rc.body rc.scope pm code doc) s.heap.objs.size f, s00, cf⟩ ⟨X, gh⟩ [], c ∈ X ∨ s.heap.get? c = none := fun c hc => by
      rcases mem_X.mp hc with q | q | q | q
      · rw [q]; exact .inr hLd
      · obtain ⟨p, hp, rfl⟩ := List.mem_map.mp q
        exact .inr (dead _ (Nat.le_of_lt (hab p.1 p.2 hp)))
      · exact nomatch q
      · exact .inl q
    have hkeys : (callEnvC (docDef rc.name rc.params rc.body rc.scope pm code doc) s.heap.objs.size f).cells.map (·.1) = cf := hcf _
    have hlk : ∀ q ∈ (callEnvC (docDef rc.name rc.params rc.body rc.scope pm code doc) s.heap.objs.size f).cells, (callEnvC (docDef rc.name rc.params rc.body rc.scope pm code doc) s.heap.objs.size f).cells.lookup q.1 = some q.2 := fun q hq => lookup_of_mem (by rw [hkeys]; exact hcn) hq
    have hcells : ∀ q ∈ (callEnvC (docDef rc.name rc.params rc.body rc.scope pm code doc) s.heap.objs.size f).cells, ∃ ov, h'.IsCell q.2 ov := fun q hq => ⟨_, hcell _ _ (hlk q hq)⟩
    exact {
      scope := rfl, kind := hκ, glob := rfl, bi := rfl, base := hin0.1, tk := hin0.2, st := h00.trans g, Lnew := h00.dead hLd
      osnew := fun p hp => nomatch hp
      cfnew := fun x hx => by
        have hx' : x ∈ (callEnvC (docDef rc.name rc.params rc.body rc.scope pm code doc) s.heap.objs.size f).cells.map (·.1) := by rw [hkeys]; exact hx
        obtain ⟨q, hq, rfl⟩ := List.mem_map.mp hx'
        exact ⟨q.2, hlk q hq, h00.dead (dead _ (Nat.le_of_lt (hab q.1 q.2 hq)))⟩
      live := fun b hb => by
        rcases mem_X.mp hb with q | q | q | q
        · obtain ⟨o, es, ep, ho, _⟩ := hns; rw [q]; exact ⟨_, ho⟩
        · obtain ⟨p, hp, rfl⟩ := List.mem_map.mp q
          obtain ⟨ov, o, e, _⟩ := hcells p hp
          exact ⟨o, e⟩
        · exact nomatch q
        · obtain ⟨o, e⟩ := hl b q; exact ⟨o, hkeep b o e⟩
      ns := ⟨_, hns⟩
      cells := fun x c hc => ⟨⟨_, hcell x c hc⟩, fun e => by
        have := hab x c (mem_of_lookup hc)
        rw [e] at this; exact Nat.lt_irrefl _ this⟩
      cellinj := fun x y c hx hy => name_of_addr hap (mem_of_lookup hx) (mem_of_lookup hy)
      ossep := .nil
      osoff := fun p hp => nomatch hp
      osout := fun p hp => nomatch hp
      ghost := fun p hp => Rep.move (fun b o _ e => hkeep b o e) hX (hgh p hp)
      var := fun x sl hx => by
        obtain ⟨v, hv, hsl⟩ := hσ x sl hx
        have hxn : x ∈ names := (List.of_mem_zip (mem_of_lookup hv)).1
        refine ⟨v, ?_, ?_⟩
        · unfold VarAt
          show (match rc.scope.names.lookup x with | some .local => _ | some .cell => _ | _ => False)
          rw [hloc x hxn]
          exact ⟨_, hns, bindL_at (fun p hp => hloc p.1 (List.of_mem_zip hp).1) hzip hv⟩
        · rcases hsl with ⟨d, rfl, r⟩ | rfl
          · exact Rep.move (fun b o _ e => hkeep b o e) hX r
          · rfl }

theorem call_def (T : Top p loose mean mg mb G.hb) {rc : DefRec} {f : Addr} {o : Obj} {pm code doc : Value} {names cf : List Str} {vs : List Value} (hf : G.hb.get? f = some o) (hd : o.data = .func (docDef rc.name rc.params rc.body rc.scope pm code doc)) (hcd : G.hb.CodeRec code rc.name)
    (hbind : bindArgs (docDef rc.name rc.params rc.body rc.scope pm code doc) { pos := vs } = pure (names.zip vs)) (hκ : rc.scope.kind = .function) (hloc : ∀ x ∈ names, rc.scope.names.lookup x = some .local)
    (hgen : rc.scope.isGenerator = false) (hco : rc.scope.isCoroutine = false) (hcf : ∀ n, (cellsFrom n rc.scope.names []).map (·.1) = cf) (hcn : cf.Nodup) (hzip : (names.zip vs).Pairwise fun a b => a.1 ≠ b.1)
    {A : Around} {X : List Addr} {gh : List (D × Value)} {σ : Sg} {s : Shared} {E : Value → Shared → Prop} {Q : Value → Shared → Prop} (R : Room (k + 1) A) (hin : G.In s) (hl : Live X s)
    (hgh : ∀ p ∈ gh, Rep X s.heap p.1 p.2)
    (hσ : ∀ x sl, σ.lookup x = some sl → ∃ v, (names.zip vs).lookup x = some v ∧ ((∃ d, sl = .val d ∧ Rep X s.heap d v) ∨ sl = .raw v))
    (h : ∀ F s₁ A', F.cf = cf → F.s0 = s → Room k A' → St [] s s₁ → (∀ b ∈ F.Z [], s.heap.get? b = none) → Inv G rc.scope F σ ⟨X, gh⟩ [] s₁ →
      ∀ E', wpAny G.M A' (execs rc.body F.env) (fun fl s' => match fl with
        | .ret v => Q v s'
        | _ => Q .none s') E' s₁) : wpAny G.M A (call (.ref f) vs) Q E s :=
  call_def0 T hf hd hcd hbind hκ hloc hgen hco hcf hcn hzip R hin .refl hl hgh hσ h

/-- a def that the top holds, as a contract -/
theorem FnAt.mk (T : Top p loose mean mg mb G.hb) {rc : DefRec} {names cf : List Str} {ds : List D} {d : D} (hm : rc ∈ recsOf p)
    (hbind : ∀ pm code doc vs, vs.length = names.length → bindArgs (docDef rc.name rc.params rc.body rc.scope pm code doc) { pos := vs } = pure (names.zip vs)) (hκ : rc.scope.kind = .function) (hloc : ∀ x ∈ names, rc.scope.names.lookup x = some .local)
    (hgen : rc.scope.isGenerator = false) (hco : rc.scope.isCoroutine = false) (hcf : ∀ n, (cellsFrom n rc.scope.names []).map (·.1) = cf) (hcn : cf.Nodup) (hnd : names.Nodup) (hlen : ds.length = names.length)
    (h : ∀ F : Fm, F.cf = cf → Ex G k rc.scope F (names.zip (ds.map .val)) rc.body (.ret d)) : FnAt G mg (k + 1) rc.name ds d := by
  obtain ⟨f, o, pm, code, doc, h1, h2, h3, h4⟩ := T.fn rc hm
  refine ⟨f, o, _, h1, h2, h3, fun A X s vs E R hb hl r => ?_⟩
  have hvl : vs.length = names.length := by rw [r.length]; exact hlen
  refine call_def T (cf := cf) (gh := []) (σ := names.zip (ds.map .val)) h2 h3 h4 (hbind _ _ _ _ hvl) hκ hloc hgen hco hcf hcn (zip_sep hnd vs) R hb hl (fun p hp => nomatch hp)
    (fun x sl hx => by obtain ⟨d, v, e1, e2, e3⟩ := zip_lookup r hlen hx; exact ⟨v, e2, .inl ⟨d, e1, e3⟩⟩) fun F s₁ A' hFc hF0 R' g hY I E' => ?_
  refine wpAny_mono (h F hFc A' _ [] s₁ E' R' I) (fun fl s' q => ?_) fun _ _ e => e
  obtain ⟨mv, os', ho, v, rfl, I', r'⟩ := q
  exact ⟨g.trans' mv fun c hc => .inr (hY c (Y_Z c hc)), r'.sub fun b hb => mem_X.mpr (.inr (.inr (.inr hb)))⟩

/-- a call of it by its name -/
theorem Ev.fn {κ : Scope} {F : Fm} {σ : Sg} {x : Str} {p pos : Pos} {args : List Expr} {ds : List D} {d : D} (h : FnAt G mg k x ds d) (hg : G.hb.Ns mainGlobals mg) (ha : EvA G k κ F σ args ds)
    (hk : κ.names.lookup x = some .globalImplicit) (hd : (x == ("__debug__" : Str)) = false) (hb : ∀ env, backTo pos (starEach args env) = starEach args env) (hne : ∀ env, ∃ t r, starEach args env = (false, t) :: r) : Ev G k κ F σ (.Call (.Name x p) args [] pos) d := by
  obtain ⟨f, o, fd, h1, h2, h3, h4⟩ := h
  exact Ev.callF (EvV.global hg h1 hk hd) h2 h3 ha h4 hb hne
theorem Ev.fnW {κ : Scope} {F : Fm} {σ : Sg} {x : Str} {p pos : Pos} {args : List Expr} {ds : List D} {d : D} (h : FnAt G mg k x ds d) (hg : G.hb.Ns mainGlobals mg) (ha : EvAW G k κ F σ args ds) (hfl : d.flat = true)
    (hk : κ.names.lookup x = some .globalImplicit) (hd : (x == ("__debug__" : Str)) = false) (hb : ∀ env, backTo pos (starEach args env) = starEach args env) (hne : ∀ env, ∃ t r, starEach args env = (false, t) :: r) : Ev G k κ F σ (.Call (.Name x p) args [] pos) d := by
  obtain ⟨f, o, fd, h1, h2, h3, h4⟩ := h
  exact Ev.callFW (EvV.global hg h1 hk hd) h2 h3 ha h4 hfl hb hne
end
end Mine
end E12

noncomputable section E13
open PySem PySem.Calls PyProof.Rows PySem.SeqAt
set_option Elab.async false
set_option linter.unusedVariables false
namespace Mine

section
variable {G : Gd} {k : Nat} {κ : Scope} {F : Fm} {σ σ' : Sg} {Xo : Ou} {os os' : Os} {s s' : Shared}

theorem Op2.addL {xs ys : List D} (h : xs.length + ys.length ≤ sizeLine) : Op2 G k .Add (.list xs) (.list ys) (.list (xs ++ ys)) := fun A X s v1 v2 E R l r1 r2 => by
  obtain ⟨a, vs, rfl, haX, hl, ra⟩ := r1.list'
  obtain ⟨b, ws, rfl, hbX, hb, rb⟩ := r2.list'
  have h1 : vs.size = xs.length := by simpa using ra.length
  have h2 : ws.size = ys.length := by simpa using rb.length
  obtain ⟨⟨cls, dd, data, sl⟩, ho, hc, n, hd⟩ := id hl
  obtain ⟨⟨cls2, dd2, data2, sl2⟩, ho2, hc2, n2, hd2⟩ := id hb
  simp only at hc hd hc2 hd2
  subst hc hd hc2 hd2
  refine concat_meets ⟨_, ho, rfl⟩ ⟨_, ho2, rfl⟩ noFill_list_add seq_list_add PySem.F.slot_list_add PySem.F.entry_list_add (PySem.F.args_list_add_2 _ _) (list_addW a b vs ws n n2 dd dd2 sl sl2 (by omega)) ⟨ho, ho2, ?_⟩
  refine ⟨.push, .ofList l.off ⟨_, Heap.get?_push_size _ rfl, rfl, _, rfl⟩ ?_⟩
  rw [Array.toList_append]
  exact (ra.append rb).grow fun _ _ e => Heap.get?_push_of_some _ e
theorem foldl_rep {v : Value} : ∀ (n : Nat) (acc : Array Value), (List.foldl (fun x1 x2 => x1 ++ x2) acc (List.replicate n #[v])).toList = acc.toList ++ List.replicate n v
  | 0, acc => by simp
  | n + 1, acc => by
    rw [List.replicate_succ, List.foldl_cons, foldl_rep n]
    simp [List.replicate_succ]
theorem RepAll.replicate {X : List Addr} {h : Heap} {d : D} {v : Value} (r : Rep X h d v) : ∀ n, RepAll X h (List.replicate n d) (List.replicate n v)
  | 0 => .nil
  | n + 1 => .cons r (RepAll.replicate r n)
theorem Ev.mulL {l r : Expr} {d : D} {n : Int} {pos : Pos} (h1 : EvN G k κ F σ l [d]) (h2 : Ev G k κ F σ r (.int n)) (hn : n < 2 ^ 20) (h0 : -(2 ^ 63) ≤ n) :
    Ev G k κ F σ (.BinOp l .Mult r pos) (.list (List.replicate n.toNat d)) := fun A Xo os s E R I =>
  wpAny_BinOp (wp_st (β := Unit) (h1 A Xo os s E R I) fun v1 s1 g1 r1 => wp_st (β := Unit) (h2 A Xo os s1 E R (I.grow g1)) fun v2 s2 g2 r2 => by
    obtain ⟨a, vs, rfl, ha, hp, ra⟩ := r1
    obtain ⟨t, rfl⟩ := r2.int'
    obtain ⟨m, hm⟩ := hp.at fun o e => g2.keep a o e
    obtain ⟨v, hv, rv⟩ := ra.single
    have hvs : vs = #[v] := Array.toList_inj.mp hv
    subst hvs
    refine wpAny_binaryOp_repeat_ref (T := "list") (U := "int") (by decide) ⟨_, hm, rfl⟩ (fun s' => typeIs_int s' n t) noFill_list_mul PySem.F.fills_int_mul PySem.F.slot_int_rmul repeat_list PySem.F.slot_int_index.lookup
      (call_meets PySem.F.slot_int_rmul (typeIs_int s2 n t) PySem.F.entry_int_rmul (PySem.F.args_int_rmul_2 _ _) (int___rmul___int_list n t a #[v] m)
        ⟨hm, rfl, ⟨_, hm, rfl⟩, call_meets PySem.F.slot_list_mul ⟨_, hm, rfl⟩ PySem.F.entry_list_mul (PySem.F.args_list_mul_2 _ _)
          (AutoListH.list___mul___list_int_3 a #[v] m n t (by simp [Builtin.List.listFitsIndex]; omega) (by simp; omega) (by simp [Builtin.List.listTooLong, sizeLine]; omega))
          ⟨hm, ?_⟩⟩)
    refine ⟨(g1.trans g2).trans .push, .ofList (I.grow (g1.trans g2)).offSize ⟨_, Heap.get?_push_size _ rfl, rfl, _, rfl⟩ ?_⟩
    have e : (if (#[v] : Array Value).isEmpty = true then 0 else n.toNat) = n.toNat := by simp
    rw [e, foldl_rep]
    exact (RepAll.replicate ((rv.sub fun _ h => List.mem_cons_of_mem _ h).grow g2.keep) _).grow fun _ _ e => Heap.get?_push_of_some _ e)

-- built-in functions
theorem Cal.lenL {xs : List D} (h : xs.length ≤ sizeLine) : Cal G k (.builtin "len") [.list xs] (.int xs.length) := fun A X s vs E R hb l r => by
  obtain ⟨v, rfl, r1⟩ := r.single
  obtain ⟨a, vs, rfl, haX, hl, ra⟩ := r1.list'
  have h1 : vs.size = xs.length := by simpa using ra.length
  rw [sizeLine_eq] at h
  refine call_len_list hl (by omega) ⟨.tok, ?_⟩
  rw [h1]; exact .ofInt
theorem Cal.lenS {x : Str} (h : x.length ≤ sizeLine) : Cal G k (.builtin "len") [.str x] (.int x.length) := fun A X s vs E R hb l r => by
  obtain ⟨v, rfl, r1⟩ := r.single
  obtain ⟨t, rfl⟩ := r1.str'
  rw [sizeLine_eq] at h
  exact len_str (by omega) ⟨.tok, .ofInt⟩
theorem Cal.abs {a : Int} : Cal G k (.builtin "abs") [.int a] (.int (if a < 0 then -a else a)) := fun A X s vs E R hb l r => by
  obtain ⟨v, rfl, r1⟩ := r.single
  obtain ⟨t, rfl⟩ := r1.int'
  exact wpAny_with_toks (Nat.le_refl _) (call_abs_int fun u tk hn => ⟨.tok hn, .ofInt⟩)
theorem Cal.min2 {a b : Int} : Cal G k (.builtin "min") [.int a, .int b] (.int (if b < a then b else a)) := fun A X s vs E R hb l r => by
  obtain ⟨v, v', rfl, r1, r'⟩ := r.two
  obtain ⟨t, rfl⟩ := r1.int'
  obtain ⟨u, rfl⟩ := r'.int'
  refine wpAny_with_toks (Nat.le_refl _) (min_two_ints R.handled fun h' tk hk hn => ⟨.of hk hn, ?_⟩)
  by_cases c : b < a
  · rw [if_pos c, if_pos c]; exact .ofInt
  · rw [if_neg c, if_neg c]; exact .ofInt

-- items
theorem tailQ {value slice : Expr} {o i : Value} {T id : String} {A : Around} {E : Value → Shared → Prop} {Q : Value → Shared → Prop} {l r : Value} (hT : s.TypeIs o T)
    (hl : typeLookup (.type T) "__getitem__" = pure (some (.builtin id))) (hs : subscripted slice false o i = operate [l, r] (getItem o i)) (h : wpAny G.M A (getItem o i) Q E s) : wpAny G.M A (subscriptTail value slice o i) Q E s := by
  unfold subscriptTail
  refine wpAny_bind ?_
  rw [getitemInPython_of_ne hT.not_modules]
  refine wpAny_bind (wpAny_specialOf hT hl ?_)
  have fin : wpAny G.M A (subscripted slice false o i) (fun r s₃ => wpAny G.M A (letTemporaryGo value o r >>= fun _ => pure r) Q E s₃) E s := by
    rw [hs]
    exact wpAny_operating (wpAny_mono h (fun r s₃ h₃ => wpAny_bind (wpAny_letTemporaryGo (wpAny_pure h₃))) fun _ _ x => x)
  first
    | exact wpAny_pure (wpAny_bind fin)
    | exact wpAny_bind (wpAny_pure (wpAny_bind fin))
    | exact wpAny_bind fin

/-- an item of a list -/
theorem Ev.item {e ei : Expr} {xs : List D} {i : Nat} {d : D} {pos : Pos} (h : Ev G k κ F σ e (.list xs)) (hi : Ev G k κ F σ ei (.int i)) (hd : xs[i]? = some d) (hl : xs.length ≤ sizeLine) (hs : ∀ o i, subscripted ei false o i = operate [o, i] (getItem o i)) : Ev G k κ F σ (.Subscript e ei pos) d := fun A Xo os s E R I =>
  Subscript_ (wp_st (β := Unit) (h A Xo os s E R I) fun v1 s1 g1 r1 => wp_st (β := Unit) (hi A Xo os s1 E R (I.grow g1)) fun v2 s2 g2 r2 => by
    obtain ⟨a, vs, rfl, haX, hli, ra⟩ := (r1.grow g2.keep).list'
    obtain ⟨t, rfl⟩ := r2.int'
    obtain ⟨v, hv, rv⟩ := ra.get i hd
    have hlt : i < xs.length := (List.getElem?_eq_some_iff.mp hd).1
    rw [sizeLine_eq] at hl
    exact tailQ hli.typeIs PySem.slot_list_getitem.lookup (hs _ _) (wpAny_getItem_list hli (by omega) (by omega) (x := v) (by rw [Int.toNat_natCast, ← Array.getElem?_toList]; exact hv) ⟨g1.trans g2, rv⟩))
theorem Ev.itemW {e ei : Expr} {xs : List D} {i : Nat} {d : D} {pos : Pos} (h : EvW G k κ F σ e (.list xs)) (hi : Ev G k κ F σ ei (.int i)) (hd : xs[i]? = some d) (hl : xs.length ≤ sizeLine) (hf : d.flat = true) (hs : ∀ o i, subscripted ei false o i = operate [o, i] (getItem o i)) : Ev G k κ F σ (.Subscript e ei pos) d := fun A Xo os s E R I =>
  Subscript_ (wp_st (β := Unit) (h A Xo os s E R I) fun v1 s1 g1 r1 => wp_st (β := Unit) (hi A Xo os s1 E R (I.grow g1)) fun v2 s2 g2 r2 => by
    obtain ⟨a, vs, rfl, haX, hli, ra⟩ := (r1.grow g2.keep).list'
    obtain ⟨t, rfl⟩ := r2.int'
    obtain ⟨v, hv, rv⟩ := ra.get i hd
    have hlt : i < xs.length := (List.getElem?_eq_some_iff.mp hd).1
    rw [sizeLine_eq] at hl
    exact tailQ hli.typeIs PySem.slot_list_getitem.lookup (hs _ _) (wpAny_getItem_list hli (by omega) (by omega) (x := v) (by rw [Int.toNat_natCast, ← Array.getElem?_toList]; exact hv) ⟨g1.trans g2, rv.flat hf⟩))
/-- a sign of a text -/
theorem Ev.sign {e ei : Expr} {x : Str} {i : Int} {c : Nat} {pos : Pos} (h : Ev G k κ F σ e (.str x)) (hi : Ev G k κ F σ ei (.int i)) (hr : (decide (i < -2 ^ 63) || decide (i ≥ 2 ^ 63)) = false) (hc : ((seqIndex? i x.length).bind fun j => x.cps[j]?) = some c)
    (hs : ∀ o i, subscripted ei false o i = operate [o, i] (getItem o i)) : Ev G k κ F σ (.Subscript e ei pos) (.str ⟨#[c]⟩) := fun A Xo os s E R I =>
  Subscript_ (wp_st (β := Unit) (h A Xo os s E R I) fun v1 s1 g1 r1 => wp_st (β := Unit) (hi A Xo os s1 E R (I.grow g1)) fun v2 s2 g2 r2 => by
    obtain ⟨t, rfl⟩ := r1.str'
    obtain ⟨u, rfl⟩ := r2.int'
    exact tailQ (typeIs_str _ _ _) PySem.F.slot_str_getitem.lookup (hs _ _) (getItem_str hr hc ⟨(g1.trans g2).trans .tok, .ofStr⟩))
end
end Mine
end E13

noncomputable section E14
open PySem PySem.Calls PyProof.Rows
set_option Elab.async false
set_option linter.unusedVariables false
namespace Mine
theorem Sub.nil {σ : Sg} : Sub [] σ := fun _ _ h => by simp at h
theorem Sub.cons {σ σ' : Sg} {x : Str} {sl : Slot} (h : σ.lookup x = some sl) (r : Sub σ' σ) : Sub ((x, sl) :: σ') σ := fun y sl' e => by
  rcases lookup_cons' e with ⟨rfl, rfl⟩ | ⟨-, e⟩
  · exact h
  · exact r y sl' e
theorem Sub.refl {σ : Sg} : Sub σ σ := fun _ _ h => h
noncomputable def dI (xs : List Int) : List D := xs.map D.int
theorem dI_length (xs : List Int) : (dI xs).length = xs.length := by simp [dI]
theorem dI_getD {xs : List Int} {i : Nat} (h : i < xs.length) : (dI xs).getD i .none = .int (xs.getD i 0) := by
  rw [List.getD_eq_getElem?_getD, List.getD_eq_getElem?_getD, dI, List.getElem?_map, List.getElem?_eq_getElem h]; rfl
theorem upto_some (g : Nat → D) (n : Nat) : upto (fun i => some (g i)) n = (List.range n).map g := by
  unfold upto; exact congrFun List.filterMap_eq_map _
theorem range_zip (f : Int → Int → Int) (xs ys : List Int) : (List.range (min xs.length ys.length)).map (fun i => D.int (f (xs.getD i 0) (ys.getD i 0))) = dI (List.zipWith f xs ys) := by
  apply List.ext_getElem
  · simp [dI]
  · intro i h1 h2
    have hx : i < min xs.length ys.length := by simpa using h1
    have h3 : i < xs.length := by omega
    have h4 : i < ys.length := by omega
    simp [dI, List.getD_eq_getElem?_getD, List.getElem?_eq_getElem h3, List.getElem?_eq_getElem h4]
theorem swaps_true {elt : Expr} {gens : List Comprehension} {scope κ : Scope} {cpos p : Pos} {x : Str} {line : Nat} {env : Env} (h : env.scope = κ) (h1 : κ.kind = .function) (h2 : κ.names.lookup x = some .local) (h3 : (p.line == cpos.line) = true)
    (h4 : (scope.names.any fun q => q.1 == x && (q.2 == .local || q.2 == .cell)) = false) : swapsWith (.ListComp elt gens scope cpos) (some (.Name x p)) line env = pure true := by
  have e1 : env.blockKind = .function := by unfold Env.blockKind; rw [h, h1]; rfl
  have e2 : env.kindOf x = some .local := by unfold Env.kindOf; rw [h, h2]
  have e3 : (p.line == (Expr.ListComp elt gens scope cpos).pos.line) = true := h3
  show (pure (env.blockKind == .function && env.kindOf x == some .local && p.line == (Expr.ListComp elt gens scope cpos).pos.line && !(scope.names.any fun q => q.1 == x && (q.2 == .local || q.2 == .cell))) : Sem Bool) = pure true
  rw [e1, e2, e3, h4]
  rfl
section
variable {G : Gd} {k : Nat} {κ : Scope} {F : Fm} {σ σ' : Sg}
theorem Ev.cast {e : Expr} {d d' : D} (h : Ev G k κ F σ e d) (hd : d = d') : Ev G k κ F σ e d' := hd ▸ h
theorem EvT.cast {e : Expr} {d d' : Bool} (h : EvT G k κ F σ e d) (hd : d = d') : EvT G k κ F σ e d' := hd ▸ h

/-- [elt for a, b in zip(xs, ys)], all ints -/
theorem Comp.zipI {a b f : Str} {p q fp tp pos : Pos} {c : Nat} {elt : Expr} {args : List Expr} {scope : Scope} {xs ys : List Int} {fr : List Str} (g : Int → Int → Int)
    (hv : EvV G κ F σ (.Name f fp) (.type "zip")) (ha : EvA G k κ F σ args [.list (dI xs), .list (dI ys)])
    (hok : CompOk scope κ fr []) (hσ : ∀ x sl, σ'.lookup x = some sl → x ∈ fr ∧ σ.lookup x = some sl ∧ sl.isOwn = false) (hfr : ∀ x ∈ fr, ∃ sl, σ.lookup x = some sl)
    (hla : (relabelK scope κ).names.lookup a = some .local) (hlb : (relabelK scope κ).names.lookup b = some .local) (hbs : ∀ i, Sub σ' (OutZ a b (dI xs) (dI ys) i ++ σ')) (hsz : xs.length ≤ sizeLine)
    (helt : ∀ (x y : Int) F', F'.cf = [] → x ∈ xs → y ∈ ys → Ev G k (relabelK scope κ) F' ([(b, .val (.int y)), (a, .val (.int x))] ++ σ') elt (.int (g x y)))
    (hb : ∀ env, backTo pos (starEach args env) = starEach args env) (hne : ∀ env, ∃ t r, starEach args env = (false, t) :: r) (hpl : ∀ env, (starEach args env).any (·.1) = false)
    (hfs : ∀ env x, foldedSetIterable (.Call (.Name f fp) args [] pos) env x = pure x) :
    Comp G k κ F σ elt (.Tuple [.Name a p, .Name b q] c tp) (.Call (.Name f fp) args [] pos) [] scope (dI (List.zipWith g xs ys)) σ' fr [] (min (dI xs).length (dI ys).length) (OutZ a b (dI xs) (dI ys))
      (fun i => some (.int (g (xs.getD i 0) (ys.getD i 0)))) where
  it := EvI.zip hv ha hb hne hpl
  ok := hok
  hσ := hσ
  hfr := hfr
  own := fun F' h => ⟨.inl hla, .inl hlb⟩
  hbs := hbs
  turn := fun i hi F' hF' => by
    rw [dI_length, dI_length] at hi
    refine ⟨true, EvTs.nil, (fun h => nomatch h), fun _ => ⟨_, rfl, ?_⟩⟩
    have h1 : i < xs.length := by omega
    have h2 : i < ys.length := by omega
    have e : OutZ a b (dI xs) (dI ys) i = [(b, .val (.int (ys.getD i 0))), (a, .val (.int (xs.getD i 0)))] := by unfold OutZ; rw [dI_getD h1, dI_getD h2]
    rw [e]
    exact helt _ _ F' hF' (by rw [List.getD_eq_getElem?_getD, List.getElem?_eq_getElem h1]; exact List.getElem_mem h1) (by rw [List.getD_eq_getElem?_getD, List.getElem?_eq_getElem h2]; exact List.getElem_mem h2)
  size := by rw [dI_length]; omega
  fs := hfs
  res := by rw [upto_some, dI_length, dI_length, range_zip]
/-- [elt for x in xs if ..] by data -/
theorem Comp.list1 {x : Str} {p : Pos} {elt iter : Expr} {ifs : List Expr} {scope : Scope} {ds : List D} {fr cf : List Str} (outs : D → Option D)
    (h : Ev G k κ F σ iter (.list ds))
    (hok : CompOk scope κ fr cf) (hσ : ∀ x sl, σ'.lookup x = some sl → x ∈ fr ∧ σ.lookup x = some sl ∧ sl.isOwn = false) (hfr : ∀ x ∈ fr, ∃ sl, σ.lookup x = some sl)
    (hl : (relabelK scope κ).names.lookup x = some .local ∨ ((relabelK scope κ).names.lookup x = some .cell ∧ x ∈ cf)) (hbs : ∀ i, Sub σ' (Out1 x ds i ++ σ')) (hsz : ds.length ≤ sizeLine)
    (helt : ∀ d F', F'.cf = cf → d ∈ ds → ∃ ok, EvTs G k (relabelK scope κ) F' ([(x, .val d)] ++ σ') ifs ok ∧ (ok = false → outs d = none) ∧ (ok = true → ∃ d', outs d = some d' ∧ Ev G k (relabelK scope κ) F' ([(x, .val d)] ++ σ') elt d'))
    (hfs : ∀ env x, foldedSetIterable iter env x = pure x) :
    Comp G k κ F σ elt (.Name x p) iter ifs scope (ds.filterMap outs) σ' fr cf ds.length (Out1 x ds) (fun i => outs (ds.getD i .none)) where
  it := EvI.list1 h
  ok := hok
  hσ := hσ
  hfr := hfr
  own := fun F' h => by
    rcases hl with z | z
    · exact .inl z
    · exact .inr ⟨z.1, by rw [h]; exact z.2⟩
  hbs := hbs
  turn := fun i hi F' hF' => helt _ F' hF' (by rw [List.getD_eq_getElem?_getD, List.getElem?_eq_getElem hi]; exact List.getElem_mem hi)
  size := hsz
  fs := hfs
  res := by
    unfold upto
    have : ds = (List.range ds.length).map fun i => ds.getD i .none := by
      apply List.ext_getElem
      · simp
      · intro i h1 h2; simp [List.getD_eq_getElem?_getD, List.getElem?_eq_getElem h1]
    conv => rhs; rw [this, List.filterMap_map]
    rfl
/-- [elt for x in range(n) if ..] by data -/
theorem Comp.range {x f : Str} {p fp pos : Pos} {elt : Expr} {args : List Expr} {ifs : List Expr} {scope : Scope} {n : Nat} {fr cf : List Str} (outs : Nat → Option D)
    (hv : EvV G κ F σ (.Name f fp) (.type "range")) (ha : EvA G k κ F σ args [.int (n : Int)])
    (hok : CompOk scope κ fr cf) (hσ : ∀ x sl, σ'.lookup x = some sl → x ∈ fr ∧ σ.lookup x = some sl ∧ sl.isOwn = false) (hfr : ∀ x ∈ fr, ∃ sl, σ.lookup x = some sl)
    (hl : (relabelK scope κ).names.lookup x = some .local ∨ ((relabelK scope κ).names.lookup x = some .cell ∧ x ∈ cf)) (hbs : ∀ i, Sub σ' (OutR x 0 i ++ σ')) (hsz : n ≤ sizeLine)
    (helt : ∀ i F', F'.cf = cf → i < n → ∃ ok, EvTs G k (relabelK scope κ) F' ([(x, .val (.int (i : Int)))] ++ σ') ifs ok ∧ (ok = false → outs i = none) ∧ (ok = true → ∃ d', outs i = some d' ∧ Ev G k (relabelK scope κ) F' ([(x, .val (.int (i : Int)))] ++ σ') elt d'))
    (hb : ∀ env, backTo pos (starEach args env) = starEach args env) (hne : ∀ env, ∃ t r, starEach args env = (false, t) :: r) (hpl : ∀ env, (starEach args env).any (·.1) = false)
    (hfs : ∀ env x, foldedSetIterable (.Call (.Name f fp) args [] pos) env x = pure x) :
    Comp G k κ F σ elt (.Name x p) (.Call (.Name f fp) args [] pos) ifs scope ((List.range n).filterMap outs) σ' fr cf n (OutR x 0) outs where
  it := EvI.range hv ha (.inl ⟨rfl, rfl⟩) (by rw [sizeLine_eq] at hsz; omega) hb hne hpl
  ok := hok
  hσ := hσ
  hfr := hfr
  own := fun F' h => by
    rcases hl with z | z
    · exact .inl z
    · exact .inr ⟨z.1, by rw [h]; exact z.2⟩
  hbs := hbs
  turn := fun i hi F' hF' => by
    have := helt i F' hF' hi
    unfold OutR
    rw [Nat.zero_add]
    exact this
  size := hsz
  fs := hfs
  res := rfl
end
end Mine
end E14

noncomputable section E15
open PySem PySem.Calls PyProof.Rows
set_option Elab.async false
set_option linter.unusedVariables false
namespace Mine
section
variable {G : Gd} {k : Nat} {κ : Scope} {F : Fm} {σ σ' : Sg} {Xo : Ou} {os os' : Os} {s s' : Shared}

theorem St.zero (g : St [] s s') : St [] { s with toks := 0 } s' := ⟨g.drawn, g.os, Nat.zero_le _, g.gens, g.heap, g.alive⟩
theorem keptZ : KeptByPush fun s' => St [] { s with toks := 0 } s' := fun s' ob k g => ⟨g.drawn, g.os, Nat.zero_le _, g.gens, fun b o hb e => Heap.get?_push_of_some _ (g.heap b o hb e), fun b o e => let ⟨o', e'⟩ := g.alive b o e; ⟨o', Heap.get?_push_of_some _ e'⟩⟩

/-- a text from a place on -/
theorem Ev.sliceFrom {e lo : Expr} {x : Str} {i : Int} {p pos : Pos} (h : Ev G k κ F σ e (.str x)) (hi : Ev G k κ F σ lo (.int i)) (hsz : x.length ≤ sizeLine) : Ev G k κ F σ (.Subscript e (.Slice (some lo) Option.none Option.none p) pos) (.str (Txt.slice x (some i) Option.none)) := fun A Xo os s E R I =>
  Subscript_ (wp_st (β := Unit) (h A Xo os s E R I) fun v1 s1 g1 r1 => wpAny_Slice (by
    rw [evalPart_some]
    refine wp_st (β := Unit) (hi A Xo os s1 E R (I.grow g1)) fun v2 s2 g2 r2 => ?_
    rw [evalPart_none]
    refine wpAny_pure ?_
    refine wpAny_pure ?_
    obtain ⟨t, rfl⟩ := r1.str'
    obtain ⟨u, rfl⟩ := r2.int'
    obtain ⟨T, id, h1, h2, h3⟩ := SBG.sliceItem_sn (prog := G.prog) (w := G.w) (A := A) (E := E) (s := s2) (x := x) (t := t) (i := i) (ui := u) (Fm := fun s' => St [] { s with toks := 0 } s') (Q := fun v s' => s2.toks ≤ s'.toks → (St [] s s' ∧ Rep (F.X Xo os) s'.heap (.str (Txt.slice x (some i) Option.none)) v)) keptZ (g1.trans g2).zero
      (fun s' t' g hn => ⟨g.late (Nat.le_trans (g1.trans g2).toks hn), .ofStr⟩) hsz
    exact tailQ h2 h1 rfl (wpAny_with_toks (n := s2.toks) (Nat.le_refl _) (wpAny_mono h3 (fun _ _ q => q) fun _ _ q _ => q))))
/-- a text up to a place -/
theorem Ev.sliceTo {e hi' : Expr} {x : Str} {i : Int} {p pos : Pos} (h : Ev G k κ F σ e (.str x)) (hi : Ev G k κ F σ hi' (.int i)) (hsz : x.length ≤ sizeLine) : Ev G k κ F σ (.Subscript e (.Slice Option.none (some hi') Option.none p) pos) (.str (Txt.slice x Option.none (some i))) := fun A Xo os s E R I =>
  Subscript_ (wp_st (β := Unit) (h A Xo os s E R I) fun v1 s1 g1 r1 => wpAny_Slice (by
    rw [evalPart_none]
    refine wpAny_pure ?_
    rw [evalPart_some]
    refine wp_st (β := Unit) (hi A Xo os s1 E R (I.grow g1)) fun v2 s2 g2 r2 => ?_
    refine wpAny_pure ?_
    obtain ⟨t, rfl⟩ := r1.str'
    obtain ⟨u, rfl⟩ := r2.int'
    obtain ⟨T, id, h1, h2, h3⟩ := SBG.sliceItem_ns (prog := G.prog) (w := G.w) (A := A) (E := E) (s := s2) (x := x) (t := t) (j := i) (uj := u) (Fm := fun s' => St [] { s with toks := 0 } s') (Q := fun v s' => s2.toks ≤ s'.toks → (St [] s s' ∧ Rep (F.X Xo os) s'.heap (.str (Txt.slice x Option.none (some i))) v)) keptZ (g1.trans g2).zero
      (fun s' t' g hn => ⟨g.late (Nat.le_trans (g1.trans g2).toks hn), .ofStr⟩) hsz
    exact tailQ h2 h1 rfl (wpAny_with_toks (n := s2.toks) (Nat.le_refl _) (wpAny_mono h3 (fun _ _ q => q) fun _ _ q _ => q))))
theorem Ev.sliceAll {e hi' : Expr} {x : Str} {p pos : Pos} (h : Ev G k κ F σ e (.str x)) (hi : Ev G k κ F σ hi' .none) (hsz : x.length ≤ sizeLine) : Ev G k κ F σ (.Subscript e (.Slice Option.none (some hi') Option.none p) pos) (.str (Txt.slice x Option.none Option.none)) := fun A Xo os s E R I =>
  Subscript_ (wp_st (β := Unit) (h A Xo os s E R I) fun v1 s1 g1 r1 => wpAny_Slice (by
    rw [evalPart_none]
    refine wpAny_pure ?_
    rw [evalPart_some]
    refine wp_st (β := Unit) (hi A Xo os s1 E R (I.grow g1)) fun v2 s2 g2 r2 => ?_
    refine wpAny_pure ?_
    obtain ⟨t, rfl⟩ := r1.str'
    obtain rfl := r2.none'
    obtain ⟨T, id, h1, h2, h3⟩ := SBG.sliceItem_nn (prog := G.prog) (w := G.w) (A := A) (E := E) (s := s2) (x := x) (t := t) (Fm := fun s' => St [] { s with toks := 0 } s') (Q := fun v s' => s2.toks ≤ s'.toks → (St [] s s' ∧ Rep (F.X Xo os) s'.heap (.str (Txt.slice x Option.none Option.none)) v)) keptZ (g1.trans g2).zero
      (fun s' t' g hn => ⟨g.late (Nat.le_trans (g1.trans g2).toks hn), .ofStr⟩) hsz
    exact tailQ h2 h1 rfl (wpAny_with_toks (n := s2.toks) (Nat.le_refl _) (wpAny_mono h3 (fun _ _ q => q) fun _ _ q _ => q))))
end
end Mine
end E15

noncomputable section E16
open PySem PySem.Calls PyProof.Rows
set_option Elab.async false
set_option linter.unusedVariables false
namespace Mine
section
variable {G : Gd} {k : Nat} {κ : Scope} {F : Fm} {σ σ' : Sg} {Xo : Ou} {os os' : Os} {s s' : Shared}

theorem RepAll.drop {X : List Addr} {h : Heap} : ∀ {ds : List D} {vs : List Value} (n : Nat), RepAll X h ds vs → RepAll X h (ds.drop n) (vs.drop n)
  | ds, vs, 0, r => r
  | [], vs, n + 1, r => by simp only [RepAll] at r; subst r; exact .nil
  | d :: ds, vs, n + 1, r => by
    simp only [RepAll] at r
    obtain ⟨v, q, rfl, h1, h2⟩ := r
    exact RepAll.drop n h2
theorem RepAll.take {X : List Addr} {h : Heap} : ∀ {ds : List D} {vs : List Value} (n : Nat), RepAll X h ds vs → RepAll X h (ds.take n) (vs.take n)
  | ds, vs, 0, r => by simpa using RepAll.nil
  | [], vs, n + 1, r => by simp only [RepAll] at r; subst r; simpa using RepAll.nil
  | d :: ds, vs, n + 1, r => by
    simp only [RepAll] at r
    obtain ⟨v, q, rfl, h1, h2⟩ := r
    exact .cons h1 (RepAll.take n h2)

theorem Ev.listFrom {e lo : Expr} {xs : List D} {i : Nat} {p pos : Pos} (h : Ev G k κ F σ e (.list xs)) (hi : Ev G k κ F σ lo (.int (i : Int))) (hsz : xs.length ≤ sizeLine) : Ev G k κ F σ (.Subscript e (.Slice (some lo) Option.none Option.none p) pos) (.list (xs.drop i)) := fun A Xo os s E R I =>
  Subscript_ (wp_st (β := Unit) (h A Xo os s E R I) fun v1 s1 g1 r1 => wpAny_Slice (by
    rw [evalPart_some]
    refine wp_st (β := Unit) (hi A Xo os s1 E R (I.grow g1)) fun v2 s2 g2 r2 => ?_
    rw [evalPart_none]
    refine wpAny_pure ?_
    refine wpAny_pure ?_
    obtain ⟨a, vs, rfl, haX, hli, ra⟩ := r1.list'
    obtain ⟨u, rfl⟩ := r2.int'
    have hn : vs.size = xs.length := by simpa using ra.length
    have g3 : St [] s2 { s2 with heap := s2.heap.push { cls := .type "slice", data := .fields #[.int i u, .none, .none] } } := .push
    have hl3 := hli.at fun o e => (g2.trans g3).keep a o e
    refine tailQ hl3.typeIs PySem.slot_list_getitem.lookup rfl (wpAny_getItem_list_slice hl3 (Heap.IsSliceOf.new ..) (.int i u) .none .none (by simp) ?_ (by omega))
    refine ⟨((g1.trans g2).trans g3).trans .push, .ofList (I.grow ((g1.trans g2).trans g3)).offSize ⟨_, Heap.get?_push_size _ rfl, rfl, _, rfl⟩ ?_⟩
    rw [slicePick_from', List.toList_toArray]
    exact ((ra.grow (g2.trans g3).keep).drop i).grow fun _ _ e => Heap.get?_push_of_some _ e))
theorem Ev.listTo {e hi' : Expr} {xs : List D} {i : Nat} {p pos : Pos} (h : Ev G k κ F σ e (.list xs)) (hi : Ev G k κ F σ hi' (.int (i : Int))) (hsz : xs.length ≤ sizeLine) : Ev G k κ F σ (.Subscript e (.Slice Option.none (some hi') Option.none p) pos) (.list (xs.take i)) := fun A Xo os s E R I =>
  Subscript_ (wp_st (β := Unit) (h A Xo os s E R I) fun v1 s1 g1 r1 => wpAny_Slice (by
    rw [evalPart_none]
    refine wpAny_pure ?_
    rw [evalPart_some]
    refine wp_st (β := Unit) (hi A Xo os s1 E R (I.grow g1)) fun v2 s2 g2 r2 => ?_
    refine wpAny_pure ?_
    obtain ⟨a, vs, rfl, haX, hli, ra⟩ := r1.list'
    obtain ⟨u, rfl⟩ := r2.int'
    have hn : vs.size = xs.length := by simpa using ra.length
    have g3 : St [] s2 { s2 with heap := s2.heap.push { cls := .type "slice", data := .fields #[.none, .int i u, .none] } } := .push
    have hl3 := hli.at fun o e => (g2.trans g3).keep a o e
    refine tailQ hl3.typeIs PySem.slot_list_getitem.lookup rfl (wpAny_getItem_list_slice hl3 (Heap.IsSliceOf.new ..) .none (.int i u) .none (by simp) ?_ (by omega))
    refine ⟨((g1.trans g2).trans g3).trans .push, .ofList (I.grow ((g1.trans g2).trans g3)).offSize ⟨_, Heap.get?_push_size _ rfl, rfl, _, rfl⟩ ?_⟩
    rw [slicePick_upto', List.toList_toArray]
    exact ((ra.grow (g2.trans g3).keep).take i).grow fun _ _ e => Heap.get?_push_of_some _ e))

-- data as the library has it
mutual
noncomputable def toP : D → PyData
  | .none => .none
  | .bool b => .bool b
  | .int i => .int i
  | .str x => .str x
  | .list xs => .list (toPs xs)
  | .tuple xs => .tuple (toPs xs)
  | .intT i _ => .int i
  | .strT x _ => .str x
noncomputable def toPs : List D → List PyData
  | [] => []
  | d :: ds => toP d :: toPs ds
end
mutual
theorem Rep.reads {X : List Addr} {h : Heap} : ∀ {d : D} {v : Value}, Rep X h d v → ∃ as, Reads h v (toP d) as
  | .none, _, r => by simp only [Rep] at r; subst r; exact ⟨_, .none⟩
  | .bool b, _, r => by simp only [Rep] at r; subst r; exact ⟨_, .bool b⟩
  | .int i, _, r => by simp only [Rep] at r; obtain ⟨t, rfl⟩ := r; exact ⟨_, .int i t⟩
  | .str x, _, r => by simp only [Rep] at r; obtain ⟨t, rfl⟩ := r; exact ⟨_, .str x t⟩
  | .intT i _, _, r => by simp only [Rep] at r; obtain ⟨t, rfl, _⟩ := r; exact ⟨_, .int i t⟩
  | .strT x _, _, r => by simp only [Rep] at r; obtain ⟨t, rfl, _⟩ := r; exact ⟨_, .str x t⟩
  | .list xs, _, r => by
    simp only [Rep] at r
    obtain ⟨a, vs, rfl, _, ⟨o, ho, hc, n, hd⟩, ra⟩ := r
    obtain ⟨as, q⟩ := RepAll.reads ra
    exact ⟨_, .list ho hc hd q⟩
  | .tuple xs, _, r => by
    simp only [Rep] at r
    obtain ⟨a, vs, rfl, _, ⟨o, ho, hc, n, hd⟩, ra⟩ := r
    obtain ⟨as, q⟩ := RepAll.reads ra
    exact ⟨_, .tuple ho hc hd q⟩
theorem RepAll.reads {X : List Addr} {h : Heap} : ∀ {ds : List D} {vs : List Value}, RepAll X h ds vs → ∃ as, ReadsAll h vs (toPs ds) as
  | [], _, r => by simp only [RepAll] at r; subst r; exact ⟨_, .nil⟩
  | d :: ds, _, r => by
    simp only [RepAll] at r
    obtain ⟨v, q, rfl, h1, h2⟩ := r
    obtain ⟨as, r1⟩ := Rep.reads h1
    obtain ⟨bs, r2⟩ := RepAll.reads h2
    exact ⟨_, .cons r1 r2⟩
end
theorem OpC.eqD {d1 d2 : D} (h : toP d1 = toP d2) (hc : (toP d1).canLay0 = true) (hd : (toP d1).depth ≤ 150) : OpC G k .Eq d1 d2 true := fun A s v1 v2 E R r1 r2 => by
  obtain ⟨as, q1⟩ := r1.reads
  obtain ⟨bs, q2⟩ := r2.reads
  have hu := R.units
  refine PySem.SeqAt.compareEq_reads q1 q2 hc (h ▸ hc) (Nat.lt_of_le_of_lt (Nat.add_le_add_left (Nat.min_le_left _ _) _) (by omega)) ⟨.refl, ?_⟩
  rw [← h, SeqAt.eqv_refl _ hc]
theorem OpC.neD {d1 d2 : D} (h : toP d1 = toP d2) (hc : (toP d1).canLay0 = true) (hd : (toP d1).depth ≤ 150) : OpC G k .NotEq d1 d2 false := fun A s v1 v2 E R r1 r2 => by
  obtain ⟨as, q1⟩ := r1.reads
  obtain ⟨bs, q2⟩ := r2.reads
  have hu := R.units
  refine PySem.SeqAt.compareNe_reads q1 q2 hc (h ▸ hc) (Nat.lt_of_le_of_lt (Nat.add_le_add_left (Nat.min_le_left _ _) _) (by omega)) ⟨.refl, ?_⟩
  rw [← h, SeqAt.eqv_refl _ hc]; rfl
theorem OpC.inI {xs : List Int} {x : Int} : OpC G k .In (.int x) (.list (dI xs)) (xs.any fun y => y == x) := fun A s v1 v2 E R r1 r2 => by
  obtain ⟨t, rfl⟩ := r1.int'
  obtain ⟨a, vs, rfl, _, hl, ra⟩ := r2.list'
  have : ∀ (xs : List Int) (l : List Value), RepAll [] s.heap (dI xs) l → IntsAre l xs := fun xs l ra => by
    induction xs generalizing l with
    | nil => simp only [dI, List.map_nil, RepAll] at ra; subst ra; exact .nil
    | cons y ys ih =>
      simp only [dI, List.map_cons, RepAll] at ra
      obtain ⟨v, q, rfl, h1, h2⟩ := ra
      obtain ⟨t, rfl⟩ := h1.int'
      exact .cons y t (ih _ h2)
  exact in_list_ints (vs := vs.toList) (by rwa [Array.toArray_toList]) (this _ _ ra) ⟨.refl, rfl⟩

-- methods of texts
theorem Ev.lower {e : Expr} {x : Str} {apos pos : Pos} (h : Ev G k κ F σ e (.str x)) (hx : Builtin.Str.tooLong (Txt.lower x).length = false)
    (hbase : ∀ env, attributeBase e "lower" env (eval e env) = eval e env) (hline : (apos.endLine == pos.line) = true) : Ev G k κ F σ (.Call (.Attribute e "lower" apos) [] [] pos) (.str (Txt.lower x)) := fun A Xo os s E R I =>
  Call_method0 (hbase _) hline (wp_st (β := Unit) (h A Xo os s E R I) fun v1 s1 g1 r1 => by
    obtain ⟨t, rfl⟩ := r1.str'
    exact SB.lower hx ⟨g1.trans .tok, .ofStr⟩)
end
end Mine
end E16

noncomputable section E17
open PySem PySem.Calls PyProof.Rows
set_option Elab.async false
set_option linter.unusedVariables false
namespace Mine
section
variable {G : Gd} {k : Nat} {κ : Scope} {F : Fm} {σ σ' : Sg} {Xo : Ou} {os os' : Os} {s s' : Shared}

theorem EvN.listRange {lf rf : Str} {lp rp cpos pos : Pos} {args : List Expr} {a b c : Int} {n : Nat} (hv : EvV G κ F σ (.Name lf lp) (.type "list")) (hv2 : EvV G κ F σ (.Name rf rp) (.type "range"))
    (ha : EvA G k κ F σ args [.int a, .int b, .int c]) (hc : c ≠ 0) (hsm : Builtin.Range.small a b c = true) (hn : Builtin.Range.rangeSize a b c = n) (hz : n ≤ 2 ^ 24) (hpy : Builtin.divisionGoesByPylong (b - a) c = false)
    (hb : ∀ env, backTo cpos (starEach args env) = starEach args env) (hne : ∀ env, ∃ t r, starEach args env = (false, t) :: r) (hpl : ∀ env, (starEach args env).any (·.1) = false)
    (hb' : ∀ env, backTo pos (starEach [.Call (.Name rf rp) args [] cpos] env) = [(false, eval (.Call (.Name rf rp) args [] cpos) env)]) :
    EvN G k κ F σ (.Call (.Name lf lp) [.Call (.Name rf rp) args [] cpos] [] pos) ((List.range n).map fun i : Nat => D.int (a + (i : Int) * c)) := fun A Xo os s E R I => by
  refine wpAny_Call_ofName (hv A Xo os s E _ I ?_)
  show wpAny G.M A (callWith pos (.type "list") [] (backTo pos (starEach [.Call (.Name rf rp) args [] cpos] F.env)) []) _ E s
  rw [hb']
  refine PySem.callWith_type rfl ?_
  refine evalArgs_plain (spliced_cons (callTQ hv2 ha hb hne hpl R I fun vs s1 g1 r1 => ?_))
  obtain ⟨v1, v2, v3, rfl, r1, r2, r3⟩ := r1.three
  obtain ⟨t, rfl⟩ := r1.int'
  obtain ⟨u, rfl⟩ := r2.int'
  obtain ⟨w, rfl⟩ := r3.int'
  refine call_range_3 hc (spliced_nil ?_) (.inl hpy)
  generalize hs2 : ({ s1 with heap := s1.heap.push { cls := .type "range", data := .fields #[.int a t, .int b u, .int c w] } } : Shared) = s2
  have g2 : St [] s1 s2 := by rw [← hs2]; exact .push (tk := s1.toks)
  have hr : IsRange s2.heap s1.heap.objs.size a b c t u w := by rw [← hs2]; exact Heap.get?_push_size _ rfl
  refine wpAny_with_toks (n := s2.toks) (Nat.le_refl _) (PySem.call_list_range R.handled hr hsm hn hz fun h' tk acc' c' hk hg hit htk => ?_)
  have g3 : St [] s2 { s2 with heap := h', toks := tk } := .of hk htk
  refine ⟨(g1.trans g2).trans g3, _, acc', rfl, (g1.trans g2).dead (get_size _), ⟨_, hg⟩, .ofGet (by simpa using hit.1) fun i d v h1 h2 => ?_⟩
  have hi : i < n := by
    have := (List.getElem?_eq_some_iff.mp h1).1
    simpa using this
  rw [List.getElem?_map, List.getElem?_range hi] at h1
  cases h1
  obtain ⟨t', e⟩ := hit.2 i v (by rw [← Array.getElem?_toList]; exact h2)
  rw [e]; exact .ofInt
end
end Mine
end E17

noncomputable section E18
open PySem PySem.Calls PyProof.Rows
set_option Elab.async false
set_option linter.unusedVariables false
namespace Mine
section
variable {G : Gd} {k : Nat} {κ : Scope} {F : Fm} {σ σ' : Sg} {Xo : Ou} {os os' : Os} {s s' : Shared}
theorem Inv.ownF {x : Str} {p : Bool} {xs : List D} (I : Inv G κ F σ Xo os s) (hx : σ.lookup x = some (.own p xs)) : Inv G κ F ((x, .own false xs) :: σ) Xo os s :=
  have key : ∀ y sl, ((x, Slot.own false xs) :: σ).lookup y = some sl → ∃ v, VarAt s.heap F.env y v ∧ SlotAt s.heap (F.X Xo os) os y sl v := fun y sl hy => by
    rcases lookup_cons' hy with ⟨rfl, rfl⟩ | ⟨hne, hy⟩
    · obtain ⟨v, hv, a, vs, h1, h2, h3, _, h4⟩ := I.var y _ hx
      exact ⟨v, hv, a, vs, h1, h2, h3, (fun q => nomatch q), h4⟩
    · exact I.var y sl hy
  { I with var := key }
theorem Ex.ownF {x : Str} {p : Bool} {xs : List D} {sts : List Stmt} {out : Out} (hx : σ.lookup x = some (.own p xs)) (h : Ex G k κ F ((x, .own false xs) :: σ) sts out) : Ex G k κ F σ sts out := fun A Xo os s E R I => h A Xo os s E R (I.ownF hx)
theorem Ex.castN {sts : List Stmt} {σ₁ : Sg} (h : Ex G k κ F σ sts (.next σ₁)) (hs : Sub σ' σ₁) : Ex G k κ F σ sts (.next σ') := h.post hs
end
end Mine
end E18

noncomputable section E19
open PySem PySem.Calls PyProof.Rows
set_option Elab.async false
set_option linter.unusedVariables false
namespace Mine
section
variable {G : Gd} {k : Nat} {κ : Scope} {F : Fm} {σ σ' : Sg} {Xo : Ou} {os os' : Os} {s s' : Shared}

theorem Rep.intT' {X : List Addr} {h : Heap} {v : Value} {i : Int} {P : Tok → Prop} (r : Rep X h (.intT i P) v) : ∃ t, v = .int i t ∧ P t := by simpa [Rep] using r
theorem Rep.strT' {X : List Addr} {h : Heap} {v : Value} {i : Str} {P : Tok → Prop} (r : Rep X h (.strT i P) v) : ∃ t, v = .str i t ∧ P t := by simpa [Rep] using r
theorem Rep.ofIntT {X : List Addr} {h : Heap} {i : Int} {t : Tok} {P : Tok → Prop} (p : P t) : Rep X h (.intT i P) (.int i t) := by simp only [Rep]; exact ⟨t, rfl, p⟩
theorem Rep.ofStrT {X : List Addr} {h : Heap} {i : Str} {t : Tok} {P : Tok → Prop} (p : P t) : Rep X h (.strT i P) (.str i t) := by simp only [Rep]; exact ⟨t, rfl, p⟩
theorem Ev.forgetS {e : Expr} {x : Str} {P : Tok → Prop} (h : Ev G k κ F σ e (.strT x P)) : Ev G k κ F σ e (.str x) := fun A Xo os s E R I =>
  wp_st (β := Unit) (h A Xo os s E R I) fun v s1 g1 r1 => by obtain ⟨t, rfl, _⟩ := r1.strT'; exact ⟨g1, .ofStr⟩
theorem Ev.forgetI {e : Expr} {x : Int} {P : Tok → Prop} (h : Ev G k κ F σ e (.intT x P)) : Ev G k κ F σ e (.int x) := fun A Xo os s E R I =>
  wp_st (β := Unit) (h A Xo os s E R I) fun v s1 g1 r1 => by obtain ⟨t, rfl, _⟩ := r1.intT'; exact ⟨g1, .ofInt⟩

theorem is_str_diff {M : Model} {A : Around} {E : Value → Shared → Prop} {Q : Value → Shared → Prop} {x y : Str} {t u : Tok} (ht : t ≠ 0) (hu : u ≠ 0) (htu : t ≠ u) (hxy : x ≠ y) (h : Q (.bool false) s) : wpAny M A (compareOp .Is (.str x t) (.str y u)) Q E s := by
  show wpAny M A (do return .bool (← isSame (.str x t) (.str y u))) Q E s
  rw [PySem.isSame_str_other x y t u (by simp [ht, hu]) (by simpa using htu) (by simpa using hxy)]
  exact wpAny_bind (wpAny_pure (wpAny_pure h))
theorem is_str_any {M : Model} {A : Around} {E : Value → Shared → Prop} {Q : Value → Shared → Prop} {x y : Str} {t u : Tok} (ht : t ≠ 0) (hu : u ≠ 0) (hb : NoneBooked s.heap) (h : ∀ b, Q (.bool b) s) : wpAny M A (compareOp .Is (.str x t) (.str y u)) Q E s := by
  show wpAny M A (do return .bool (← isSame (.str x t) (.str y u))) Q E s
  exact wpAny_bind (wpAny_isSame_str (by simp [ht, hu]) hb fun b => wpAny_pure (h b))
theorem is_int_diff {M : Model} {A : Around} {E : Value → Shared → Prop} {Q : Value → Shared → Prop} {x y : Int} {t u : Tok} (ht : t ≠ 0) (hu : u ≠ 0) (htu : t ≠ u) (hxy : x ≠ y) (h : Q (.bool false) s) : wpAny M A (compareOp .Is (.int x t) (.int y u)) Q E s := by
  show wpAny M A (do return .bool (← isSame (.int x t) (.int y u))) Q E s
  have e : isSame (.int x t) (.int y u) = pure false := by
    show (if (x == y && smallInt x) = true then isSame.cachedInt t u else isSame.created (x == y) t u) = _
    have hxy' : (x == y) = false := by simpa using hxy
    rw [hxy']
    simp only [Bool.false_and, Bool.false_eq_true, if_false]
    unfold isSame.created
    have h0 : (t == 0 || u == 0) = false := by simp [ht, hu]
    have h1 : (t == u) = false := by simpa using htu
    simp [h0, h1]
  rw [e]
  exact wpAny_bind (wpAny_pure (wpAny_pure h))
theorem is_int_same {M : Model} {A : Around} {E : Value → Shared → Prop} {Q : Value → Shared → Prop} {x : Int} {t u : Tok} (ht : t ≠ 0) (hu : u ≠ 0) (hs : smallInt x = true) (h : Q (.bool true) s) : wpAny M A (compareOp .Is (.int x t) (.int x u)) Q E s := by
  show wpAny M A (do return .bool (← isSame (.int x t) (.int x u))) Q E s
  have e : isSame (.int x t) (.int x u) = (do rule "is.small-int-cache"; pure true) := by
    show (if (x == x && smallInt x) = true then isSame.cachedInt t u else isSame.created (x == x) t u) = _
    rw [hs]
    simp only [beq_self_eq_true, Bool.and_self, if_true]
    unfold isSame.cachedInt
    have h0 : (t == 0 || u == 0) = false := by simp [ht, hu]
    simp [h0]
  rw [e]
  exact wpAny_bind (wpAny_bind (wpAny_rule (wpAny_pure (wpAny_pure h))))

/-- «a is b or a == b», over texts -/
theorem EvT.isOrS {e1 e2 e3 e4 : Expr} {x y : Str} {P Q : Tok → Prop} {p1 p2 pos : Pos} (hnb : NoneBooked G.hb) (h1 : Ev G k κ F σ e1 (.strT x P)) (h2 : Ev G k κ F σ e2 (.strT y Q)) (h3 : Ev G k κ F σ e3 (.strT x P)) (h4 : Ev G k κ F σ e4 (.strT y Q))
    (hPQ : ∀ t u, P t → Q u → t ≠ 0 ∧ u ≠ 0 ∧ (x ≠ y → t ≠ u)) (hm1 : behindInMarks .Is e2 = false) (hm2 : behindInMarks .Eq e4 = false) :
    EvT G k κ F σ (.BoolOp .Or [.Compare e1 [.Is] [e2] p1, .Compare e3 [.Eq] [e4] p2] pos) (x == y) := by
  have heq : EvT G k κ F σ (.Compare e3 [.Eq] [e4] p2) (x == y) := EvT.cmp h3.forgetS.w h4.forgetS.w OpC.eqS hm2
  refine EvT.boolop fun A Xo os s E R I => wpAny_allTrue_Or_cons (wpAny_isTrue_Compare1 (wp_st (β := Unit) (h1 A Xo os s E R I) fun v1 s1 g1 r1 => wp_st (β := Unit) (h2 A Xo os s1 E R (I.grow g1)) fun v2 s2 g2 r2 => ?_) hm1)
  obtain ⟨t, rfl, hp⟩ := r1.strT'
  obtain ⟨u, rfl, hq⟩ := r2.strT'
  obtain ⟨ht, hu, htu⟩ := hPQ t u hp hq
  have rest : wpAny G.M A (allTrue .Or [.Compare e3 [.Eq] [e4] p2] F.env) (fun r s' => St [] s s' ∧ r = (x == y)) E s2 :=
    wpAny_allTrue_Or_cons (wp_st (β := Unit) (heq A Xo os s2 E R (I.grow (g1.trans g2))) fun b s3 g3 hb => by
      subst hb
      by_cases q : (x == y) = true
      · rw [q]; simp only [if_true]; exact ⟨(g1.trans g2).trans g3, trivial⟩
      · rw [Bool.not_eq_true] at q
        rw [q]; simp only [Bool.false_eq_true, if_false]
        exact wpAny_allTrue_Or_nil ⟨(g1.trans g2).trans g3, rfl⟩)
  by_cases q : x = y
  · refine is_str_any ht hu (hnb.imp fun mc h => ⟨h.1.keeps (I.grow (g1.trans g2)).hb, h.2⟩) fun b => wpAny_truthy_bool ?_
    cases b with
    | true => simp only [if_true]; exact ⟨g1.trans g2, by simp [q]⟩
    | false => simp only [Bool.false_eq_true, if_false]; exact rest
  · refine is_str_diff ht hu (htu q) q (wpAny_truthy_bool ?_)
    simp only [Bool.false_eq_true, if_false]; exact rest
theorem EvT.isOrI {e1 e2 e3 e4 : Expr} {x y : Int} {P Q : Tok → Prop} {p1 p2 pos : Pos} (h1 : Ev G k κ F σ e1 (.intT x P)) (h2 : Ev G k κ F σ e2 (.intT y Q)) (h3 : Ev G k κ F σ e3 (.intT x P)) (h4 : Ev G k κ F σ e4 (.intT y Q))
    (hPQ : ∀ t u, P t → Q u → t ≠ 0 ∧ u ≠ 0 ∧ (x ≠ y → t ≠ u)) (hs : smallInt x = true) (hm1 : behindInMarks .Is e2 = false) (hm2 : behindInMarks .Eq e4 = false) :
    EvT G k κ F σ (.BoolOp .Or [.Compare e1 [.Is] [e2] p1, .Compare e3 [.Eq] [e4] p2] pos) (x == y) := by
  have heq : EvT G k κ F σ (.Compare e3 [.Eq] [e4] p2) (x == y) := EvT.cmp h3.forgetI.w h4.forgetI.w OpC.eqI hm2
  refine EvT.boolop fun A Xo os s E R I => wpAny_allTrue_Or_cons (wpAny_isTrue_Compare1 (wp_st (β := Unit) (h1 A Xo os s E R I) fun v1 s1 g1 r1 => wp_st (β := Unit) (h2 A Xo os s1 E R (I.grow g1)) fun v2 s2 g2 r2 => ?_) hm1)
  obtain ⟨t, rfl, hp⟩ := r1.intT'
  obtain ⟨u, rfl, hq⟩ := r2.intT'
  obtain ⟨ht, hu, htu⟩ := hPQ t u hp hq
  by_cases q : x = y
  · subst q
    refine is_int_same ht hu hs (wpAny_truthy_bool ?_)
    simp only [if_true]; exact ⟨g1.trans g2, by simp⟩
  · refine is_int_diff ht hu (htu q) q (wpAny_truthy_bool ?_)
    simp only [Bool.false_eq_true, if_false]
    refine wpAny_allTrue_Or_cons (wp_st (β := Unit) (heq A Xo os s2 E R (I.grow (g1.trans g2))) fun b s3 g3 hb => ?_)
    subst hb
    have q' : (x == y) = false := by simpa using q
    rw [q']; simp only [Bool.false_eq_true, if_false]
    exact wpAny_allTrue_Or_nil ⟨(g1.trans g2).trans g3, rfl⟩

/-- the frame with a later clock -/
noncomputable def Fm.at (F : Fm) (n : Nat) : Fm := { F with s0 := { F.s0 with toks := n } }
theorem Inv.clock {n : Nat} (I : Inv G κ F σ Xo os s) (h : n ≤ s.toks) (h0 : F.s0.toks ≤ n) : Inv G κ (F.at n) σ Xo os s :=
  { I with st := ⟨I.st.drawn, I.st.os, h, I.st.gens, I.st.heap, I.st.alive⟩, tk := Nat.le_trans I.tk h0 }
theorem Inv.unclock {n : Nat} (I : Inv G κ (F.at n) σ Xo os s) (h0 : F.s0.toks ≤ n) (h1 : G.tk ≤ F.s0.toks) : Inv G κ F σ Xo os s :=
  { I with st := ⟨I.st.drawn, I.st.os, Nat.le_trans h0 I.st.toks, I.st.gens, I.st.heap, I.st.alive⟩, tk := h1 }
noncomputable def EvK (G : Gd) (k : Nat) (κ : Scope) (F : Fm) (σ : Sg) (e : Expr) (d : Nat → D) (m : Nat) : Prop :=
  ∀ A Xo os s E, Room k A → Inv G κ F σ Xo os s → wpAny G.M A (eval e F.env) (fun v s' => St [] s s' ∧ Rep (F.X Xo os) s'.heap (d s.toks) v ∧ s.toks + m ≤ s'.toks) E s
/-- a statement that sets the clock -/
theorem Ex.tok {st : Stmt} {rest : List Stmt} {out : Out} {d : Nat → Sg} {m : Nat} (h : ∀ A Xo os s E, Room k A → Inv G κ F σ Xo os s → wpAny G.M A (exec st F.env) (fun f s' => ∃ n, F.s0.toks ≤ n ∧ n + m ≤ s'.toks ∧ Post G κ F Xo os s (.next (d n)) f s') E s)
    (h2 : ∀ n, F.s0.toks ≤ n → Ex G k κ (F.at (n + m)) (d n) rest out) : Ex G k κ F σ (st :: rest) out := fun A Xo os s E R I =>
  wpAny_execs_cons (wpAny_mono (h A Xo os s E R I) (fun f s₁ q => by
    obtain ⟨n, hn0, hn, q⟩ := q
    obtain ⟨g, os₁, ho, hf⟩ := q
    obtain ⟨rfl, I₁⟩ := hf
    have I₁' := I₁.clock hn (Nat.le_trans hn0 (Nat.le_add_right _ _))
    refine wpAny_mono (h2 n hn0 A Xo os₁ s₁ E R I₁') (fun f s₂ q₂ => ?_) fun _ _ e => e
    have q₃ : Post G κ F Xo os₁ s₁ out f s₂ := by
      obtain ⟨g₂, os₂, ho₂, hf₂⟩ := q₂
      refine ⟨g₂, os₂, ho₂, ?_⟩
      have h0 : F.s0.toks ≤ n + m := Nat.le_trans hn0 (Nat.le_add_right _ _)
      cases out with
      | next σ' => exact ⟨hf₂.1, hf₂.2.unclock h0 I.tk⟩
      | brk σ' => exact ⟨hf₂.1, hf₂.2.unclock h0 I.tk⟩
      | ret d => obtain ⟨v, e, I', r⟩ := hf₂; exact ⟨v, e, I'.unclock h0 I.tk, r⟩
    exact q₃.then g ho) fun _ _ e => e)
theorem Ex.tokAssign {x : Str} {e : Expr} {d : Nat → D} {m : Nat} {p pos : Pos} {rest : List Stmt} {out : Out} (h : EvK G k κ F σ e d m) (hk : Own κ F x) (hs : ∀ env, swapsWith e (some (.Name x p)) pos.line env = pure false)
    (h2 : ∀ n, F.s0.toks ≤ n → Ex G k κ (F.at (n + m)) ((x, .val (d n)) :: σ) rest out) : Ex G k κ F σ (.Assign [.Name x p] e pos :: rest) out :=
  Ex.tok (d := fun n => (x, .val (d n)) :: σ) (m := m) (fun A Xo os s E R I => wpAny_Assign_Name (wpAny_mono (h A Xo os s E R I) (fun v s1 q => by
    obtain ⟨g1, r1, hm⟩ := q
    exact (I.grow g1).storeVal hk r1 fun s2 I2 g2 => ⟨s.toks, I.st.toks, Nat.le_trans hm g2.toks, g1.up.trans g2, os, fun _ h => .inl h, rfl, I2⟩) fun _ _ e => e) (hs _)) h2
end
end Mine
end E19

noncomputable section E20
open PySem PySem.Calls PyProof.Rows
set_option Elab.async false
set_option linter.unusedVariables false
namespace Mine
noncomputable def dST (P : Tok → Prop) (xs : List Str) : List D := xs.map fun x => D.strT x P
theorem dST_length (P : Tok → Prop) (xs : List Str) : (dST P xs).length = xs.length := by simp [dST]
section
variable {G : Gd} {k : Nat} {κ : Scope} {F : Fm} {σ σ' : Sg} {Xo : Ou} {os os' : Os} {s s' : Shared}

theorem strs_of {X : List Addr} {h : Heap} {P : Tok → Prop} : ∀ {xs : List Str} {vs : List Value}, RepAll X h (dST P xs) vs → ∃ l : List (Str × Tok), vs = strValues l ∧ l.map (·.1) = xs ∧ ∀ p ∈ l, P p.2
  | [], vs, r => by simp only [dST, List.map_nil, RepAll] at r; exact ⟨[], r, rfl, fun _ h => nomatch h⟩
  | x :: xs, vs, r => by
    simp only [dST, List.map_cons, RepAll] at r
    obtain ⟨v, q, rfl, h1, h2⟩ := r
    obtain ⟨t, rfl, hp⟩ := h1.strT'
    obtain ⟨l, rfl, rfl, hl⟩ := strs_of (xs := xs) h2
    exact ⟨(x, t) :: l, rfl, rfl, fun p hm => (List.mem_cons.mp hm).elim (fun e => by rw [e]; exact hp) (hl p)⟩
theorem of_strs {X : List Addr} {h : Heap} {P : Tok → Prop} : ∀ {l : List (Str × Tok)}, (∀ p ∈ l, P p.2) → RepAll X h (dST P (l.map (·.1))) (strValues l)
  | [], _ => .nil
  | p :: l, hp => .cons (.ofStrT (hp p (.head _))) (of_strs fun q hq => hp q (.tail _ hq))
theorem numbered_ge : ∀ (n : Nat) (xs : List Str), ∀ p ∈ numbered n xs, n ≤ p.2
  | _, [], _, h => nomatch h
  | n, x :: r, p, h => by
    rcases List.mem_cons.mp h with e | h
    · rw [e]; exact Nat.le_refl _
    · exact Nat.le_of_succ_le (numbered_ge (n + 1) r p h)

/-- sep.join(texts), the tokens told -/
theorem Ev.joinT {o e : Expr} {sep : Str} {xs : List Str} {P : Tok → Prop} {apos pos : Pos} (ho : Ev G k κ F σ o (.str sep)) (he : Ev G k κ F σ e (.list (dST P xs))) (hP : ∀ t, F.s0.toks ≤ t → P t) (hok : JoinOk sep xs = true)
    (hbase : ∀ env, attributeBase o "join" env (eval o env) = eval o env) (hs : ∀ env, starEach [e] env = [(false, eval e env)]) (hline : (apos.endLine == pos.line) = true) :
    Ev G k κ F σ (.Call (.Attribute o "join" apos) [e] [] pos) (.strT (Txt.join sep xs) P) := fun A Xo os s E R I =>
  Call_method1 (hbase _) (hs _) hline (wp_st (β := Unit) (ho A Xo os s E R I) fun v1 s1 g1 r1 => by
    obtain ⟨t, rfl⟩ := r1.str'
    refine ⟨"str", _, PySem.F.plainAttrs_str, PySem.F.slot_str_join, PySem.F.type_str_join, typeIs_str _ _ _, (fun _ e => nomatch e),
      method1_meets PySem.F.slot_str_join PySem.F.entry_str_join (wp_st (β := Unit) (he A Xo os s1 E R (I.grow g1)) fun v s2 g2 r2 => ?_)⟩
    obtain ⟨a, vs, rfl, _, hl, ra⟩ := r2.list'
    obtain ⟨l, hvs, rfl, hp⟩ := strs_of ra
    unfold JoinOk at hok
    rw [Bool.not_eq_true'] at hok
    refine ⟨typeIs_str _ _ _, PySem.F.args_str_join_2 _ _, _, meets_str_join_list sep t a l hok, by rw [← hvs]; simpa using hl, ?_⟩
    have fresh : P s2.toks := hP _ (Nat.le_trans I.st.toks (g1.trans g2).toks)
    have hlen : (Txt.join sep (l.map (·.1))).length ≤ sizeLine := joinFit_length hok
    match l, hp, hlen with
    | [], _, hlen => exact ⟨hlen, (g1.trans g2).trans .tok, .ofStrT fresh⟩
    | [p], hp, _ => exact ⟨g1.trans g2, .ofStrT (hp p (.head _))⟩
    | p :: q :: r, _, hlen => exact ⟨hlen, (g1.trans g2).trans .tok, .ofStrT fresh⟩)
/-- text.split(sep), the tokens told -/
theorem Ev.splitT {o e : Expr} {x sep : Str} {P : Tok → Prop} {apos pos : Pos} (ho : Ev G k κ F σ o (.strT x P)) (he : Ev G k κ F σ e (.str sep)) (hP : ∀ t, F.s0.toks ≤ t → P t) (hsep : (sep.length == 0) = false) (hx : x.length ≤ sizeLine)
    (hn : (Builtin.Str.partsBetween x (Builtin.Str.occurrences x sep 0 x.length (x.length + 1)) sep.length).length ≤ sizeLine)
    (hbase : ∀ env, attributeBase o "split" env (eval o env) = eval o env) (hs : ∀ env, starEach [e] env = [(false, eval e env)]) (hline : (apos.endLine == pos.line) = true) :
    Ev G k κ F σ (.Call (.Attribute o "split" apos) [e] [] pos) (.list (dST P (Txt.split x sep))) := fun A Xo os s E R I =>
  Call_method1 (hbase _) (hs _) hline (wp_st (β := Unit) (ho A Xo os s E R I) fun v1 s1 g1 r1 => by
    obtain ⟨t, rfl, hp⟩ := r1.strT'
    refine ⟨"str", _, PySem.F.plainAttrs_str, PySem.F.slot_str_split, PySem.F.type_str_split, typeIs_str _ _ _, (fun _ e => nomatch e),
      method1_meets PySem.F.slot_str_split PySem.F.entry_str_split (wp_st (β := Unit) (he A Xo os s1 E R (I.grow g1)) fun v s2 g2 r2 => ?_)⟩
    obtain ⟨u, rfl⟩ := r2.str'
    refine ⟨typeIs_str _ _ _, PySem.F.args_str_split_2 _ _, ?_⟩
    have self : ∀ tk, s2.toks ≤ tk → St [] s { s2 with heap := s2.heap.push { cls := .type "list", data := .seq #[.str x t] }, toks := tk } ∧ Rep (F.X Xo os) (s2.heap.push { cls := .type "list", data := .seq #[.str x t] }) (.list (dST P [x])) (.ref s2.heap.objs.size) := fun tk htk =>
      ⟨(g1.trans g2).trans (.push htk), .ofList (I.grow (g1.trans g2)).offSize ⟨_, Heap.get?_push_size _ rfl, rfl, _, rfl⟩ (.one (.ofStrT hp))⟩
    cases h1 : (decide (x.length < sep.length) || decide (Builtin.Str.strKind x < Builtin.Str.strKind sep))
    · cases hf : (Builtin.Str.occurrences x sep 0 x.length (x.length + 1)).isEmpty
      · refine ⟨_, meets_str_split_sep x sep t u h1 hsep hf hx hn, (g1.trans g2).trans (.push (Nat.le_add_right _ _)), .ofList (I.grow (g1.trans g2)).offSize ⟨_, Heap.get?_push_size _ rfl, rfl, _, rfl⟩ ?_⟩
        rw [strsFrom_eq, List.toList_toArray]
        have e : Txt.split x sep = (numbered s2.toks (Builtin.Str.partsBetween x (Builtin.Str.occurrences x sep 0 x.length (x.length + 1)) sep.length)).map (·.1) := by
          rw [numbered_texts]; unfold Txt.split; rw [if_neg (by rw [h1]; decide), if_neg (by rw [hf]; decide)]
        rw [e]
        exact of_strs fun p hp => hP _ (Nat.le_trans (Nat.le_trans I.st.toks (g1.trans g2).toks) (numbered_ge _ _ p hp))
      · refine ⟨_, meets_str_split_not_found x sep t u h1 hsep hf, ?_⟩
        have e : Txt.split x sep = [x] := by unfold Txt.split; rw [if_neg (by rw [h1]; decide), if_pos hf]
        rw [e]; exact self s2.toks (Nat.le_refl _)
    · refine ⟨_, meets_str_split_cannot_occur x sep t u h1, ?_⟩
      have e : Txt.split x sep = [x] := by unfold Txt.split; rw [if_pos h1]
      rw [e]; exact self s2.toks (Nat.le_refl _))
theorem Cal.hex {a : Int} (h : (baseText "0x" 16 a).length ≤ sizeLine) : Cal G k (.builtin "hex") [.int a] (.strT (baseText "0x" 16 a) fun t => G.tk ≤ t) := fun A X s vs E R hb l r => by
  obtain ⟨v, rfl, r1⟩ := r.single
  obtain ⟨t, rfl⟩ := r1.int'
  exact P.hex_of_int ⟨.tok, .ofStrT hb.2⟩ h

/-- a table of texts at the top -/
structure FlagTab (G : Gd) (mg : Str → Option Value) (x : Str) (nm : Nat → Str) (n : Nat) : Prop where
  ex : ∃ d f, mg x = some (.ref d) ∧ (d == sysModules) = false ∧ G.hb.MapOf (intKind G.prog G.w) d f ∧ ∀ i, i < n → ∃ t, f (2 ^ i) = some (.str (nm i) t) ∧ t ≠ 0 ∧ t < G.tk
theorem Ev.tabGet {mg : Str → Option Value} {x : Str} {nm : Nat → Str} {n i : Nat} {e1 e2 : Expr} {d2 : D} {p apos pos : Pos} (FT : FlagTab G mg x nm n) (hg : G.hb.Ns mainGlobals mg) (hk : κ.names.lookup x = some .globalImplicit) (hd : (x == ("__debug__" : Str)) = false)
    (hi : i < n) (h1 : Ev G k κ F σ e1 (.int (2 ^ i))) (h2 : Ev G k κ F σ e2 d2)
    (hbase : ∀ env, attributeBase (.Name x p) "get" env (eval (.Name x p) env) = eval (.Name x p) env) (hs : ∀ env, starEach [e1, e2] env = [(false, eval e1 env), (false, eval e2 env)]) (hline : (apos.endLine == pos.line) = true) :
    Ev G k κ F σ (.Call (.Attribute (.Name x p) "get" apos) [e1, e2] [] pos) (.strT (nm i) fun t => t ≠ 0 ∧ t < G.tk) := fun A Xo os s E R I => by
  obtain ⟨d, f, hmg, hsys, hmap, hf⟩ := FT.ex
  obtain ⟨t, hft, ht⟩ := hf i hi
  refine Call_method2 (hbase _) (hs _) hline (EvV.global hg hmg hk hd A Xo os s E _ I ?_)
  have km : ∀ s' : Shared, (∀ b o, G.hb.get? b = some o → s'.heap.get? b = some o) → s'.heap.MapOf (intKind G.prog G.w) d f := fun s' hk => let ⟨o, es, ep, ho, r⟩ := hmap; ⟨o, es, ep, hk _ _ ho, r⟩
  refine ⟨"dict", _, PySem.F.plainAttrs_dict, PySem.F.slot_dict_get, PySem.F.type_dict_get, (km s I.hb).typeIs, (km s I.hb).noDict, wpAny_dict_get2 (knd := intKind G.prog G.w) hsys (wp_st (β := Unit) (h1 A Xo os s E R I) fun v1 s1 g1 r1 => wp_st (β := Unit) (h2 A Xo os s1 E R (I.grow g1)) fun v2 s2 g2 r2 => ?_)⟩
  obtain ⟨u, rfl⟩ := r1.int'
  refine ⟨(2 : Int) ^ i, f, intKind_is G.prog G.w _ u, km s2 (I.grow (g1.trans g2)).hb, (g1.trans g2).trans .tok, ?_⟩
  rw [hft]
  exact .ofStrT ht
end
end Mine
end E20

noncomputable section E21
open PySem PySem.Calls PyProof.Rows
set_option Elab.async false
set_option linter.unusedVariables false
set_option maxRecDepth 100000
namespace Mine
section
variable {prog : Program} {w : World} {A : Around}

/-- an iterator that is read to its end into the list S; J i vs s: i items are read, they are vs -/
structure Feed (prog : Program) (w : World) (A : Around) (I S : Addr) (n : Nat) (J : Nat → List Value → Shared → Prop) (K : List Value → Shared → Prop) (T : String) : Prop where
  ne : S ≠ I
  typ : ∀ i vs s, J i vs s → s.TypeIs (.ref I) T
  ne1 : (Value.type T == Value.type "list") = false
  ne2 : (Value.type T == Value.type "tuple") = false
  hint : ∀ s (Q : Bool → Shared → Prop) (E : Value → Shared → Prop), J 0 [] s → (∀ b, Q b s) → wpAny (model prog w) A (Builtin.List.listLengthHint (.ref I)) Q E s
  len : ∀ i vs s, J i vs s → vs.length = i
  frame : ∀ i vs s h' tk, J i vs s → s.toks ≤ tk → (∀ b o, b ≠ S → s.heap.get? b = some o → h'.get? b = some o) → (∃ o, h'.get? S = some o) → J i vs { s with heap := h', toks := tk }
  item : ∀ i vs s o (Q : Option Value → Shared → Prop) (E : Value → Shared → Prop), i < n → J i vs s → s.heap.get? S = some o → o.cls = .type "list" → (∀ v s', J (i + 1) (vs ++ [v]) s' → s'.heap.get? S = some o → Q (some v) s') → wpAny (model prog w) A (pyNext (.ref I)) Q E s
  done : ∀ vs s o (Q : Option Value → Shared → Prop) (E : Value → Shared → Prop), J n vs s → s.heap.get? S = some o → o.cls = .type "list" → (∀ s', K vs s' → s'.heap.get? S = some o → Q none s') → wpAny (model prog w) A (pyNext (.ref I)) Q E s
  self : ∀ i vs s (Q : Value → Shared → Prop) (E : Value → Shared → Prop), J i vs s → Q (.ref I) s → wpAny (model prog w) A (pyIter (.ref I)) Q E s

theorem feed_loop {I S : Addr} {n : Nat} {J : Nat → List Value → Shared → Prop} {K : List Value → Shared → Prop} {T : String} {R : Result → Shared → Prop} (W : Feed prog w A.in1 I S n J K T) (hn : n ≤ sizeLine) (res : Value) :
    ∀ (c i : Nat) (vs : List Value) (s : Shared) (m : Nat), n - i = c → i ≤ n → J i vs s → s.heap.get? S = some { cls := .type "list", data := .seq vs.toArray m } →
      (∀ vs' s' m', K vs' s' → s'.heap.get? S = some { cls := .type "list", data := .seq vs'.toArray m' } → R (.ok (.ret res)) s') →
      codeAny (model prog w) A (.builtin "list.extend.loop" ⟨[.ref S, .ref I, res], []⟩) R s := by
  intro c
  induction c with
  | zero =>
    intro i vs s m hc hi hJ hS hR
    obtain rfl : i = n := by omega
    refine codeAny_builtin F.entry_extend_loop ?_
    rw [Around.under_plainId F.plain_extend_loop _]
    exact wpAny_bind (W.done vs s _ _ _ hJ hS rfl fun s' hK hS' => wpAny_pure (hR vs s' m hK hS'))
  | succ c ih =>
    intro i vs s m hc hi hJ hS hR
    have hlt : i < n := by omega
    have hlen := W.len i vs s hJ
    refine codeAny_builtin F.entry_extend_loop ?_
    rw [Around.under_plainId F.plain_extend_loop _]
    refine wpAny_bind (W.item i vs s _ _ _ hlt hJ hS rfl fun v s' hJ' hS' => ?_)
    show wpAny _ A.in1 (updateSeq S (·.push v) >>= _) _ _ _
    refine wpAny_bind (wpAny_updateSeq hS' rfl (wpAny_pure ⟨plainId_quiet F.plain_extend_loop _, ?_⟩) (by simp; omega) (by show (vs.toArray.push v).size ≤ sizeLine + 1; simp; omega))
    have hS2 := Heap.get?_update_self (Obj.mapSeq (·.push v)) hS' rfl
    refine ih (i + 1) (vs ++ [v]) _ _ (by omega) hlt (W.frame _ _ s' _ s'.toks hJ' (Nat.le_refl _) (fun b o hb e => (Heap.get?_update_other _ _ (Ne.symm hb)).trans e) ⟨_, hS2⟩) (by rw [← List.push_toArray]; exact hS2) hR

theorem init_feed {I S : Addr} {n : Nat} {J : Nat → List Value → Shared → Prop} {K : List Value → Shared → Prop} {T : String} {R : Result → Shared → Prop} {s : Shared} (W : Feed prog w A.in1 I S n J K T) (hn : n ≤ sizeLine) (hJ : J 0 [] s)
    (hS : s.heap.get? S = some { cls := .type "list", data := .seq #[] })
    (hR : ∀ vs' s' m', K vs' s' → s'.heap.get? S = some { cls := .type "list", data := .seq vs'.toArray m' } → R (.ok (.ret .none)) s') :
    wpAny (model prog w) A.in1 (Builtin.«list.__init__» ⟨[.ref S, .ref I], []⟩)
      (fun fin s' => match fin with | .done f => R (.ok f) s' | .again c' => c'.quiet = true ∧ codeAny (model prog w) A c' R s') (fun e s' => R (.error e) s') s := by
  have oth : ∀ (h : Heap) (f : Obj → Obj) b o, b ≠ S → h.get? b = some o → (h.update S f).get? b = some o := fun h f b o hb e => (Heap.get?_update_other _ _ (Ne.symm hb)).trans e
  refine wpAny_bind (m := Builtin.List.listItems (.ref S)) ?_
  unfold Builtin.List.listItems
  refine wpAny_bind (wpAny_seqItems hS rfl (wpAny_pure ?_))
  refine wpAny_bind (m := updateSeq S (fun _ => #[])) (wpAny_updateSeq hS rfl ?_)
  have hS₂ := Heap.get?_update_self (Obj.mapSeq (fun _ => (#[] : Array Value))) hS rfl
  refine wpAny_bind (m := letGo (#[] : Array Value).toList.reverse) (wpAny_letGo ?_)
  have hJ₂ := W.frame 0 [] s _ s.toks hJ (Nat.le_refl _) (fun b o hb e => oth s.heap (Obj.mapSeq (fun _ => (#[] : Array Value))) b o hb e) ⟨_, hS₂⟩
  have hS2 : ({ s with heap := s.heap.update S (Obj.mapSeq fun _ => (#[] : Array Value)) } : Shared).heap.get? S = some (Obj.mapSeq (fun _ => (#[] : Array Value)) { cls := .type "list", data := .seq #[] }) := hS₂
  show wpAny (model prog w) A.in1 (Builtin.List.listExtendWith (.ref S) (.ref I) .none) _ _ ({ s with heap := s.heap.update S (Obj.mapSeq fun _ => (#[] : Array Value)) } : Shared)
  generalize ({ s with heap := s.heap.update S (Obj.mapSeq fun _ => (#[] : Array Value)) } : Shared) = s2 at hJ₂ hS2 ⊢
  unfold Builtin.List.listExtendWith
  refine wpAny_bind (wpAny_typeOf (W.typ 0 _ _ hJ₂) ?_)
  have h1 : Builtin.List.listSameRef (.ref S) (.ref I) = false := by simp [Builtin.List.listSameRef, W.ne]
  have h2 := W.ne1
  have h3 := W.ne2
  simp only [h1, h2, h3, Bool.or_false, Bool.false_eq_true, if_false]
  refine wpAny_bind (W.self 0 _ _ _ _ hJ₂ (wpAny_bind (wpAny_holding ?_)))
  refine W.hint _ _ _ hJ₂ fun room => ?_
  refine wpAny_ite_split (fun _ => ?_) (fun _ => wpAny_pure ⟨plainId_quiet F.plain_extend_loop _, feed_loop W hn .none n 0 [] _ _ rfl (Nat.zero_le _) hJ₂ hS2 hR⟩)
  refine wpAny_bind (m := rule "list.extend.makes-room") (wpAny_rule ?_)
  refine wpAny_bind (m := Builtin.List.listTouch (.ref S)) ?_
  refine wpAny_bind (m := updateSeq S (·.push .none)) (wpAny_updateSeq hS2 rfl ?_)
  have hS3 := Heap.get?_update_self (Obj.mapSeq (·.push Value.none)) hS2 rfl
  refine wpAny_updateSeq (hz := by seq_fits) hS3 rfl ?_
  have hS4 := Heap.get?_update_self (Obj.mapSeq (·.pop)) hS3 rfl
  refine wpAny_pure ⟨plainId_quiet F.plain_extend_loop _, feed_loop W hn .none n 0 [] _ _ rfl (Nat.zero_le _) (W.frame 0 [] s2 _ s2.toks hJ₂ (Nat.le_refl _) (fun b o hb e => oth _ _ b o hb (oth s2.heap _ b o hb e)) ⟨_, hS4⟩) hS4 hR⟩
theorem hint_gen {I : Addr} {s : Shared} {Q : Bool → Shared → Prop} {E : Value → Shared → Prop} (ht : s.TypeIs (.ref I) "generator") (h : ∀ b, Q b s) : wpAny (model prog w) A (Builtin.List.listLengthHint (.ref I)) Q E s := by
  unfold Builtin.List.listLengthHint
  refine wpAny_bind (wpAny_specialOf ht F.gen_no_len ?_)
  refine wpAny_bind (m := specialOf (Value.ref I) (Str.ofString "__length_hint__")) (wpAny_specialOf ht F.gen_no_hint ?_)
  exact wpAny_pure (h _)
theorem hint_listiter {I : Addr} {s : Shared} {Q : Bool → Shared → Prop} {E : Value → Shared → Prop} (ht : s.TypeIs (.ref I) "list_iterator") (h : ∀ b, Q b s) : wpAny (model prog w) A (Builtin.List.listLengthHint (.ref I)) Q E s := by
  unfold Builtin.List.listLengthHint
  refine wpAny_bind (wpAny_specialOf ht F.nolen_li ?_)
  refine wpAny_bind (m := specialOf (Value.ref I) (Str.ofString "__length_hint__")) (wpAny_specialOf ht F.hint_li ?_)
  generalize hid : ("list_iterator.__length_hint__" : String) = id0
  (fail_if_success (clear hid id0))
  wp_delta
  rw [show splitId id0 = some ("list_iterator", "__length_hint__") from by subst hid; decide +kernel]
  subst hid
  refine wpAny_bind (wpAny_isInstance (b := true) ht (by rw [isSubtype_type]; kernel_rfl) ?_)
  exact wpAny_pure (h _)
theorem call_list_feed {I : Addr} {n : Nat} {J : Nat → List Value → Shared → Prop} {K : List Value → Shared → Prop} {T : String} {s : Shared} {E : Value → Shared → Prop} {Q : Value → Shared → Prop} (W : Feed prog w A.in1.in1 I s.heap.objs.size n J K T) (hn : n ≤ sizeLine)
    (hJ : J 0 [] { s with heap := s.heap.push { cls := .type "list", data := .seq #[] } })
    (hQ : ∀ vs' s' m', K vs' s' → s'.heap.get? s.heap.objs.size = some { cls := .type "list", data := .seq vs'.toArray m' } → Q (.ref s.heap.objs.size) s') :
    wpAny (model prog w) A (call (.type "list") [.ref I]) Q E s := by
  have hSI := W.ne
  refine callType_codes (Q₁ := fun obj s₁ => obj = .ref s.heap.objs.size ∧ s₁ = { s with heap := s.heap.push { cls := .type "list", data := .seq #[] } }) F.called_list (F.typeCall_list_1 _) F.entry_list_init
    (code_list_new _ ⟨rfl, rfl⟩) fun obj s₁ h₁ => ?_
  obtain ⟨rfl, rfl⟩ := h₁
  have hS : (s.heap.push { cls := .type "list", data := .seq #[] }).get? s.heap.objs.size = some { cls := .type "list", data := .seq #[] } := Heap.get?_push_size _ rfl
  exact ⟨⟨_, hS, rfl⟩, F.args_list_init_2 _ _, init_feed W hn hJ hS fun vs' s' m' hK hS' => ⟨rfl, hQ vs' s' m' hK hS'⟩⟩
end
end Mine
end E21

noncomputable section E22
open PySem PySem.Calls PyProof.Rows
set_option Elab.async false
set_option linter.unusedVariables false
set_option maxRecDepth 100000
namespace Mine

noncomputable abbrev noE : Value → Shared → Prop := fun _ _ => False
theorem wpAny_noE {α : Type} {M : Model} {A : Around} {t : Sem α} {Q : α → Shared → Prop} {E : Value → Shared → Prop} {s : Shared} (h : wpAny M A t Q noE s) : wpAny M A t Q E s := wpAny_mono h (fun _ _ q => q) fun _ _ q => q.elim

section
variable {prog : Program} {w : World} {A : Around} {R : GenEnd} {Y : Protocol} {n : Nat} {s₀ : Shared} {c : Code} {fs : List Frame} {s : Shared} {env : Env}
  {K : Flow → Sem Fin} {H : Value → Sem Fin} {gd : Bool → Bool} {lv : List Value → List Value}

theorem seg_whole {α : Type} {m : Sem α} {K : α → Sem Fin} {H : Value → Sem Fin} (h : wpAny (model prog w) (A.over c fs) m (fun a s' => Seg (model prog w) A R Y n s₀ c (K a) fs s') noE s) :
    Seg (model prog w) A R Y n s₀ c (m.wrap K H gd lv) fs s := seg_wrap (wpAny_noE h)

/-- a statement of the generator's body that gives nothing out -/
theorem seg_If {test : Expr} {body orelse : List Stmt} {pos : Pos}
    (h : wpAny (model prog w) (A.over c fs) (isTrue test env (eval test env)) (fun b s' => if b = true then Seg (model prog w) A R Y n s₀ c ((execs body env).wrap K H gd lv) fs s'
        else Seg (model prog w) A R Y n s₀ c ((execs orelse env).wrap K H gd lv) fs s') noE s) :
    Seg (model prog w) A R Y n s₀ c ((exec (.If test body orelse pos) env).wrap K H gd lv) fs s := by
  rw [exec_If]
  show Seg _ _ _ _ _ _ _ (.at pos fun _ => (isTrue test env (eval test env) >>= fun b => if b = true then execs body env else execs orelse env).wrap K H gd lv) _ _
  refine seg_at ?_
  rw [Sem.bind_eq_wrap', Sem.wrap_wrap]
  refine seg_whole (wpAny_mono h (fun b s' q => ?_) fun _ _ q => q)
  cases b <;> exact q

theorem seg_For {target iter : Expr} {body orelse : List Stmt} {pos : Pos} (hs : ∀ x, foldedSetIterable iter env x = pure x)
    (h : wpAny (model prog w) (A.over c fs) (eval iter env) (fun x s₁ => wpAny (model prog w) (A.over c fs) (pyIter x) (fun it s₂ => ∀ k p, (∀ f, k (.ok f) = K f) →
      Seg (model prog w) A R Y n s₀ (.forLoop target it body orelse env) ((model prog w).den (.forLoop target it body orelse env)) (.ret k none (gd false) (lv []) c p [] :: fs) s₂) noE s₁) noE s) :
    Seg (model prog w) A R Y n s₀ c ((exec (.For target iter body orelse pos) env).wrap K H gd lv) fs s := by
  rw [exec_For]
  simp only [hs]
  show Seg _ _ _ _ _ _ _ (.at pos fun _ => (eval iter env >>= fun x => Sem.at iter.pos fun _ => holding [x] (pyIter x) >>= fun it => runOwn (.forLoop target it body orelse env) env).wrap K H gd lv) _ _
  refine seg_at ?_
  rw [Sem.bind_eq_wrap', Sem.wrap_wrap]
  refine seg_whole (wpAny_mono h (fun x s₁ q => ?_) fun _ _ q => q)
  show Seg _ _ _ _ _ _ _ (.at iter.pos fun _ => (holding [x] (pyIter x) >>= fun it => runOwn (.forLoop target it body orelse env) env).wrap K H gd lv) _ _
  refine seg_at ?_
  rw [Sem.bind_eq_wrap', Sem.wrap_wrap]
  refine seg_whole (wpAny_holding (wpAny_mono q (fun it s₂ q₂ => ?_) fun _ _ q => q))
  refine seg_call fun p => q₂ _ p fun f => rfl

theorem seg_forLoop {target : Expr} {it : Value} {body orelse : List Stmt}
    (h : wpAny (model prog w) (A.over (.forLoop target it body orelse env) fs) (pyNext it) (fun r s₁ => match r with
      | none => Seg (model prog w) A R Y n s₀ (.block orelse env) ((model prog w).den (.block orelse env)) fs s₁
      | some v => wpAny (model prog w) (A.over (.forLoop target it body orelse env) fs) (letOwnedTupleGo target it v) (fun _ s₂ => wpAny (model prog w) (A.over (.forLoop target it body orelse env) fs) (assign target env v) (fun _ s₃ =>
          ∀ K' H', (∀ f, f = .next ∨ f = .cont → K' f = .pure (.again (.forLoop target it body orelse env))) → Seg (model prog w) A R Y n s₀ (.forLoop target it body orelse env) ((execs body env).wrap K' H' id id) fs s₃) noE s₂) noE s₁) noE s) :
    Seg (model prog w) A R Y n s₀ (.forLoop target it body orelse env) ((model prog w).den (.forLoop target it body orelse env)) fs s := by
  show Seg _ A R Y n s₀ _ ((forTurn target it body orelse env).onRaise (fun x => do noteFrame x env; theTreesLotGoes x)) fs s
  unfold forTurn
  rw [Sem.onRaise_eq_wrap]
  show Seg _ A R Y n s₀ _ (.at target.pos fun _ => _) fs s
  refine seg_at ?_
  show Seg _ A R Y n s₀ _ (Sem.wrap _ _ _ _ ((pyNext it).onRaise _ >>= _)) fs s
  rw [Sem.bind_eq_wrap', Sem.wrap_wrap, Sem.onRaise_eq_wrap, Sem.wrap_wrap]
  refine seg_whole (wpAny_mono h (fun r s₁ q => ?_) fun _ _ q => q)
  cases r with
  | none => exact seg_again rfl q
  | some v =>
    show Seg _ A R Y n s₀ _ (Sem.wrap _ _ _ _ (letOwnedTupleGo target it v >>= _)) fs s₁
    rw [Sem.bind_eq_wrap', Sem.wrap_wrap]
    refine seg_whole (wpAny_mono q (fun _ s₂ q₂ => ?_) fun _ _ q => q)
    show Seg _ A R Y n s₀ _ (Sem.wrap _ _ _ _ (assign target env v >>= _)) fs s₂
    rw [Sem.bind_eq_wrap', Sem.wrap_wrap]
    refine seg_whole (wpAny_mono q₂ (fun _ s₃ q₃ => ?_) fun _ _ q => q)
    show Seg _ A R Y n s₀ _ (Sem.wrap _ _ _ _ (execs body env >>= _)) fs s₃
    rw [Sem.bind_eq_wrap', Sem.wrap_wrap]
    refine q₃ _ _ fun f hf => ?_
    rcases hf with rfl | rfl <;> rfl

theorem seg_block_nil {k : Result → Sem Fin} {g : Bool} {l : List Value} {c₁ : Code} {p₁ : Pos} {kp : List Value} {hd : Option Value} (h : Seg (model prog w) A R Y n s₀ c₁ (k (.ok .next)) fs s) :
    Seg (model prog w) A R Y n s₀ (.block [] env) ((model prog w).den (.block [] env)) (.ret k hd g l c₁ p₁ kp :: fs) s := by
  show Seg _ A R Y n s₀ _ (.pure (.done .next)) _ s
  exact seg_leaf (.ok .next) h

/-- a generator of a def is asked once more; what stands behind is told to be bare -/
theorem next_gen {E : Value → Shared → Prop} {a : Addr} {g n : Nat} {gs : GenState} {P : Nat → Shared → Shared → Prop} {Y : Protocol} {Q : Option Value → Shared → Prop} (hh : A.handled = none)
    (hl : s.heap.NoLimit) (hroom : A.depth < recursionLimit) (hg : s.heap.IsGen a g) (hgs : s.gens[g]? = some gs)
    (hgo : gs.Goes (model prog w) A.in1 (fun n s₀ r s₁ => r = .ok (.ret .none) ∧ P n s₀ s₁) Y n (.send .none) (s.setGen g .running))
    (hY : ∀ v s₁ gs', gs'.bare = true → Y (n - 1) (s.setGen g .running) v s₁ (fun r' s'' => match n with
        | 0 => False
        | m + 1 => gs'.Goes (model prog w) A.in1 (fun n s₀ r s₁ => r = .ok (.ret .none) ∧ P n s₀ s₁) Y m r' s'') → Q (some v) (s₁.setGen g gs'))
    (hP : ∀ s₁, P n (s.setGen g .running) s₁ → ∀ h', (∀ b o, s₁.heap.get? b = some o → h'.get? b = some o) → Q none { s₁.setGen g .finished with heap := h' }) :
    wpAny (model prog w) A (pyNext (.ref a)) Q E s := by
  have key : wpAny (model prog w) A.in1 (Builtin.Generator.genWake (.ref a) (.send .none)) (fun fin s' => ∃ v, fin = .done (.ret v) ∧ Q (some v) s')
      (fun x s' => wpAny (model prog w) A (isInstance x (.type "StopIteration")) (fun b s'' => b = true ∧ Q none s'') noE s') s := by
    unfold Builtin.Generator.genWake
    refine wpAny_bind (wpAny_holding (wpAny_genNumber hg (wpAny_bind (wpAny_genState hgs ?_))))
    have live : gs.status ≠ .running ∧ gs.status ≠ .finished := by cases gs <;> first | exact hgo.elim | exact ⟨(fun h => nomatch h), fun h => nomatch h⟩
    cases gs with
    | running => exact hgo.elim
    | finished => exact hgo.elim
    | fresh _ | suspended _ _ _ _ _ _ =>
      refine wpAny_bind (wpAny_roomToWake hl hroom ?_)
      show wpAny _ A.in1 (.resume g (.send .none) [] _) _ _ s
      refine wpAny_resumeQ hgs hgo (fun x s₁ hx => ?_) fun v s₁ gs' hb hv => wpAny_pure ⟨v, rfl, hY v s₁ gs' hb hv⟩
      obtain ⟨rfl, hp⟩ := hx
      show wpAny _ A.in1 (newExc (.type "StopIteration") [] >>= _) _ _ _
      refine wpAny_bind ?_
      simp only [newExc, newTuple]
      refine wpAny_bind (wpAny_newObj_type ?_ (by size_fits))
      refine wpAny_bind (m := firstArgMember _ _) (wpAny_of_eq (a := Value.none) (by first | rfl | (simp only [firstArgMember]; rfl)) ?_)
      refine wpAny_newObj_type ?_ (by size_fits)
      simp only [raiseNew]
      refine wpAny_bind (wpAny_bind (wpAny_handled ?_))
      rw [show A.in1.handled = none from hh]
      refine wpAny_throw (wpAny_isInstance (T := "StopIteration") (b := true) ⟨_, Heap.get?_push_size _ rfl, rfl⟩ isSubtype_stop ⟨rfl, ?_⟩)
      exact hP s₁ hp _ fun b o hb => Heap.get?_push_of_some _ (Heap.get?_push_of_some _ hb)
  unfold pyNext
  refine wpAny_bind (wpAny_attempt (wpAny_callSpecial?_slot (name := Str.ofString "__next__") hg.typeIs slot_gen_next
    (wpAny_call_entry slot_gen_next hg.typeIs entry_gen_next (wpAny_mono key (fun fin s' q => ?_) fun x s' q => ?_) (args_gen_next _))))
  · obtain ⟨v, rfl, q⟩ := q
    exact ⟨v, rfl, wpAny_pure q⟩
  · exact wpAny_bind (wpAny_noE (wpAny_mono q (fun b s'' q => by obtain ⟨rfl, q⟩ := q; exact wpAny_pure q) fun _ _ q => q))
end
end Mine
end E22

noncomputable section E23
open PySem PySem.Calls PyProof.Rows
set_option Elab.async false
set_option linter.unusedVariables false
set_option maxRecDepth 100000
namespace Mine
section
variable {G : Gd} {k : Nat} {κ : Scope} {F : Fm} {σ σ' : Sg} {Xo : Ou} {os os' : Os} {s s' : Shared}
noncomputable def OutS (x y : Str) (t : Str) (i : Nat) : Sg := [(y, .val (.str ⟨#[t.cps.getD i 0]⟩)), (x, .val (.int i))]
noncomputable def EnumS (t : Str) (u : Tok) (it e : Addr) (i : Nat) (h : Heap) : Prop := h.IsStrIter it "str_ascii_iterator" t u i ∧ ∃ old, IsEnum h e it (i : Nat) old
theorem Src.enumS {x y : Str} {p q pos : Pos} {c : Nat} {t : Str} {u : Tok} {it e : Addr} (hx : Own κ F x) (hy : Own κ F y) (hne : e ≠ it) :
    Src G k κ F (.Tuple [.Name x p, .Name y q] c pos) (.ref e) t.cps.size (OutS x y t) [e, it] [] (EnumS t u it e) where
  keep i h h' hP hk := ⟨let ⟨o, ho, r⟩ := hP.1; ⟨o, hk it (.tail _ (.head _)) o ho, r⟩, let ⟨old, h⟩ := hP.2; ⟨old, hk e (.head _) _ h⟩⟩
  self A i s E Q hP hQ := let ⟨old, h⟩ := hP.2; wpAny_pyIter_enum h hQ
  turn A i s σ Xo os E Q R hi I hW hg hWY hW0 hP h := by
    obtain ⟨hP, old, he⟩ := hP
    have heX : e ∈ F.X Xo os := mem_X.mpr (.inr (.inr (.inr (hW e (.head _)))))
    have hiX : it ∈ F.X Xo os := mem_X.mpr (.inr (.inr (.inr (hW it (.tail _ (.head _))))))
    refine wpAny_with_toks (Nat.le_refl s.toks) (wpAny_pyNext_enum_itemD (Draws.strAscii (A := A.in1) R.handled it t u) he hP hi hne (by rw [List.mem_singleton]; exact hne) fun v h' tk hPv he' hP' hn hsz hk ht2 => ⟨_, rfl, ?_⟩)
    obtain ⟨cp, tv, hcp, rfl⟩ := hPv
    refine wpAny_letOwnedTupleGo_enum he' fun h2 he2 hs2 => ?_
    have hkk : ∀ b o, b ∉ [e, it] → s.heap.get? b = some o → h2.get? b = some o := fun b o hb q => hs2.extBut b o (fun z => hb (by rw [show b = e from z]; exact .head _)) (hk b o (fun z => hb (by rw [z]; exact .head _)) (fun z => hb (by rw [z]; exact .tail _ (.head _))) q)
    replace ht2 : s.toks ≤ tk + 1 := ht2
    have g0 : St [e, it] s { s with heap := h2, toks := tk + 1 } := .ofKeep (tk := tk + 1) hkk (fun b hb => by
      rcases List.mem_cons.mp hb with z | z
      · exact ⟨_, by rw [z]; exact he2⟩
      · obtain ⟨o', ho', _⟩ := id hP'
        rw [List.mem_singleton.mp z]; exact ⟨o', hs2.extBut _ _ (Ne.symm hne) ho'⟩) ht2
    have I1 := I.turnW g0 hW hWY hW0
    have hne2 : s.heap.objs.size ≠ e := fun z => by have w : s.heap.get? e = some _ := he; rw [← z, get_size] at w; cases w
    have ht : h2.IsTuple s.heap.objs.size #[.int i tk, .str ⟨#[cp]⟩ tv] := ⟨_, hs2.extBut _ _ hne2 hn, rfl, _, rfl⟩
    refine I1.bind2 R.handled hx hy ht (d1 := .int i) (d2 := .str ⟨#[cp]⟩) .ofInt .ofStr fun s1 I2 g2 => h s1 (by
      have : OutS x y t i = [(y, .val (.str ⟨#[cp]⟩)), (x, .val (.int i))] := by unfold OutS; rw [Array.getD_eq_getD_getElem?, hcp]; rfl
      rw [this]; exact I2) ?_ ?_
    · have hP2 : h2.IsStrIter it "str_ascii_iterator" t u (i + 1) := hP'.extBut hs2.extBut (Ne.symm hne)
      exact ⟨let ⟨o, ho, r⟩ := hP2; ⟨o, g2.heap it o (fun q => hWY it (.tail _ (.head _)) (Y_Z _ q)) ho, r⟩, _, by
        have := g2.heap e _ (fun q => hWY e (.head _) (Y_Z _ q)) he2
        show IsEnum _ _ _ _ _
        rw [show (((i + 1 : Nat) : Nat) : Int) = (i : Int) + 1 by omega]; exact this⟩
    · exact (g0.mono fun b hb => List.mem_append.mpr (.inl hb)).trans (g2.mono fun b hb => List.mem_append.mpr (.inr hb))
  done A s E Q R hP hg h := by
    obtain ⟨hP, old, he⟩ := hP
    exact wpAny_pyNext_enum_endD (Draws.strAscii (A := A.in1) R.handled it t u) he hP fun h' hs' => ⟨rfl, h _ ((Stw.one hs').up fun b hb => by rw [List.mem_singleton.mp hb]; exact .tail _ (.head _))⟩
end
end Mine
end E23

noncomputable section E24
open PySem PySem.Calls PyProof.Rows
set_option Elab.async false
set_option linter.unusedVariables false
set_option maxRecDepth 100000
namespace Mine

/-- what a generator's body leaves alone -/
structure Kp (L : Addr) (s s' : Shared) : Prop where
  heap : ∀ c o, s.heap.get? c = some o → o.cls ≠ .type "enumerate" → o.cls ≠ .type "str_ascii_iterator" → c ≠ L → s'.heap.get? c = some o
  gens : ∃ l : List GenState, s'.gens = s.gens ++ l.toArray
theorem Kp.refl {L : Addr} {s : Shared} : Kp L s s := ⟨fun _ _ e _ _ _ => e, [], by simp⟩
theorem Kp.trans {L : Addr} {s s' s'' : Shared} (a : Kp L s s') (b : Kp L s' s'') : Kp L s s'' :=
  ⟨fun c o e h1 h2 h3 => b.heap c o (a.heap c o e h1 h2 h3) h1 h2 h3, by
    obtain ⟨l, h⟩ := a.gens; obtain ⟨l', h'⟩ := b.gens; exact ⟨l ++ l', by rw [h', h]; simp⟩⟩
theorem Kp.of {L : Addr} {W : List Addr} {s s' : Shared} (g : St W s s') (h : ∀ b ∈ W, b = L ∨ ∀ o, s.heap.get? b = some o → o.cls = .type "enumerate" ∨ o.cls = .type "str_ascii_iterator") : Kp L s s' :=
  ⟨fun c o e h1 h2 h3 => g.heap c o (fun q => (h c q).elim h3 fun z => (z o e).elim h1 h2) e, let ⟨l, h, _⟩ := g.gens; ⟨l, h⟩⟩

/-- the one that reads keeps a list S of its own -/
noncomputable def Rel (S : Addr) (s s' : Shared) : Prop := St [S] s s' ∧ s'.gens = s.gens
theorem Rel.refl {S : Addr} {s : Shared} : Rel S s s := ⟨.refl, rfl⟩
theorem Rel.trans {S : Addr} {s s' s'' : Shared} (a : Rel S s s') (b : Rel S s' s'') : Rel S s s'' := ⟨a.1.trans b.1, b.2.trans a.2⟩

noncomputable def ItemRep (X0 : List Addr) (h : Heap) (it : Nat × Str) (v : Value) : Prop := ∃ t t1 t2, v = .ref t ∧ t ∉ X0 ∧ h.IsTuple t #[.int (it.1 : Int) t1, .str it.2 t2]
noncomputable def dItem (it : Nat × Str) : D := .tuple [.int (it.1 : Int), .str it.2]
theorem ItemRep.rep {X0 X : List Addr} {h : Heap} {it : Nat × Str} {v : Value} (r : ItemRep X0 h it v) (hX : ∀ b ∈ X, b ∈ X0) : Rep X h (dItem it) v := by
  obtain ⟨t, t1, t2, rfl, ht, hi⟩ := r
  exact .ofTuple (fun q => ht (hX t q)) hi (.cons .ofInt (.one .ofStr))
theorem ItemRep.of {X0 X : List Addr} {h : Heap} {it : Nat × Str} {v : Value} (r : Rep X h (dItem it) v) (hX : ∀ b ∈ X0, b ∈ X) : ItemRep X0 h it v := by
  obtain ⟨t, vs, rfl, ht, hi, ra⟩ := Rep.tuple' r
  obtain ⟨v1, v2, e, r1, r2⟩ := RepAll.two ra
  obtain ⟨t1, rfl⟩ := r1.int'
  obtain ⟨t2, rfl⟩ := r2.str'
  exact ⟨t, t1, t2, rfl, fun q => ht (hX t q), by rw [show vs = #[_, _] from by rw [← Array.toArray_toList (xs := vs), e]] at hi; exact hi⟩
theorem ItemRep.kp {X0 : List Addr} {L : Addr} {s s' : Shared} {it : Nat × Str} {v : Value} (r : ItemRep X0 s.heap it v) (k : Kp L s s') (hL : L ∈ X0) : ItemRep X0 s'.heap it v := by
  obtain ⟨t, t1, t2, rfl, ht, o, ho, hc, r⟩ := r
  exact ⟨t, t1, t2, rfl, ht, o, k.heap t o ho (by rw [hc]; decide) (by rw [hc]; decide) (fun e => ht (e ▸ hL)), hc, r⟩
theorem ItemRep.st {X0 : List Addr} {S : Addr} {s s' : Shared} {it : Nat × Str} {v : Value} (r : ItemRep X0 s.heap it v) (k : ∀ b o, b ≠ S → s.heap.get? b = some o → s'.heap.get? b = some o) (hL : S ∈ X0) : ItemRep X0 s'.heap it v := by
  obtain ⟨t, t1, t2, rfl, ht, o, ho, r⟩ := r
  exact ⟨t, t1, t2, rfl, ht, o, k t o (fun e => ht (e ▸ hL)) ho, r⟩

theorem St.setGen {X : List Addr} {s s' : Shared} {g : Nat} {gs : GenState} (h : St X s s') (hg : s.gens.size ≤ g) (hb : gs.bare = true) : St X s (s'.setGen g gs) := by
  obtain ⟨l, e, hl⟩ := h.gens
  refine ⟨h.drawn, h.os, h.toks, ⟨l.set (g - s.gens.size) gs, ?_, fun x hx => ?_⟩, h.heap, h.alive⟩
  · show s'.gens.setIfInBounds g gs = _
    rw [e]
    apply Array.ext'
    simp only [Array.toList_setIfInBounds, Array.toList_append, List.toList_toArray]
    rw [List.set_append_right _ _ (by simpa using hg)]
    simp
  · rcases List.mem_or_eq_of_mem_set hx with q | q
    · exact hl x q
    · rw [q]; exact hb

section
variable {G : Gd} {k : Nat} {κ : Scope} {F : Fm} {σ σ' : Sg} {Xo : Ou} {os os' : Os} {s s' : Shared}
theorem Inv.gens (I : Inv G κ F σ Xo os s) (h : St [] F.s0 s') (hh : s'.heap = s.heap) (ht : s'.toks = s.toks) : Inv G κ F σ Xo os s' :=
  { scope := I.scope, kind := I.kind, glob := I.glob, bi := I.bi, base := I.base, tk := I.tk, st := h, Lnew := I.Lnew, osnew := I.osnew, cfnew := I.cfnew, live := by rw [hh]; exact I.live,
    ns := by rw [hh]; exact I.ns, cells := by rw [hh]; exact I.cells, cellinj := I.cellinj, ossep := I.ossep, osoff := I.osoff, osout := I.osout, ghost := by rw [hh]; exact I.ghost, var := by rw [hh]; exact I.var }
theorem Inv.forget (I : Inv G κ F σ Xo os s) (h : ∀ x sl, σ.lookup x = some sl → sl.isOwn = false) : Inv G κ F σ Xo [] s := by
  have hX : ∀ c ∈ F.X Xo [], c ∈ F.X Xo os := fun c hc => by
    rcases mem_X.mp hc with q | q | q | q
    · exact mem_X.mpr (.inl q)
    · exact mem_X.mpr (.inr (.inl q))
    · exact nomatch q
    · exact mem_X.mpr (.inr (.inr (.inr q)))
  exact { scope := I.scope, kind := I.kind, glob := I.glob, bi := I.bi, base := I.base, tk := I.tk, st := I.st, Lnew := I.Lnew, osnew := (fun p hp => nomatch hp), cfnew := I.cfnew,
          live := fun b hb => I.live b (hX b hb), ns := I.ns, cells := I.cells, cellinj := I.cellinj, ossep := .nil, osoff := (fun p hp => nomatch hp), osout := (fun p hp => nomatch hp),
          ghost := fun p hp => (I.ghost p hp).sub hX, var := fun x sl hx => by
            obtain ⟨v, hv, hs⟩ := I.var x sl hx
            refine ⟨v, hv, ?_⟩
            have := h x sl hx
            cases sl with
            | val d => exact Rep.sub hs hX
            | raw u => exact hs
            | own p xs => cases this }

variable {A : Around} {R : GenEnd} {Y : Protocol} {n : Nat} {s₀ : Shared} {c : Code} {fs : List Frame} {K : Flow → Sem Fin} {H : Value → Sem Fin} {gd : Bool → Bool} {lv : List Value → List Value}
theorem seg_stmt {st : Stmt} (h : Ex1 G k κ F σ st (.next σ')) (hR : Room k (A.over c fs)) (I : Inv G κ F σ Xo [] s) (hσ : ∀ x sl, σ'.lookup x = some sl → sl.isOwn = false)
    (hc : ∀ s', Inv G κ F σ' Xo [] s' → St (F.Y []) s s' → Seg G.M A R Y n s₀ c (K .next) fs s') : Seg G.M A R Y n s₀ c ((exec st F.env).wrap K H gd lv) fs s :=
  seg_whole (wpAny_mono (h _ Xo [] s noE hR I) (fun f s' q => by
    obtain ⟨g, os', ho, rfl, I'⟩ := q
    exact hc s' (I'.forget hσ) g) fun _ _ q => q)
theorem seg_if {t : Expr} {body orelse : List Stmt} {pos : Pos} {b : Bool} (h : EvT G k κ F σ t b) (hR : Room k (A.over c fs)) (I : Inv G κ F σ Xo [] s)
    (hc : ∀ s', Inv G κ F σ Xo [] s' → St [] s s' → Seg G.M A R Y n s₀ c ((execs (if b then body else orelse) F.env).wrap K H gd lv) fs s') : Seg G.M A R Y n s₀ c ((exec (.If t body orelse pos) F.env).wrap K H gd lv) fs s :=
  seg_If (wp_st (β := Unit) (h _ Xo [] s noE hR I) fun r s' g q => by
    subst q
    have := hc s' (I.grow g) g
    cases r <;> exact this)
end
end Mine
end E24

noncomputable section E25
open PySem PySem.Calls PyProof.Rows
set_option Elab.async false
set_option linter.unusedVariables false
set_option maxRecDepth 100000
namespace Mine
section
variable {prog : Program} {w : World} {A : Around} {E : Value → Shared → Prop} {s : Shared}
theorem special_listiter {it l : Addr} {i : Nat} {items : Array Value} {x : Value} {Q : Option Value → Shared → Prop} (hit : s.heap.IsListIter it l i) (hl : s.heap.IsList l items) (hx : items[i]? = some x)
    (hQ : ∀ h', h'.IsListIter it l (i + 1) → Heap.SameBut it s.heap h' → Q (some x) { s with heap := h' }) :
    wpAny (model prog w) A (callSpecial? (.ref it) (Str.ofString "__next__")) Q E s := by
  obtain ⟨o, ho, hc, hd⟩ := id hit
  obtain ⟨ol, hol, _, nl, hdl⟩ := hl
  refine wpAny_callSpecial?_slot (name := Str.ofString "__next__") hit.typeIs slot_listiter_next
    (wpAny_call_entry slot_listiter_next hit.typeIs entry_listiter_next ?_ (args_listiter_next _))
  show wpAny _ _ (field (.ref it) 0 >>= _) _ _ s
  refine wpAny_bind (wpAny_field ho hd (x := .ref l) rfl ?_)
  show wpAny _ _ (if (Value.ref l == Value.none) = true then _ else _) _ _ s
  rw [if_neg (show ¬ ((Value.ref l == Value.none) = true) from Bool.false_ne_true)]
  show wpAny _ _ (field (.ref it) 1 >>= _) _ _ s
  refine wpAny_bind (wpAny_field ho hd (x := .int i 0) rfl ?_)
  show wpAny _ _ (seqItems? (.ref l) >>= _) _ _ s
  refine wpAny_bind (wpAny_seqItems hol hdl ?_)
  simp only [Int.toNat_natCast, hx]
  refine wpAny_bind (wpAny_setField ho hd (by simp) (wpAny_pure ⟨x, rfl, hQ _ ?_ (Heap.SameBut.update ..)⟩))
  exact ⟨_, Heap.get?_update_self _ ho (Obj.isFreed_of_fields (Obj.data_mapFields hd _)), (Obj.cls_mapFields ..).trans hc, by
    rw [Obj.data_mapFields hd]; simp [rawInt]⟩
theorem call_next_list {it l : Addr} {i : Nat} {items : Array Value} {x : Value} {Q : Value → Shared → Prop} (hit : s.heap.IsListIter it l i) (hl : s.heap.IsList l items) (hx : items[i]? = some x)
    (hQ : ∀ h', h'.IsListIter it l (i + 1) → Heap.SameBut it s.heap h' → Q x { s with heap := h' }) :
    wpAny (model prog w) A (call (.builtin "next") [.ref it]) Q E s := by
  refine call_function_entry (by decide +kernel) (by decide +kernel) W.kdk_entry_next (W.kdk_args_next _) ?_
  unfold Builtin.«next»
  refine wpAny_bind (m := someArgs "next" 1 2 _) (wpAny_of_eq (a := [Value.ref it]) (by first | rfl | kernel_rfl!) ?_)
  dsimp only
  refine wpAny_bind (wpAny_specialOf (name := Str.ofString "__next__") hit.typeIs slot_listiter_next.lookup ?_)
  refine wpAny_ite_split (fun hab => absurd hab (by decide)) (fun _ => ?_)
  refine wpAny_bind (special_listiter hit hl hx fun h' h1 h2 => ?_)
  exact wpAny_pure ⟨_, rfl, hQ h' h1 h2⟩
theorem call_iter_list {l : Addr} {items : Array Value} {Q : Value → Shared → Prop} (hl : s.heap.IsList l items)
    (hQ : Q (.ref s.heap.objs.size) { s with heap := s.heap.push { cls := .type "list_iterator", data := .fields #[.ref l, .int 0 0] } }) :
    wpAny (model prog w) A (call (.builtin "iter") [.ref l]) Q E s := by
  refine call_function_entry (by decide +kernel) (by decide +kernel) W.kdk_entry_iter (W.kdk_args_iter _) ?_
  unfold Builtin.«iter»
  refine wpAny_bind (m := someArgs "iter" 1 2 _) (wpAny_of_eq (a := [Value.ref l]) (by first | rfl | kernel_rfl!) ?_)
  show wpAny _ _ (pyIter (.ref l) >>= _) _ _ _
  exact wpAny_bind (wpAny_pyIter_list hl (wpAny_pure ⟨_, rfl, hQ⟩))
end
section
variable {G : Gd} {k : Nat} {κ : Scope} {F : Fm} {σ σ' : Sg} {Xo : Ou} {os os' : Os} {A : Around} {s s' : Shared}
/-- a built-in is called by its name on a name -/
theorem callB_name {f x : Str} {T : String} {p1 p2 q : Pos} {u : Value} (hv : EvV G κ F σ (.Name f p1) (.builtin T)) (hx : σ.lookup x = some (.raw u)) (hd : (x == ("__debug__" : Str)) = false)
    (hb : ∀ env, backTo q (starEach [Expr.Name x p2] env) = [(false, eval (.Name x p2) env)]) {E : Value → Shared → Prop} {Q : Value → Shared → Prop} (I : Inv G κ F σ Xo os s) (h : wpAny G.M A (call (.builtin T) [u]) Q E s) :
    wpAny G.M A (eval (.Call (.Name f p1) [.Name x p2] [] q) F.env) Q E s := by
  refine wpAny_Call_ofName (hv A Xo os s E _ I ?_)
  show wpAny G.M A (callWith q (.builtin T) [] (backTo q (starEach [Expr.Name x p2] F.env)) []) _ E s
  rw [hb]
  exact callWith_builtin rfl (evalArgs_plain (spliced_cons (wpAny_Name (I.load hx fun v hv => by cases hv; exact spliced_nil h) hd)))
theorem callT_name {f x : Str} {T : String} {p1 p2 q : Pos} {u : Value} (hv : EvV G κ F σ (.Name f p1) (.type T)) (hx : σ.lookup x = some (.raw u)) (hd : (x == ("__debug__" : Str)) = false)
    (hb : ∀ env, backTo q (starEach [Expr.Name x p2] env) = [(false, eval (.Name x p2) env)]) {E : Value → Shared → Prop} {Q : Value → Shared → Prop} (I : Inv G κ F σ Xo os s) (h : wpAny G.M A (call (.type T) [u]) Q E s) :
    wpAny G.M A (eval (.Call (.Name f p1) [.Name x p2] [] q) F.env) Q E s := by
  refine wpAny_Call_ofName (hv A Xo os s E _ I ?_)
  show wpAny G.M A (callWith q (.type T) [] (backTo q (starEach [Expr.Name x p2] F.env)) []) _ E s
  rw [hb]
  exact PySem.callWith_type rfl (evalArgs_plain (spliced_cons (wpAny_Name (I.load hx fun v hv => by cases hv; exact spliced_nil h) hd)))
/-- a def is called by its name on a name -/
theorem callF_name {f x : Str} {a : Addr} {o : Obj} {fd : FuncData} {p1 p2 q : Pos} {u : Value} (hv : EvV G κ F σ (.Name f p1) (.ref a)) (ho : G.hb.get? a = some o) (hf : o.data = .func fd) (hx : σ.lookup x = some (.raw u)) (hd : (x == ("__debug__" : Str)) = false)
    (hb : ∀ env, backTo q (starEach [Expr.Name x p2] env) = [(false, eval (.Name x p2) env)]) {E : Value → Shared → Prop} {Q : Value → Shared → Prop} (I : Inv G κ F σ Xo os s) (h : wpAny G.M A (call (.ref a) [u]) Q E s) :
    wpAny G.M A (eval (.Call (.Name f p1) [.Name x p2] [] q) F.env) Q E s := by
  refine wpAny_Call_ofName (hv A Xo os s E _ I ?_)
  show wpAny G.M A (callWith q (.ref a) [] (backTo q (starEach [Expr.Name x p2] F.env)) []) _ E s
  rw [hb]
  exact callWith_function (o := o) (fd := fd) (evalArgs_plain (spliced_cons (wpAny_Name (I.load hx fun v hv => by cases hv; exact spliced_nil ⟨⟨I.hb _ _ ho, hf⟩, h⟩) hd)))

/-- a statement that ends, with no list of the frame's own -/
theorem Ex1.plain {st : Stmt} (h : Ex1 G k κ F σ st (.next σ')) (hR : Room k A) (I : Inv G κ F σ Xo [] s) (hσ : ∀ x sl, σ'.lookup x = some sl → sl.isOwn = false) {E : Value → Shared → Prop} {Q : Flow → Shared → Prop}
    (hc : ∀ s', Inv G κ F σ' Xo [] s' → St (F.Y []) s s' → Q .next s') : wpAny G.M A (exec st F.env) Q E s :=
  wpAny_mono (h _ Xo [] s E hR I) (fun f s' q => by
    obtain ⟨g, os', ho, rfl, I'⟩ := q
    exact hc s' (I'.forget hσ) g) fun _ _ q => q
end
end Mine
end E25

noncomputable section E26
open PySem PySem.Calls PyProof.Rows
set_option Elab.async false
set_option linter.unusedVariables false
set_option maxRecDepth 100000
namespace Mine
noncomputable def TokBelow (n : Nat) (v : Value) : Prop := ∃ i t, v = .int i t ∧ t ≠ 0 ∧ t < n
section
variable {G : Gd} {k : Nat} {κ : Scope} {F : Fm} {σ σ' : Sg} {Xo : Ou} {os os' : Os} {A : Around} {s s' : Shared}
theorem Ev.modTok {l r : Expr} {a b : Int} {pos : Pos} (h1 : Ev G k κ F σ l (.int a)) (h2 : Ev G k κ F σ r (.int b)) (hb : b ≠ 0) (h0 : 0 < G.tk) :
    EvX G k κ F σ (.BinOp l .Mod r pos) (.int (a.fmod b)) [] [] TokBelow (fun _ => True) (fun _ => True) := fun A Xo os s E R I _ _ _ _ _ =>
  wpAny_BinOp (wp_st (β := Unit) (h1 A Xo os s E R I) fun v1 s1 g1 r1 => wp_st (β := Unit) (h2 A Xo os s1 E R (I.grow g1)) fun v2 s2 g2 r2 => by
    obtain ⟨t, rfl⟩ := r1.int'; obtain ⟨u, rfl⟩ := r2.int'
    have hi := ((I.grow g1).grow g2).inn.2
    exact mod_int hb ⟨(g1.trans g2).trans .tok, .ofInt, ⟨_, _, rfl, Nat.ne_of_gt (Nat.lt_of_lt_of_le h0 hi), Nat.lt_succ_self _⟩, trivial⟩)

theorem RepAll.below {X : List Addr} {h : Heap} {n : Nat} : ∀ {xs : List Int} {vs : List Value}, RepAll X h (xs.map D.int) vs → (∀ v ∈ vs, TokBelow n v) → RepAll X h (xs.map fun x => D.intT x fun t => t ≠ 0 ∧ t < n) vs
  | [], vs, r, _ => r
  | x :: xs, vs, r, hv => by
    simp only [List.map_cons, RepAll] at r
    obtain ⟨v, q, rfl, h1, h2⟩ := r
    obtain ⟨t, rfl⟩ := h1.int'
    obtain ⟨i, t', e, h3⟩ := hv _ (.head _)
    cases e
    exact .cons (.ofIntT h3) (RepAll.below h2 fun v hv' => hv v (.tail _ hv'))

/-- x = [..], ints, every token older than the clock behind it -/
theorem compTok {x : Str} {p : Pos} {elt target iter : Expr} {ifs : List Expr} {scope : Scope} {vals : List Int} {fr cf : List Str} {n : Nat} {bs : Nat → Sg} {outs : Nat → Option D} {cpos pos : Pos}
    (hit : EvI G k κ F target σ iter n bs) (hc : CompOk scope κ fr cf) (hσ : ∀ x sl, σ'.lookup x = some sl → x ∈ fr ∧ σ.lookup x = some sl ∧ sl.isOwn = false) (hfr : ∀ x ∈ fr, ∃ sl, σ.lookup x = some sl)
    (hown : ∀ F' : Fm, F'.cf = cf → OwnT (relabelK scope κ) F' target) (hbs : ∀ i, Sub σ' (bs i ++ σ'))
    (hturn : ∀ i, i < n → ∀ F' : Fm, F'.cf = cf → ∃ ok, EvTs G k (relabelK scope κ) F' (bs i ++ σ') ifs ok ∧ (ok = false → outs i = none) ∧ (ok = true → ∃ d, outs i = some d ∧ EvX G k (relabelK scope κ) F' (bs i ++ σ') elt d [] [] TokBelow (fun _ => True) (fun _ => True)))
    (hsz : n ≤ sizeLine) (hfs : ∀ env x, foldedSetIterable iter env x = pure x) (hres : upto outs n = vals.map D.int)
    (hk : Own κ F x) (hs : ∀ env : Env, env.scope = κ → swapsWith (.ListComp elt [⟨target, iter, ifs, 0⟩] scope cpos) (some (.Name x p)) pos.line env = pure false)
    {E : Value → Shared → Prop} (R : Room k A) (I : Inv G κ F σ Xo os s) :
    wpAny G.M A (exec (.Assign [.Name x p] (.ListComp elt [⟨target, iter, ifs, 0⟩] scope cpos) pos) F.env) (fun f s' => ∃ n, F.s0.toks ≤ n ∧ n + 0 ≤ s'.toks ∧ Post G κ F Xo os s (.next ((x, .val (.list (vals.map fun x => D.intT x fun t => t ≠ 0 ∧ t < n))) :: σ)) f s') E s := by
  refine wpAny_Assign_Name ?_ (hs _ I.scope)
  rw [eval_ListComp]
  refine comp_core (V := []) (gv := []) (PV := fun _ _ => True) (TP := TokBelow) hit hc hσ hfr hown hbs (fun i hi F' hF' => by
    obtain ⟨ok, h1, h2, h3⟩ := hturn i hi F' hF'
    exact ⟨ok, h1, fun q => ⟨h2 q, fun _ _ => trivial⟩, h3⟩) (fun n n' v ⟨i, t, e, h1, h2⟩ hn => ⟨i, t, e, h1, Nat.lt_of_lt_of_le h2 hn⟩) (fun _ _ _ _ _ => trivial) hsz hfs R I (fun b hb => nomatch hb) (fun b hb => nomatch hb) (fun b hb => nomatch hb) (fun b hb => nomatch hb) trivial
    fun a C vs m s' g ha hC hCa hpl hr hn _ htp => ⟨m, hn, fun h' hs' => ?_⟩
  rw [hres] at hr
  have gw : Stw [C] s' { s' with heap := h' } := .one hs'.extBut
  have g' : St [] s { s' with heap := h' } := g.w gw fun b hb => by rw [List.mem_singleton.mp hb]; exact hC
  have hr' : RepAll (F.X Xo os) h' (vals.map D.int) vs.toList := (hr.turn hs' (.head _)).sub fun b hb => .tail _ (.tail _ hb)
  refine (I.grow g').storeVal hk (d := .list (vals.map fun x => D.intT x fun t => t ≠ 0 ∧ t < s'.toks)) (.ofList (I.off ha) (hpl.extBut hs'.extBut (Ne.symm hCa)).isList (RepAll.below hr' htp)) fun s2 I2 g2 => ?_
  exact ⟨s'.toks, Nat.le_trans I.st.toks g.toks, g2.toks, g'.up.trans g2, os, fun _ h => .inl h, rfl, I2⟩
end
end Mine
end E26

noncomputable section E27
open PySem PySem.Calls PyProof.Rows
set_option Elab.async false
set_option linter.unusedVariables false
set_option maxRecDepth 100000
namespace Mine
section
variable {prog : Program} {w : World} {A : Around} {s : Shared}
structure Drn (it l S : Addr) (p : Nat) (items : Array Value) (s0 : Shared) (s : Shared) : Prop where
  drawn : s.drawn = s0.drawn
  os : s.os = s0.os
  toks : s0.toks ≤ s.toks
  gens : s.gens = s0.gens
  heap : ∀ b o, b ≠ S → b ≠ it → s0.heap.get? b = some o → s.heap.get? b = some o
theorem drained_feed {it l S : Addr} {p : Nat} {items : Array Value} {s0 : Shared} (hh : A.handled = none) (hSi : S ≠ it) (hSl : S ≠ l) (hx : items[p]? = none) :
    Feed prog w A it S 0 (fun i vs s => i = 0 ∧ vs = [] ∧ s.heap.IsListIter it l p ∧ s.heap.IsList l items ∧ Drn it l S p items s0 s) (fun vs s => vs = [] ∧ Drn it l S p items s0 s) "list_iterator" where
  ne := hSi
  typ i vs s J := J.2.2.1.typeIs
  ne1 := by decide
  ne2 := by decide
  hint s Q E J h := hint_listiter J.2.2.1.typeIs h
  len i vs s J := by rw [J.1, J.2.1]; rfl
  frame i vs s h' tk J ht hk hS := ⟨J.1, J.2.1, J.2.2.1.at fun o e => hk _ o (Ne.symm hSi) e, J.2.2.2.1.at fun o e => hk _ o (Ne.symm hSl) e, J.2.2.2.2.drawn, J.2.2.2.2.os, Nat.le_trans J.2.2.2.2.toks ht, J.2.2.2.2.gens, fun b o h1 h2 e => hk b o h1 (J.2.2.2.2.heap b o h1 h2 e)⟩
  item i vs s o Q E hi := by omega
  done vs s o Q E J hS hc hK := wpAny_pyNext_list_end hh J.2.2.1 J.2.2.2.1 hx fun h' hs' => hK _ ⟨J.2.1, J.2.2.2.2.drawn, J.2.2.2.2.os, J.2.2.2.2.toks, J.2.2.2.2.gens, fun b o h1 h2 e => hs' b o h2 (J.2.2.2.2.heap b o h1 h2 e)⟩ (hs' _ _ hSi hS)
  self i vs s Q E J hQ := wpAny_pyIter_listiter J.2.2.1 hQ
theorem call_drained {it l : Addr} {p : Nat} {items : Array Value} {E : Value → Shared → Prop} {Q : Value → Shared → Prop} (hh : A.handled = none) (hit : s.heap.IsListIter it l p) (hl : s.heap.IsList l items) (hx : items[p]? = none)
    (hQ : ∀ s' m, Stw [it] s s' → s.heap.get? s.heap.objs.size = none → s'.heap.get? s.heap.objs.size = some { cls := .type "list", data := .seq #[] m } → Q (.ref s.heap.objs.size) s') : wpAny (model prog w) A (call (.type "list") [.ref it]) Q E s := by
  have hd := get_size s.heap
  have hSi : s.heap.objs.size ≠ it := fun e => by obtain ⟨o, ho, _⟩ := id hit; rw [← e] at ho; have : s.heap.get? s.heap.objs.size = some o := ho; rw [hd] at this; cases this
  have hSl : s.heap.objs.size ≠ l := fun e => by obtain ⟨o, ho, _⟩ := id hl; rw [← e] at ho; have : s.heap.get? s.heap.objs.size = some o := ho; rw [hd] at this; cases this
  refine call_list_feed (drained_feed (s0 := s) (A := A.in1.in1) hh hSi hSl hx) (Nat.zero_le _) ⟨rfl, rfl, hit.at fun o e => Heap.get?_push_of_some _ e, hl.at fun o e => Heap.get?_push_of_some _ e, rfl, rfl, Nat.le_refl _, rfl, fun b o _ _ e => Heap.get?_push_of_some _ e⟩ fun vs' s' m hK hS => ?_
  obtain ⟨rfl, D⟩ := hK
  exact hQ s' m ⟨D.drawn, D.os, D.toks, ⟨[], by rw [D.gens]; simp, fun _ h => nomatch h⟩, fun b o hb e => D.heap b o (fun q => by rw [q, hd] at e; cases e) (fun q => hb (by rw [q]; exact .head _)) e⟩ hd hS
end
section
variable {G : Gd} {k : Nat} {κ : Scope} {F : Fm} {σ σ' : Sg} {Xo : Ou} {os os' : Os} {A : Around} {s s' : Shared}
/-- what lies around turns, and more lies around -/
theorem Inv.turnAround {V W : List Addr} (I : Inv G κ F σ Xo os s) (g : St V s s') (hV : ∀ b ∈ V, b ∈ Xo.xs) (hVZ : ∀ b ∈ V, b ∉ F.Z os) (hV0 : ∀ b ∈ V, F.s0.heap.get? b = none)
    (hW : ∀ b ∈ W, s.heap.get? b = none) (hWl : ∀ b ∈ W, ∃ o, s'.heap.get? b = some o) : Inv G κ F σ ⟨W ++ Xo.xs, Xo.gh⟩ os s' := by
  have I' := I.turnW g hV hVZ hV0
  have hVX : ∀ b ∈ V, b ∈ F.X Xo os := fun b hb => mem_X.mpr (.inr (.inr (.inr (hV b hb))))
  have hX : ∀ c ∈ F.X ⟨W ++ Xo.xs, Xo.gh⟩ os, c ∈ F.X Xo os ∨ c ∈ W := fun c hc => by
    rcases mem_X.mp hc with q | q | q | q
    · exact .inl (mem_X.mpr (.inl q))
    · exact .inl (mem_X.mpr (.inr (.inl q)))
    · exact .inl (mem_X.mpr (.inr (.inr (.inl q))))
    · rcases List.mem_append.mp q with q | q
      · exact .inr q
      · exact .inl (mem_X.mpr (.inr (.inr (.inr q))))
  have hX' : ∀ c ∈ F.X ⟨W ++ Xo.xs, Xo.gh⟩ os, c ∈ F.X Xo os ∨ s.heap.get? c = none := fun c hc => (hX c hc).imp id (hW c)
  have hk : ∀ a o, a ∉ F.X Xo os → s.heap.get? a = some o → s'.heap.get? a = some o := fun a o ha e => g.heap a o (fun q => ha (hVX a q)) e
  have hOs : ∀ x a, os.lookup x = some a → a ∉ V := fun x a ha h => hVZ _ h (mem_Z.mpr (.inr (.inr (List.mem_map_of_mem (f := (·.2)) (mem_of_lookup ha)))))
  exact {
    scope := I.scope, kind := I.kind, glob := I.glob, bi := I.bi, base := I.base, tk := I.tk
    st := I'.st, Lnew := I.Lnew, osnew := I.osnew, cfnew := I.cfnew
    live := fun b hb => (hX b hb).elim (I'.live b) (hWl b)
    ns := I'.ns, cells := I'.cells, cellinj := I.cellinj, ossep := I.ossep, osoff := I.osoff
    osout := fun p hp hm => by
      rcases List.mem_append.mp hm with q | q
      · obtain ⟨o, e⟩ := I.live p.2 (mem_X.mpr (.inr (.inr (.inl (List.mem_map_of_mem hp)))))
        rw [hW _ q] at e; cases e
      · exact I.osout p hp q
    ghost := fun p hp => Rep.move hk hX' (I.ghost p hp)
    var := fun x sl hx => by
      obtain ⟨v, hv, hsl⟩ := I.var x sl hx
      refine ⟨v, ?_, ?_⟩
      · unfold VarAt at hv ⊢
        split at hv
        · obtain ⟨m₂, hn₂, hm₂⟩ := hv
          exact ⟨_, hn₂.at fun o e => g.heap _ o (fun h => hVZ _ h (mem_Z.mpr (.inl rfl))) e, hm₂⟩
        · obtain ⟨c', hc', o, ho, hd⟩ := hv
          exact ⟨c', hc', o, g.heap _ o (fun h => hVZ _ h (mem_Z.mpr (.inr (.inl (cmem hc'))))) ho, hd⟩
        · exact hv
      · cases sl with
        | val d => exact Rep.move hk hX' hsl
        | raw u => exact hsl
        | own p xs =>
          obtain ⟨b, vs, h1, h2, h3, hp, h4⟩ := hsl
          have := hOs x b h1
          exact ⟨b, vs, h1, h2, h3.at fun o e => g.heap b o this e, fun q => (hp q).at fun o e => g.heap b o this e, RepAll.move hk hX' h4⟩ }
end
end Mine
end E27

noncomputable section C1
open PySem PySem.Calls PyProof.Rows
set_option Elab.async false
set_option linter.unusedVariables false
namespace Mine

/-- the given program's statements that its view holds -/
noncomputable def stOf (i : Nat) : Stmt := (PySem.Challenge.pw_ta0020_01.main.body[i]?).getD (.Pass default)
noncomputable abbrev pw : Program := { PySem.Challenge.pw_ta0020_01 with main := { PySem.Challenge.pw_ta0020_01.main with
  body := [stOf 1, stOf 3, stOf 4, stOf 5, stOf 7, stOf 8, stOf 9, stOf 10, stOf 11, stOf 12, stOf 13, stOf 14, stOf 15, stOf 16, stOf 18, stOf 19, stOf 20, stOf 21, stOf 22, stOf 24, stOf 25, stOf 26, stOf 27, stOf 28, stOf 29] } }
noncomputable abbrev stAt (i : Nat) : Stmt := (pw.main.body[i]?).getD (.Pass default)
noncomputable def rcOf : Stmt → DefRec
  | .FunctionDef name a b _ _ _ sc _ _ pos => ⟨name, a, b, sc, pos⟩
  | _ => ⟨"", default, [], default, default⟩
noncomputable def rcAt (i : Nat) : DefRec := rcOf (stAt i)
theorem rc_mem {d : DefRec} {st : Stmt} {f : Stmt → Option DefRec} (hf : recsOf pw = pw.main.body.filterMap f) (i : Nat) (h : pw.main.body[i]? = some st) (e : f st = some d) : d ∈ recsOf pw := by
  rw [hf]; exact List.mem_filterMap.mpr ⟨st, List.mem_of_getElem? h, e⟩
set_option maxRecDepth 100000
theorem m_add : rcAt 4 ∈ recsOf pw := rc_mem rfl 4 rfl rfl
variable {G : Gd} {k : Nat} {loose : List Str} {mean : ExcName → Option Value} {mg mb : Str → Option Value}
theorem c_add (T : Top pw loose mean mg mb G.hb) (a b : Int) : FnAt G mg (k + 1) "add" [.int a, .int b] (.int (a + b)) :=
  FnAt.mk T (rc := rcAt 4) (names := ["a", "b"]) (cf := []) m_add (fun pm code doc => bind2 fun a b => rfl) rfl (by intro x hx; simp at hx; rcases hx with rfl | rfl <;> rfl) rfl rfl (fun n => rfl) (by decide) (by decide) rfl
    fun F hF => Ex.one (Ex1.ret (Ev.bin (Ev.name rfl rfl) (Ev.name rfl rfl) Op2.addI))
end Mine
end C1

noncomputable section C2
open PySem PySem.Calls PyProof.Rows
set_option Elab.async false
set_option linter.unusedVariables false
set_option maxRecDepth 100000
namespace Mine
variable {G : Gd} {k : Nat} {loose : List Str} {mean : ExcName → Option Value} {mg mb : Str → Option Value}
theorem c_and (T : Top pw loose mean mg mb G.hb) (a b : Int) : FnAt G mg (k + 1) "and_" [.int a, .int b] (.int (Builtin.bitAnd a b)) :=
  FnAt.mk T (rc := rcAt 5) (names := ["a", "b"]) (cf := []) (rc_mem rfl 5 rfl rfl) (fun pm code doc => bind2 fun a b => rfl) rfl (by intro x hx; simp at hx; rcases hx with rfl | rfl <;> rfl) rfl rfl (fun n => rfl) (by decide) (by decide) rfl
    fun F hF => Ex.one (Ex1.ret (Ev.bin (Ev.name rfl rfl) (Ev.name rfl rfl) Op2.andI))
theorem c_mul (T : Top pw loose mean mg mb G.hb) (a b : Int) (h : IntMulOk a b) : FnAt G mg (k + 1) "mul" [.int a, .int b] (.int (a * b)) :=
  FnAt.mk T (rc := rcAt 6) (names := ["a", "b"]) (cf := []) (rc_mem rfl 6 rfl rfl) (fun pm code doc => bind2 fun a b => rfl) rfl (by intro x hx; simp at hx; rcases hx with rfl | rfl <;> rfl) rfl rfl (fun n => rfl) (by decide) (by decide) rfl
    fun F hF => Ex.one (Ex1.ret (Ev.bin (Ev.name rfl rfl) (Ev.name rfl rfl) (Op2.mulI h)))
theorem c_neg (T : Top pw loose mean mg mb G.hb) (a : Int) : FnAt G mg (k + 1) "neg" [.int a] (.int (-a)) :=
  FnAt.mk T (rc := rcAt 7) (names := ["a"]) (cf := []) (rc_mem rfl 7 rfl rfl) (fun pm code doc => bind1 fun a => rfl) rfl (by intro x hx; simp at hx; rcases hx with rfl <;> rfl) rfl rfl (fun n => rfl) (by decide) (by decide) rfl
    fun F hF => Ex.one (Ex1.ret (Ev.neg (Ev.name rfl rfl)))
theorem c_rshift (T : Top pw loose mean mg mb G.hb) (a n : Int) (h : 0 ≤ n) : FnAt G mg (k + 1) "rshift" [.int a, .int n] (.int (a.fdiv (2 ^ n.toNat))) :=
  FnAt.mk T (rc := rcAt 8) (names := ["a", "b"]) (cf := []) (rc_mem rfl 8 rfl rfl) (fun pm code doc => bind2 fun a b => rfl) rfl (by intro x hx; simp at hx; rcases hx with rfl | rfl <;> rfl) rfl rfl (fun n => rfl) (by decide) (by decide) rfl
    fun F hF => Ex.one (Ex1.ret (Ev.bin (Ev.name rfl rfl) (Ev.name rfl rfl) (Op2.shrI h)))
theorem c_getitemL (T : Top pw loose mean mg mb G.hb) (xs : List D) (i : Nat) (d : D) (hd : xs[i]? = some d) (hl : xs.length ≤ sizeLine) : FnAt G mg (k + 1) "getitem" [.list xs, .int i] d :=
  FnAt.mk T (rc := rcAt 11) (names := ["a", "b"]) (cf := []) (rc_mem rfl 11 rfl rfl) (fun pm code doc => bind2 fun a b => rfl) rfl (by intro x hx; simp at hx; rcases hx with rfl | rfl <;> rfl) rfl rfl (fun n => rfl) (by decide) (by decide) rfl
    fun F hF => Ex.one (Ex1.ret (Ev.item (Ev.name rfl rfl) (Ev.name rfl rfl) hd hl (fun _ _ => rfl)))
theorem c_getitemS (T : Top pw loose mean mg mb G.hb) (x : Str) (i : Int) (c : Nat) (hr : (decide (i < -2 ^ 63) || decide (i ≥ 2 ^ 63)) = false) (hc : ((seqIndex? i x.length).bind fun j => x.cps[j]?) = some c) : FnAt G mg (k + 1) "getitem" [.str x, .int i] (.str ⟨#[c]⟩) :=
  FnAt.mk T (rc := rcAt 11) (names := ["a", "b"]) (cf := []) (rc_mem rfl 11 rfl rfl) (fun pm code doc => bind2 fun a b => rfl) rfl (by intro x hx; simp at hx; rcases hx with rfl | rfl <;> rfl) rfl rfl (fun n => rfl) (by decide) (by decide) rfl
    fun F hF => Ex.one (Ex1.ret (Ev.sign (Ev.name rfl rfl) (Ev.name rfl rfl) hr hc (fun _ _ => rfl)))

end Mine
end C2

noncomputable section C3
open PySem PySem.Calls PyProof.Rows
set_option Elab.async false
set_option linter.unusedVariables false
set_option maxRecDepth 100000
namespace Mine
variable {G : Gd} {k : Nat} {loose : List Str} {mean : ExcName → Option Value} {mg mb : Str → Option Value}


noncomputable def octs (n : Nat) : Nat → List Int
  | 0 => [((n % 64 : Nat) : Int)]
  | i + 1 => ((64 + n / 64 ^ (i + 1) % 64 : Nat) : Int) :: octs n i
theorem octs_length (n : Nat) : ∀ i, (octs n i).length = i + 1
  | 0 => rfl
  | i + 1 => by rw [octs, List.length_cons, octs_length n i]

theorem ediv64 (n i : Nat) : Int.fdiv ((n / 64 ^ i : Nat) : Int) 64 = ((n / 64 ^ (i + 1) : Nat) : Int) := by
  rw [Int.fdiv_eq_ediv_of_nonneg _ (by decide), Nat.pow_succ, ← Nat.div_div_eq_div_mul]
  rfl
theorem emod64 (m : Nat) : Int.fmod (m : Int) 64 = ((m % 64 : Nat) : Int) := by
  rw [Int.fmod_eq_emod_of_nonneg _ (by decide)]
  rfl

noncomputable def sgOct (n i : Nat) : Sg := [("digits", .val (.list (dI (octs n i)))), ("number", .val (.int ((n / 64 ^ i : Nat) : Int)))]
theorem c_octets (T : Top pw loose mean mg mb G.hb) (n t : Nat) (ht : ∀ i, i < t → 63 < n / 64 ^ i) (hf : n / 64 ^ t ≤ 63) (hb : t < 1000) :
    FnAt G mg (k + 1) "_law_octets" [.int (n : Int)] (.list (dI (octs n t))) :=
  FnAt.mk T (rc := rcAt 19) (names := ["number"]) (cf := []) (rc_mem rfl 19 rfl rfl) (fun pm code doc => bind1 fun a => rfl) rfl (by intro x hx; simp at hx; rcases hx with rfl <;> rfl) rfl rfl (fun n => rfl) (by decide) (by decide) rfl
    fun F hF => by
      refine Ex.cons (σ' := sgOct n 0) (Ex1.post (Ex1.assign (d := .list (dI (octs n 0))) ((Ev.list (.cons (Ev.bin (Ev.name rfl rfl) Ev.int (Op2.modI (by decide))) (fun _ => rfl) .nil) (fun _ => rfl) (PySem.W.kdl_size (by simp))).cast ?_) (.inl rfl) (fun _ => rfl)) ?_) ?_
      · show _ = D.list [.int ((n % 64 : Nat) : Int)]
        rw [emod64]
      · exact .cons rfl (.cons (by rw [Nat.pow_zero, Nat.div_one]; rfl) .nil)
      refine Ex.cons (Ex1.while (n := t) (σs := sgOct n) (fun i hi => ?_) (fun i hi => ?_) ?_) (Ex.one (Ex1.ret (Ev.name rfl rfl)))
      · exact (EvT.cmp (Ev.name rfl rfl).w Ev.int.w OpC.gtI rfl).cast (decide_eq_true (Int.ofNat_lt.mpr (ht i hi)))
      · refine ⟨_, Ex.cons (Ex1.assign (d := .int ((n / 64 ^ (i + 1) : Nat) : Int)) ((Ev.bin (Ev.name rfl rfl) Ev.int (Op2.divI (by decide) (PyProof.noPylong_small (by decide)))).cast ?_) (.inl rfl) (fun _ => rfl))
          (Ex.one (Ex1.assign (d := .list (dI (octs n (i + 1)))) ((Ev.bin (Ev.list (.cons (Ev.bin Ev.int (Ev.bin (Ev.name rfl rfl) Ev.int (Op2.modI (by decide))) Op2.addI) (fun _ => rfl) .nil) (fun _ => rfl) (PySem.W.kdl_size (by simp))) (Ev.name rfl rfl) (Op2.addL ?_)).cast ?_) (.inl rfl) (fun _ => rfl))), .cons rfl (.cons rfl .nil)⟩
        · rw [ediv64]
        · rw [sizeLine_eq]; simp [dI, octs_length]; omega
        · rw [emod64]; rfl
      · exact (EvT.cmp (Ev.name rfl rfl).w Ev.int.w OpC.gtI rfl).cast (decide_eq_false (fun h => by have := Int.ofNat_lt.mp h; omega))
end Mine
end C3

noncomputable section C4
open PySem PySem.Calls PyProof.Rows
set_option Elab.async false
set_option linter.unusedVariables false
set_option maxRecDepth 100000
namespace Mine
noncomputable abbrev lo : List Str := [Str.ofString "COMPILER_FLAG_NAMES"]
section
variable {G : Gd} {k : Nat} {mean : ExcName → Option Value} {mg mb : Str → Option Value}

theorem boot (T : Top pw lo mean mg mb G.hb) {x : Str} {v : Value} (h : (startupNames.contains x || lo.contains x || ((recsOf pw).map (·.name)).contains x || ((litsOf pw).map (·.1)).contains x || ((clssOf pw lo).map (·.name)).contains x || x == "__name__") = false)
    (hb : bootBuiltins x = some v) : mg x = none ∧ mb x = some v := by
  simp only [Bool.or_eq_false_iff, List.contains_eq_mem, decide_eq_false_iff_not] at h
  obtain ⟨⟨⟨⟨⟨h1, h2⟩, h3⟩, h4⟩, h5⟩, h6⟩ := h
  exact ⟨T.free x h1 h2 h3 h4 h5, by rw [T.builtins x (by simpa using h6)]; exact hb⟩
theorem b_zip (T : Top pw lo mean mg mb G.hb) : mg "zip" = none ∧ mb "zip" = some (.type "zip") := boot T (by decide +kernel) (by decide +kernel)
theorem b_range (T : Top pw lo mean mg mb G.hb) : mg "range" = none ∧ mb "range" = some (.type "range") := boot T (by decide +kernel) (by decide +kernel)
theorem b_enumerate (T : Top pw lo mean mg mb G.hb) : mg "enumerate" = none ∧ mb "enumerate" = some (.type "enumerate") := boot T (by decide +kernel) (by decide +kernel)
theorem b_list (T : Top pw lo mean mg mb G.hb) : mg "list" = none ∧ mb "list" = some (.type "list") := boot T (by decide +kernel) (by decide +kernel)
theorem b_len (T : Top pw lo mean mg mb G.hb) : mg "len" = none ∧ mb "len" = some (.builtin "len") := boot T (by decide +kernel) (by decide +kernel)
theorem b_abs (T : Top pw lo mean mg mb G.hb) : mg "abs" = none ∧ mb "abs" = some (.builtin "abs") := boot T (by decide +kernel) (by decide +kernel)
theorem b_min (T : Top pw lo mean mg mb G.hb) : mg "min" = none ∧ mb "min" = some (.builtin "min") := boot T (by decide +kernel) (by decide +kernel)
theorem b_hex (T : Top pw lo mean mg mb G.hb) : mg "hex" = none ∧ mb "hex" = some (.builtin "hex") := boot T (by decide +kernel) (by decide +kernel)
theorem b_iter (T : Top pw lo mean mg mb G.hb) : mg "iter" = none ∧ mb "iter" = some (.builtin "iter") := boot T (by decide +kernel) (by decide +kernel)
theorem b_next (T : Top pw lo mean mg mb G.hb) : mg "next" = none ∧ mb "next" = some (.builtin "next") := boot T (by decide +kernel) (by decide +kernel)
end
end Mine
end C4

noncomputable section C5
open PySem PySem.Calls PyProof.Rows
set_option Elab.async false
set_option linter.unusedVariables false
set_option maxRecDepth 100000
namespace Mine
section
variable {G : Gd} {k : Nat} {mean : ExcName → Option Value} {mg mb : Str → Option Value}

noncomputable def prodStep (row : List Int) (s : Int) : List Int := List.zipWith (fun a b => a + s * b) (row ++ [0]) (0 :: row)
noncomputable def prodOf (signs : List Int) : List Int := signs.foldl prodStep [1]
theorem prodStep_length (row : List Int) (s : Int) : (prodStep row s).length = row.length + 1 := by simp [prodStep]
theorem foldl_prod_length : ∀ (signs row : List Int), (signs.foldl prodStep row).length = row.length + signs.length
  | [], row => rfl
  | s :: r, row => by rw [List.foldl_cons, foldl_prod_length r, prodStep_length, List.length_cons]; omega
theorem take_succ' (signs : List Int) (i : Nat) (h : i < signs.length) : signs.take (i + 1) = signs.take i ++ [signs.getD i 0] := by
  rw [List.take_succ, List.getD_eq_getElem?_getD, List.getElem?_eq_getElem h]; rfl

noncomputable def sgProd (signs : List Int) (i : Nat) : Sg := [("row", .val (.list (dI (prodOf (signs.take i))))), ("signs", .val (.list (dI signs)))]
theorem c_product (T : Top pw lo mean mg mb G.hb) (signs : List Int) (hs : ∀ s ∈ signs, s = 1 ∨ s = -1) (hl : signs.length ≤ 1000) :
    FnAt G mg (k + 1) "_law_product" [.list (dI signs)] (.list (dI (prodOf signs))) :=
  FnAt.mk T (rc := rcAt 21) (names := ["signs"]) (cf := ["sign"]) (rc_mem rfl 21 rfl rfl) (fun pm code doc => bind1 fun a => rfl) rfl (by intro x hx; simp at hx; rcases hx with rfl <;> rfl) rfl rfl (fun n => rfl) (by decide) (by decide) rfl
    fun F hF => by
      refine Ex.cons (σ' := sgProd signs 0) (Ex1.post (Ex1.assign (d := .list (dI [1])) ((Ev.list (.cons Ev.int (fun _ => rfl) .nil) (fun _ => rfl) (PySem.W.kdl_size (by decide)))) (.inl rfl) (fun _ => rfl)) (.cons rfl (.cons rfl .nil))) ?_
      refine Ex.cons (σ' := sgProd signs signs.length) (Ex1.for (n := signs.length) (m := signs.length) (σs := sgProd signs) (bs := Out1 "sign" (dI signs)) ?_ (.inr ⟨rfl, by rw [hF]; exact .head _⟩) (fun _ _ => rfl) (Nat.le_refl _) (fun i hi => ?_) (.inl ⟨rfl, Ex.nil⟩)) (Ex.one (Ex1.ret ?_))
      · exact EvI.list1 (ds := dI signs) (Ev.name rfl rfl) |> fun h => by rw [dI_length] at h; exact h
      · have e : Out1 "sign" (dI signs) i = ([("sign", .val (.int (signs.getD i 0)))] : Sg) := by unfold Out1; rw [dI_getD hi]
        rw [e]
        have hsi : signs.getD i 0 = 1 ∨ signs.getD i 0 = -1 := hs _ (by rw [List.getD_eq_getElem?_getD, List.getElem?_eq_getElem hi]; exact List.getElem_mem hi)
        have hlen : (prodOf (signs.take i)).length ≤ 1001 := by unfold prodOf; rw [foldl_prod_length]; simp; omega
        refine ⟨_, Ex.one (Ex1.comp (σ' := [("sign", .val (.int (signs.getD i 0)))]) (Comp.zipI (xs := prodOf (signs.take i) ++ [0]) (ys := 0 :: prodOf (signs.take i)) (fr := ["sign"]) (fun a b => a + signs.getD i 0 * b)
          (EvV.builtin T.g (b_zip T).1 T.b (b_zip T).2 rfl rfl) (.cons ((Ev.bin (Ev.name rfl rfl) (Ev.list (.cons Ev.int (fun _ => rfl) .nil) (fun _ => rfl) (PySem.W.kdl_size (by simp))) (Op2.addL (PySem.W.kdl_size (by simp [dI]; omega)))).cast (by simp [dI])) (fun _ => rfl)
            (.cons ((Ev.bin (Ev.list (.cons Ev.int (fun _ => rfl) .nil) (fun _ => rfl) (PySem.W.kdl_size (by simp))) (Ev.name rfl rfl) (Op2.addL (PySem.W.kdl_size (by simp [dI]; omega)))).cast (by simp [dI])) (fun _ => rfl) .nil))
          ⟨rfl, by decide +kernel, rfl, by decide +kernel, by decide +kernel, .inl ⟨rfl, by decide +kernel⟩⟩ (fun x sl h => ?_) (by intro x hx; rw [List.mem_singleton.mp hx]; exact ⟨_, rfl⟩) rfl rfl (fun i => .cons rfl .nil) (PySem.W.kdl_size (by simp; omega)) (fun x y F' hF' hx hy => ?_) (fun _ => rfl) (fun _ => ⟨_, _, rfl⟩) (fun _ => rfl) (fun _ _ => rfl)) (.inl rfl) ?_), .cons ?_ (.cons rfl .nil)⟩
        · rcases lookup_cons' h with ⟨rfl, rfl⟩ | ⟨-, h⟩
          · exact ⟨.head _, rfl, rfl⟩
          · simp at h
        · exact Ev.bin (Ev.name rfl rfl) (Ev.bin (Ev.name rfl rfl) (Ev.name rfl rfl) (Op2.mulI (IntMulOk.of_left (by rcases hsi with h | h <;> rw [h] <;> decide)))) Op2.addI
        · exact fun env h => swaps_true h rfl rfl rfl (by decide +kernel)
        · rw [take_succ' _ _ hi]
          simp only [prodOf, List.foldl_append, List.foldl_cons, List.foldl_nil]
          rfl
      · refine (Ev.name rfl rfl).cast ?_
        rw [List.take_length]
end
end Mine
end C5

noncomputable section C6
open PySem PySem.Calls PyProof.Rows
set_option Elab.async false
set_option linter.unusedVariables false
set_option maxRecDepth 100000
namespace Mine
section
variable {G : Gd} {k : Nat} {mean : ExcName → Option Value} {mg mb : Str → Option Value}

theorem g_int (T : Top pw lo mean mg mb G.hb) {x : Str} {i : Int} (h : valOf pw x = some (.int i)) : ∃ t, mg x = some (.int i t) := by
  obtain ⟨v, hv, hr⟩ := T.const x _ h
  have := hr G.hb
  cases this
  exact ⟨_, hv⟩
theorem Ev.const {κ : Scope} {F : Fm} {σ : Sg} {x : Str} {i : Int} {p : Pos} (T : Top pw lo mean mg mb G.hb) (h : valOf pw x = some (.int i)) (hk : κ.names.lookup x = some .globalImplicit) (hd : (x == ("__debug__" : Str)) = false) : Ev G k κ F σ (.Name x p) (.int i) := by
  obtain ⟨t, ht⟩ := g_int T h
  exact Ev.global (EvV.global T.g ht hk hd) fun X h => .ofInt
theorem v_max : valOf pw "_MAX_STRING_SIZE" = some (.int 40) := rfl
theorem v_move : valOf pw "_MOVE_COST" = some (.int 2) := rfl
theorem v_case : valOf pw "_CASE_COST" = some (.int 1) := rfl

noncomputable def substC (x y : Str) : Int := if (x == y) = true then 0 else if (Txt.lower x == Txt.lower y) = true then 1 else 2
theorem c_subst (T : Top pw lo mean mg mb G.hb) (x y : Str) (hx : Builtin.Str.tooLong (Txt.lower x).length = false) (hy : Builtin.Str.tooLong (Txt.lower y).length = false) :
    FnAt G mg (k + 1) "_substitution_cost" [.str x, .str y] (.int (substC x y)) :=
  FnAt.mk T (rc := rcAt 17) (names := ["ch_a", "ch_b"]) (cf := []) (rc_mem rfl 17 rfl rfl) (fun pm code doc => bind2 fun a b => rfl) rfl (by intro x hx; simp at hx; rcases hx with rfl | rfl <;> rfl) rfl rfl (fun n => rfl) (by decide) (by decide) rfl
    fun F hF => by
      unfold substC
      by_cases h1 : (x == y) = true
      · rw [if_pos h1]
        exact Ex.stop (Ex1.if_t ((EvT.cmp (Ev.name rfl rfl).w (Ev.name rfl rfl).w OpC.eqS rfl).cast h1) (Ex.one (Ex1.ret Ev.int))) fun _ e => nomatch e
      · rw [if_neg h1]
        refine Ex.cons (Ex1.if_f ((EvT.cmp (Ev.name rfl rfl).w (Ev.name rfl rfl).w OpC.eqS rfl).cast (by simpa using h1)) Ex.nil) ?_
        by_cases h2 : (Txt.lower x == Txt.lower y) = true
        · rw [if_pos h2]
          exact Ex.stop (Ex1.if_t ((EvT.cmp (Ev.lower (Ev.name rfl rfl) hx (fun _ => rfl) rfl).w (Ev.lower (Ev.name rfl rfl) hy (fun _ => rfl) rfl).w OpC.eqS rfl).cast h2) (Ex.one (Ex1.ret (Ev.const T v_case rfl rfl)))) fun _ e => nomatch e
        · rw [if_neg h2]
          refine Ex.cons (Ex1.if_f ((EvT.cmp (Ev.lower (Ev.name rfl rfl) hx (fun _ => rfl) rfl).w (Ev.lower (Ev.name rfl rfl) hy (fun _ => rfl) rfl).w OpC.eqS rfl).cast (by simpa using h2)) Ex.nil) ?_
          exact Ex.one (Ex1.ret (Ev.const T v_move rfl rfl))
end
end Mine
end C6

noncomputable section C7
open PySem PySem.Calls PyProof.Rows
set_option Elab.async false
set_option linter.unusedVariables false
set_option maxRecDepth 100000
namespace Mine

noncomputable def sFrom (x : Str) (i : Nat) : Str := Txt.slice x (some (i : Int)) none
noncomputable def sUpto (x : Str) (j : Nat) : Str := if j = 0 then Txt.slice x none none else Txt.slice x none (some (-(j : Int)))
noncomputable def chAt (x : Str) (i : Int) : Option Nat := (seqIndex? i x.length).bind fun j => x.cps[j]?
noncomputable def one (c : Nat) : Str := ⟨#[c]⟩
structure PreGo (x y : Str) (i : Nat) (c d : Nat) : Prop where
  x0 : ((sFrom x i).length : Int) ≠ 0
  y0 : ((sFrom y i).length : Int) ≠ 0
  xc : chAt x i = some c
  yd : chAt y i = some d
structure PostGo (x y : Str) (j : Nat) (c d : Nat) : Prop where
  x0 : ((sUpto x j).length : Int) ≠ 0
  y0 : ((sUpto y j).length : Int) ≠ 0
  xc : chAt x (-(j : Int) - 1) = some c
  yd : chAt y (-(j : Int) - 1) = some d

structure DP where
  row : List Int
  dist : Int
  res : Int
  mn : Int
noncomputable def bigM : Int := 9223372036854775807
noncomputable def DP.step (cost : Nat → Int) (st : DP) (j : Nat) : DP :=
  let sub := st.dist + cost j
  let d := st.row.getD j 0
  let ins := (if d < st.res then d else st.res) + 2
  let r := if sub < ins then sub else ins
  ⟨st.row.set j r, d, r, if r < st.mn then r else st.mn⟩
noncomputable def DP.run (cost : Nat → Int) (st : DP) : Nat → DP
  | 0 => st
  | n + 1 => (DP.run cost st n).step cost n
noncomputable def DP.start (row : List Int) (i : Nat) : DP := ⟨row, (i : Int) * 2, (i : Int) * 2, bigM⟩
/-- the row and the result after i turns -/
noncomputable def outer (cost : Nat → Nat → Int) (la : Nat) (row0 : List Int) : Nat → List Int × Int
  | 0 => (row0, 0)
  | i + 1 => let st := DP.run (cost i) (DP.start (outer cost la row0 i).1 i) la; (st.row, st.res)
theorem run_length (cost : Nat → Int) (st : DP) : ∀ n, (DP.run cost st n).row.length = st.row.length
  | 0 => rfl
  | n + 1 => by rw [DP.run, DP.step]; simp [run_length cost st n]
theorem outer_length (cost : Nat → Nat → Int) (la : Nat) (row0 : List Int) : ∀ n, (outer cost la row0 n).1.length = row0.length
  | 0 => rfl
  | n + 1 => by rw [outer]; simp only [run_length]; exact outer_length cost la row0 n
noncomputable def row0 (la : Nat) : List Int := (List.range la).map fun i : Nat => 2 + (i : Int) * 2
section
variable {G : Gd} {k : Nat} {mean : ExcName → Option Value} {mg mb : Str → Option Value} {κ : Scope} {F : Fm} {σ : Sg}
theorem Ev.upto {e : Expr} {x : Str} {j : Nat} {p pos : Pos} {n : Str} {np cpos bpos : Pos} {c : Nat} (h : Ev G k κ F σ e (.str x)) (hj : σ.lookup n = some (.val (.int (-(j : Int))))) (hd : (n == ("__debug__" : Str)) = false) (hsz : x.length ≤ sizeLine) :
    Ev G k κ F σ (.Subscript e (.Slice Option.none (some (.BoolOp .Or [.Name n np, .Constant .none c cpos] bpos)) Option.none p) pos) (.str (sUpto x j)) := by
  unfold sUpto
  by_cases q : j = 0
  · subst q
    rw [if_pos rfl]
    exact Ev.sliceAll h (Ev.or2_f (Ev.name hj hd) OpT.int Ev.none) hsz
  · rw [if_neg q]
    have e : (-(j : Int) != 0) = true := by simp; omega
    exact Ev.sliceTo h (Ev.or2_t (Ev.name hj hd) (e ▸ OpT.int)) hsz

noncomputable def sgPre (x y : Str) (i : Nat) : Sg := [("pre", .val (.int (i : Int))), ("a", .val (.str x)), ("b", .val (.str y)), ("max_cost", .val (.int 4))]
noncomputable def sgPost (x y : Str) (j : Nat) : Sg := [("post", .val (.int (-(j : Int)))), ("a", .val (.str x)), ("b", .val (.str y)), ("max_cost", .val (.int 4))]
theorem len_ne {x : Str} (h : (x.length : Int) ≠ 0) : (((x.length : Nat) : Int) != 0) = true := by simpa using h

theorem EvT.strNe {e : Expr} {x : Str} (h : Ev G k κ F σ e (.str x)) (hsz : x.length ≤ sizeLine) (h0 : (x.length : Int) ≠ 0) (he : ∀ env whole, PySem.isTrue e env whole = (do let v ← whole; standAt (Expr.pos e); holding [v] (truthy v))) : EvT G k κ F σ e true :=
  (EvT.value h.w (OpT.str hsz) (he _)).cast (len_ne h0)

theorem slice_len (x : Str) (l u : Option Int) (h : x.length ≤ 1000) : (Txt.slice x l u).length ≤ sizeLine := PySem.W.kdl_size (Nat.le_trans (Txt.slice_le x l u) (by omega))
theorem sUpto_len (x : Str) (i : Nat) (h : x.length ≤ 1000) : (sUpto x i).length ≤ 1000 := by
  unfold sUpto; split <;> exact Nat.le_trans (Txt.slice_le x _ _) h

theorem lev_pre {x y : Str} {t : Nat} {c d : Nat → Nat} (hx : x.length ≤ 1000) (hy : y.length ≤ 1000) (ht : t ≤ 1000) (hgo : ∀ i, i < t → PreGo x y i (c i) (c i)) (hstop : PreGo x y t (c t) (d t)) (hne : c t ≠ d t) :
    ∃ w, (rcAt 18).body[2]? = some w ∧ ∀ F, F.cf = [] → Ex1 G k (rcAt 18).scope F (sgPre x y 0) w (.next (sgPre x y t)) := by
  refine ⟨_, rfl, fun F hF => Ex1.while (n := t) (σs := sgPre x y) (fun i hi => ?_) (fun i hi => ⟨_, Ex.one (Ex1.aug rfl Ev.int Op2i.addI (.inl rfl)), .cons rfl (.cons rfl (.cons rfl (.cons rfl .nil)))⟩) ?_⟩
  · have g := hgo i hi
    refine EvT.boolop (EvB.and_go (EvT.strNe (Ev.sliceFrom (Ev.name rfl rfl) (Ev.name rfl rfl) (PySem.W.kdl_size (by omega))) (slice_len _ _ _ hx) g.x0 (fun _ _ => rfl)) (EvB.and_go (EvT.strNe (Ev.sliceFrom (Ev.name rfl rfl) (Ev.name rfl rfl) (PySem.W.kdl_size (by omega))) (slice_len _ _ _ hy) g.y0 (fun _ _ => rfl)) (EvB.and_go ?_ EvB.and_nil)))
    refine (EvT.cmp (Ev.sign (Ev.name rfl rfl) (Ev.name rfl rfl) (by simp; omega) g.xc (fun _ _ => rfl)).w (Ev.sign (Ev.name rfl rfl) (Ev.name rfl rfl) (by simp; omega) g.yd (fun _ _ => rfl)).w OpC.eqS rfl).cast (by simp)
  · have g := hstop
    refine EvT.boolop (EvB.and_go (EvT.strNe (Ev.sliceFrom (Ev.name rfl rfl) (Ev.name rfl rfl) (PySem.W.kdl_size (by omega))) (slice_len _ _ _ hx) g.x0 (fun _ _ => rfl)) (EvB.and_go (EvT.strNe (Ev.sliceFrom (Ev.name rfl rfl) (Ev.name rfl rfl) (PySem.W.kdl_size (by omega))) (slice_len _ _ _ hy) g.y0 (fun _ _ => rfl)) (EvB.and_stop ?_)))
    refine (EvT.cmp (Ev.sign (Ev.name rfl rfl) (Ev.name rfl rfl) (by simp; omega) g.xc (fun _ _ => rfl)).w (Ev.sign (Ev.name rfl rfl) (Ev.name rfl rfl) (by simp; omega) g.yd (fun _ _ => rfl)).w OpC.eqS rfl).cast ?_
    rw [beq_eq_false_iff_ne]; intro h; injection h with h; simp at h; exact hne h
end
end Mine
end C7

noncomputable section C8
open PySem PySem.Calls PyProof.Rows
set_option Elab.async false
set_option linter.unusedVariables false
set_option maxRecDepth 100000
namespace Mine
section
variable {G : Gd} {k : Nat} {mean : ExcName → Option Value} {mg mb : Str → Option Value} {κ : Scope} {F : Fm} {σ : Sg}

theorem lev_post {x y : Str} {t : Nat} {c d : Nat → Nat} (hx : x.length ≤ 1000) (hy : y.length ≤ 1000) (ht : t ≤ 1000) (hgo : ∀ i, i < t → PostGo x y i (c i) (c i)) (hstop : PostGo x y t (c t) (d t)) (hne : c t ≠ d t) :
    ∃ w, (rcAt 18).body[6]? = some w ∧ ∀ F, F.cf = [] → Ex1 G k (rcAt 18).scope F (sgPost x y 0) w (.next (sgPost x y t)) := by
  refine ⟨_, rfl, fun F hF => Ex1.while (n := t) (σs := sgPost x y) (fun i hi => ?_) (fun i hi => ⟨_, Ex.one (Ex1.aug rfl Ev.int Op2i.subI (.inl rfl)), .cons (by rw [show -((i + 1 : Nat) : Int) = -(i : Int) - 1 by omega]; rfl) (.cons rfl (.cons rfl (.cons rfl .nil)))⟩) ?_⟩
  · have g := hgo i hi
    refine EvT.boolop (EvB.and_go (EvT.strNe (Ev.upto (Ev.name rfl rfl) rfl rfl (PySem.W.kdl_size (by omega))) (PySem.W.kdl_size (Nat.le_trans (sUpto_len x i hx) (by omega))) g.x0 (fun _ _ => rfl)) (EvB.and_go (EvT.strNe (Ev.upto (Ev.name rfl rfl) rfl rfl (PySem.W.kdl_size (by omega))) (PySem.W.kdl_size (Nat.le_trans (sUpto_len y i hy) (by omega))) g.y0 (fun _ _ => rfl)) (EvB.and_go ?_ EvB.and_nil)))
    refine (EvT.cmp (Ev.sign (Ev.name rfl rfl) (Ev.bin (Ev.name rfl rfl) Ev.int Op2.subI) (by simp; omega) g.xc (fun _ _ => rfl)).w (Ev.sign (Ev.name rfl rfl) (Ev.bin (Ev.name rfl rfl) Ev.int Op2.subI) (by simp; omega) g.yd (fun _ _ => rfl)).w OpC.eqS rfl).cast (by simp)
  · have g := hstop
    refine EvT.boolop (EvB.and_go (EvT.strNe (Ev.upto (Ev.name rfl rfl) rfl rfl (PySem.W.kdl_size (by omega))) (PySem.W.kdl_size (Nat.le_trans (sUpto_len x t hx) (by omega))) g.x0 (fun _ _ => rfl)) (EvB.and_go (EvT.strNe (Ev.upto (Ev.name rfl rfl) rfl rfl (PySem.W.kdl_size (by omega))) (PySem.W.kdl_size (Nat.le_trans (sUpto_len y t hy) (by omega))) g.y0 (fun _ _ => rfl)) (EvB.and_stop ?_)))
    refine (EvT.cmp (Ev.sign (Ev.name rfl rfl) (Ev.bin (Ev.name rfl rfl) Ev.int Op2.subI) (by simp; omega) g.xc (fun _ _ => rfl)).w (Ev.sign (Ev.name rfl rfl) (Ev.bin (Ev.name rfl rfl) Ev.int Op2.subI) (by simp; omega) g.yd (fun _ _ => rfl)).w OpC.eqS rfl).cast ?_
    rw [beq_eq_false_iff_ne]; intro h; injection h with h; simp at h; exact hne h

theorem len_call (T : Top pw lo mean mg mb G.hb) {x : Str} {n : Str} {p q pos : Pos} (hx : σ.lookup n = some (.val (.str x))) (hd : (n == ("__debug__" : Str)) = false) (hl : x.length ≤ sizeLine) (hk : κ.names.lookup ("len" : Str) = some NameKind.globalImplicit) (hb : ∀ env, backTo pos (starEach [.Name n q] env) = starEach [.Name n q] env) :
    Ev G k κ F σ (.Call (.Name "len" p) [.Name n q] [] pos) (.int x.length) :=
  Ev.callB (EvV.builtin T.g (b_len T).1 T.b (b_len T).2 hk rfl) (.cons (Ev.name hx hd) (fun _ => rfl) .nil) (Cal.lenS hl) hb (fun _ => ⟨_, _, rfl⟩) (fun _ => rfl)

noncomputable def sgIn (X Y ch : Str) (st : DP) : Sg := [("row", .own false (dI st.row)), ("distance", .val (.int st.dist)), ("result", .val (.int st.res)), ("minimum", .val (.int st.mn)), ("bchar", .val (.str ch)), ("a", .val (.str X)), ("b", .val (.str Y)), ("max_cost", .val (.int 4))]
noncomputable def sgOut (X Y : Str) (r : List Int × Int) : Sg := [("row", .own false (dI r.1)), ("result", .val (.int r.2)), ("a", .val (.str X)), ("b", .val (.str Y)), ("max_cost", .val (.int 4))]

theorem dI_get {xs : List Int} {i : Nat} (h : i < xs.length) : (dI xs)[i]? = some (.int (xs.getD i 0)) := by
  rw [dI, List.getElem?_map, List.getD_eq_getElem?_getD, List.getElem?_eq_getElem h]; rfl
theorem dI_set {xs : List Int} {i : Nat} {v : Int} : (dI xs).set i (.int v) = dI (xs.set i v) := by simp [dI, List.map_set]

/-- the turns over one sign -/
theorem lev_inner (T : Top pw lo mean mg mb G.hb) {X Y : Str} {bi : Nat} {L : Nat} {cx : Nat → Nat} {ch : Nat} {row : List Int} (hX : X.length = L) (hL : L ≤ 40) (hc : ∀ j, j < L → chAt X (j : Int) = some (cx j)) (hrow : row.length = L)
    (hlow : ∀ c, Builtin.Str.tooLong (Txt.lower (one c)).length = false) :
    ∃ w tg it bd el ps, (rcAt 18).body[15]? = some (Stmt.For tg it bd el ps) ∧ bd[3]? = some w ∧ ∀ F, F.cf = [] → Ex1 G (k + 1) (rcAt 18).scope F (sgIn X Y (one ch) (DP.start row bi)) w
      (.next (sgIn X Y (one ch) (DP.run (fun j => substC (one ch) (one (cx j))) (DP.start row bi) L))) := by
  refine ⟨_, _, _, _, _, _, rfl, rfl, fun F hF => ?_⟩
  refine Ex1.for (n := L) (m := L) (σs := fun j => sgIn X Y (one ch) (DP.run (fun j => substC (one ch) (one (cx j))) (DP.start row bi) j)) (bs := OutR "index" 0) (EvI.range (a := 0) (EvV.builtin T.g (b_range T).1 T.b (b_range T).2 rfl rfl) (.cons ((len_call T rfl rfl (PySem.W.kdl_size (by omega)) rfl (fun _ => rfl)).cast (by rw [hX])) (fun _ => rfl) .nil) (.inl ⟨rfl, rfl⟩) (by omega) (fun _ => rfl) (fun _ => ⟨_, _, rfl⟩) (fun _ => rfl))
    (.inl rfl) (fun _ _ => rfl) (Nat.le_refl _) (fun j hj => ?_) (.inl ⟨rfl, Ex.nil⟩)
  generalize hst : DP.run (fun j => substC (one ch) (one (cx j))) (DP.start row bi) j = st
  have hsl : st.row.length = L := by rw [← hst, run_length]; exact hrow
  have hnext : DP.run (fun j => substC (one ch) (one (cx j))) (DP.start row bi) (j + 1) = st.step (fun j => substC (one ch) (one (cx j))) j := by rw [DP.run, hst]
  rw [hnext]
  have e : OutR "index" 0 j = ([("index", .val (.int (j : Int)))] : Sg) := by unfold OutR; rw [Nat.zero_add]
  rw [e]
  let σ1 : Sg := ("row", .own false (dI (st.row.set j (st.step (fun j => substC (one ch) (one (cx j))) j).res))) :: ("result", .val (.int (st.step (fun j => substC (one ch) (one (cx j))) j).res)) :: ("insert_delete", .val (.int ((if st.row.getD j 0 < st.res then st.row.getD j 0 else st.res) + 2))) :: ("distance", .val (.int (st.row.getD j 0))) ::
    ("substitute", .val (.int (st.dist + substC (one ch) (one (cx j))))) :: (([("index", .val (.int (j : Int)))] : Sg) ++ sgIn X Y (one ch) st)
  have hres : ∃ σ', Ex G (k + 1) (rcAt 18).scope F σ1 (match (rcAt 18).body[15]? with
    | some (Stmt.For _ _ bd _ _) => (match bd[3]? with
      | some (Stmt.For _ _ b2 _ _) => b2.drop 5
      | _ => [])
    | _ => []) (.next σ') ∧ Sub (sgIn X Y (one ch) (st.step (fun j => substC (one ch) (one (cx j))) j)) σ' := by
    by_cases h : (st.step (fun j => substC (one ch) (one (cx j))) j).res < st.mn
    · refine ⟨_, Ex.one (Ex1.if_t ((EvT.cmp (Ev.name rfl rfl).w (Ev.name rfl rfl).w OpC.ltI rfl).cast (decide_eq_true h)) (Ex.one (Ex1.assign (Ev.name rfl rfl) (.inl rfl) (fun _ => rfl)))), ?_⟩
      have hm : (st.step (fun j => substC (one ch) (one (cx j))) j).mn = (st.step (fun j => substC (one ch) (one (cx j))) j).res := if_pos h
      exact .cons rfl (.cons rfl (.cons rfl (.cons (by rw [hm]; rfl) (.cons rfl (.cons rfl (.cons rfl (.cons rfl .nil)))))))
    · refine ⟨_, Ex.one (Ex1.if_f ((EvT.cmp (Ev.name rfl rfl).w (Ev.name rfl rfl).w OpC.ltI rfl).cast (decide_eq_false h)) Ex.nil), ?_⟩
      have hm : (st.step (fun j => substC (one ch) (one (cx j))) j).mn = st.mn := if_neg h
      exact .cons rfl (.cons rfl (.cons rfl (.cons (by rw [hm]; rfl) (.cons rfl (.cons rfl (.cons rfl (.cons rfl .nil)))))))
  obtain ⟨σ', hex, hsub⟩ := hres
  refine ⟨σ', Ex.cons (Ex1.assign (Ev.bin (Ev.name rfl rfl) (Ev.fn (c_subst T (one ch) (one (cx j)) (hlow _) (hlow _)) T.g (.cons (Ev.name rfl rfl) (fun _ => rfl) (.cons (Ev.sign (Ev.name rfl rfl) (Ev.name rfl rfl) (by simp; omega) (hc j hj) (fun _ _ => rfl)) (fun _ => rfl) .nil)) rfl rfl (fun _ => rfl) (fun _ => ⟨_, _, rfl⟩)) Op2.addI) (.inl rfl) (fun _ => rfl)) ?_, hsub⟩
  refine Ex.cons (Ex1.assign (Ev.itemW (EvW.own rfl rfl) (Ev.name rfl rfl) (dI_get (by omega)) (PySem.W.kdl_size (by rw [dI_length]; omega)) rfl (fun _ _ => rfl)) (.inl rfl) (fun _ => rfl)) ?_
  refine Ex.cons (Ex1.assign (Ev.bin (Ev.callB (EvV.builtin T.g (b_min T).1 T.b (b_min T).2 rfl rfl) (.cons (Ev.name rfl rfl) (fun _ => rfl) (.cons (Ev.name rfl rfl) (fun _ => rfl) .nil)) Cal.min2 (fun _ => rfl) (fun _ => ⟨_, _, rfl⟩) (fun _ => rfl)) (Ev.const T v_move rfl rfl) Op2.addI) (.inl rfl) (fun _ => rfl)) ?_
  refine Ex.cons (Ex1.assign (Ev.callB (EvV.builtin T.g (b_min T).1 T.b (b_min T).2 rfl rfl) (.cons (Ev.name rfl rfl) (fun _ => rfl) (.cons (Ev.name rfl rfl) (fun _ => rfl) .nil)) Cal.min2 (fun _ => rfl) (fun _ => ⟨_, _, rfl⟩) (fun _ => rfl)) (.inl rfl) (fun _ => rfl)) ?_
  refine Ex.cons (Ex1.setItem rfl (Ev.name rfl rfl) (Ev.name rfl rfl) (by omega) (by rw [dI_length]; omega) (PySem.W.kdl_size (by rw [dI_length]; omega)) rfl (fun _ => rfl)) ?_
  rw [Int.toNat_natCast, dI_set]
  exact hex
end
end Mine
end C8

noncomputable section C9
open PySem PySem.Calls PyProof.Rows
set_option Elab.async false
set_option linter.unusedVariables false
set_option maxRecDepth 100000
namespace Mine

/-- all that a run over two texts shows -/
structure LevOk (x y : Str) (r : Int) (t u L : Nat) (c d c' d' : Nat → Nat) (X Y : Str) (cx cy : Nat → Nat) : Prop where
  ne : (x == y) = false
  hx : x.length ≤ 40
  hy : y.length ≤ 40
  ht : t ≤ 40
  hu : u ≤ 40
  pre : ∀ i, i < t → PreGo x y i (c i) (c i)
  preEnd : PreGo x y t (c t) (d t)
  preNe : c t ≠ d t
  post : ∀ i, i < u → PostGo (sFrom x t) (sFrom y t) i (c' i) (c' i)
  postEnd : PostGo (sFrom x t) (sFrom y t) u (c' u) (d' u)
  postNe : c' u ≠ d' u
  hX : X = sUpto (sFrom x t) u
  hY : Y = sUpto (sFrom y t) u
  lX : X.length = L
  lY : Y.length = L
  L1 : 1 ≤ L
  L40 : L ≤ 40
  chx : ∀ j, j < L → chAt X (j : Int) = some (cx j)
  chy : ∀ i, i < L → chAt Y (i : Int) = some (cy i)
  mn : ∀ i, i < L → (DP.run (fun j => substC (one (cy i)) (one (cx j))) (DP.start (outer (fun i j => substC (one (cy i)) (one (cx j))) L (row0 L) i).1 i) L).mn ≤ 4
  res : (outer (fun i j => substC (one (cy i)) (one (cx j))) L (row0 L) L).2 = r

theorem row0_length (L : Nat) : (row0 L).length = L := by simp [row0]
section
variable {G : Gd} {k : Nat} {mean : ExcName → Option Value} {mg mb : Str → Option Value} {κ : Scope} {F : Fm} {σ : Sg}

theorem c_lev0 (T : Top pw lo mean mg mb G.hb) (x : Str) : FnAt G mg (k + 1) "_levenshtein_distance" [.str x, .str x, .int 4] (.int 0) :=
  FnAt.mk T (rc := rcAt 18) (names := ["a", "b", "max_cost"]) (cf := []) (rc_mem rfl 18 rfl rfl) (fun pm code doc => bind3 fun a b c => rfl) rfl (by intro x hx; simp at hx; rcases hx with rfl | rfl | rfl <;> rfl) rfl rfl (fun n => rfl) (by decide) (by decide) rfl
    fun F hF => Ex.stop (Ex1.if_t ((EvT.cmp (Ev.name rfl rfl).w (Ev.name rfl rfl).w OpC.eqS rfl).cast (by simp)) (Ex.one (Ex1.ret Ev.int))) fun _ e => nomatch e

theorem c_lev (T : Top pw lo mean mg mb G.hb) (hlow : ∀ c, Builtin.Str.tooLong (Txt.lower (one c)).length = false) {x y : Str} {r : Int} {t u L : Nat} {c d c' d' : Nat → Nat} {X Y : Str} {cx cy : Nat → Nat} (O : LevOk x y r t u L c d c' d' X Y cx cy) :
    FnAt G mg (k + 2) "_levenshtein_distance" [.str x, .str y, .int 4] (.int r) :=
  FnAt.mk T (rc := rcAt 18) (names := ["a", "b", "max_cost"]) (cf := []) (rc_mem rfl 18 rfl rfl) (fun pm code doc => bind3 fun a b c => rfl) rfl (by intro x hx; simp at hx; rcases hx with rfl | rfl | rfl <;> rfl) rfl rfl (fun n => rfl) (by decide) (by decide) rfl
    fun F hF => by
      have hxl := O.hx
      have hyl := O.hy
      have hfx : (sFrom x t).length ≤ 40 := Nat.le_trans (Txt.slice_le x _ _) hxl
      have hfy : (sFrom y t).length ≤ 40 := Nat.le_trans (Txt.slice_le y _ _) hyl
      have lX := O.lX
      have lY := O.lY
      have L1 := O.L1
      have L40 := O.L40
      refine Ex.cons (Ex1.if_f ((EvT.cmp (Ev.name rfl rfl).w (Ev.name rfl rfl).w OpC.eqS rfl).cast O.ne) Ex.nil) ?_
      refine Ex.cons (σ' := sgPre x y 0) (Ex1.post (Ex1.assign Ev.int (.inl rfl) (fun _ => rfl)) (.cons rfl (.cons rfl (.cons rfl (.cons rfl .nil))))) ?_
      obtain ⟨w, hw, hex⟩ := lev_pre (G := G) (k := k + 1) (x := x) (y := y) (t := t) (c := c) (d := d) (by omega) (by omega) (by have := O.ht; omega) O.pre O.preEnd O.preNe
      cases hw
      refine Ex.cons (hex F hF) ?_
      refine Ex.cons (Ex1.assign (d := .str (sFrom x t)) (Ev.sliceFrom (Ev.name rfl rfl) (Ev.name rfl rfl) (PySem.W.kdl_size (by omega))) (.inl rfl) (fun _ => rfl)) ?_
      refine Ex.cons (Ex1.assign (d := .str (sFrom y t)) (Ev.sliceFrom (Ev.name rfl rfl) (Ev.name rfl rfl) (PySem.W.kdl_size (by omega))) (.inl rfl) (fun _ => rfl)) ?_
      refine Ex.cons (σ' := sgPost (sFrom x t) (sFrom y t) 0) (Ex1.post (Ex1.assign Ev.int (.inl rfl) (fun _ => rfl)) (.cons rfl (.cons rfl (.cons rfl (.cons rfl .nil))))) ?_
      obtain ⟨w, hw, hex⟩ := lev_post (G := G) (k := k + 1) (x := sFrom x t) (y := sFrom y t) (t := u) (c := c') (d := d') (by omega) (by omega) (by have := O.hu; omega) O.post O.postEnd O.postNe
      cases hw
      refine Ex.cons (hex F hF) ?_
      refine Ex.cons (Ex1.assign (d := .str X) ((Ev.upto (Ev.name rfl rfl) rfl rfl (PySem.W.kdl_size (by omega))).cast (by rw [O.hX])) (.inl rfl) (fun _ => rfl)) ?_
      refine Ex.cons (Ex1.assign (d := .str Y) ((Ev.upto (Ev.name rfl rfl) rfl rfl (PySem.W.kdl_size (by omega))).cast (by rw [O.hY])) (.inl rfl) (fun _ => rfl)) ?_
      refine Ex.cons (Ex1.if_f (EvT.boolop (EvB.or_go ((EvT.not (EvT.strNe (Ev.name rfl rfl) (PySem.W.kdl_size (by omega)) (by omega) (fun _ _ => rfl))).cast rfl) (EvB.or_go ((EvT.not (EvT.strNe (Ev.name rfl rfl) (PySem.W.kdl_size (by omega)) (by omega) (fun _ _ => rfl))).cast rfl) EvB.or_nil))) Ex.nil) ?_
      refine Ex.cons (Ex1.if_f (EvT.boolop (EvB.or_go ((EvT.cmp (len_call T rfl rfl (PySem.W.kdl_size (by omega)) rfl (fun _ => rfl)).w (Ev.const T v_max rfl rfl).w OpC.gtI rfl).cast (decide_eq_false (by omega))) (EvB.or_go ((EvT.cmp (len_call T rfl rfl (PySem.W.kdl_size (by omega)) rfl (fun _ => rfl)).w (Ev.const T v_max rfl rfl).w OpC.gtI rfl).cast (decide_eq_false (by omega))) EvB.or_nil))) Ex.nil) ?_
      refine Ex.cons (Ex1.if_f ((EvT.cmp (len_call T rfl rfl (PySem.W.kdl_size (by omega)) rfl (fun _ => rfl)).w (len_call T rfl rfl (PySem.W.kdl_size (by omega)) rfl (fun _ => rfl)).w OpC.ltI rfl).cast (decide_eq_false (by omega))) Ex.nil) ?_
      refine Ex.cons (Ex1.if_f ((EvT.cmp (Ev.bin (Ev.bin (len_call T rfl rfl (PySem.W.kdl_size (by omega)) rfl (fun _ => rfl)) (len_call T rfl rfl (PySem.W.kdl_size (by omega)) rfl (fun _ => rfl)) Op2.subI) (Ev.const T v_move rfl rfl) (Op2.mulI (IntMulOk.of_right (by decide)))).w (Ev.name rfl rfl).w OpC.gtI rfl).cast (decide_eq_false (by omega))) Ex.nil) ?_
      refine Ex.cons (Ex1.assignOwn (xs := dI (row0 L)) ?_ rfl (fun _ => rfl)) ?_
      · rw [show dI (row0 L) = (List.range L).map fun i : Nat => D.int (2 + (i : Int) * 2) by simp [dI, row0]]
        refine EvN.listRange (a := 2) (b := 2 * ((X.length : Int) + 1)) (c := 2) (n := L) (EvV.builtin T.g (b_list T).1 T.b (b_list T).2 rfl rfl) (EvV.builtin T.g (b_range T).1 T.b (b_range T).2 rfl rfl)
          (.cons (Ev.const T v_move rfl rfl) (fun _ => rfl) (.cons (Ev.bin (Ev.const T v_move rfl rfl) (Ev.bin (len_call T rfl rfl (PySem.W.kdl_size (by omega)) rfl (fun _ => rfl)) Ev.int Op2.addI) (Op2.mulI (IntMulOk.of_left (by decide)))) (fun _ => rfl) (.cons (Ev.const T v_move rfl rfl) (fun _ => rfl) .nil)))
          (by decide) ?_ ?_ (by omega) (PyProof.noPylong_small (by decide)) (fun _ => rfl) (fun _ => ⟨_, _, rfl⟩) (fun _ => rfl) (fun _ => rfl)
        · rw [lX]
          have e : Builtin.Range.rangeSize 2 (2 * ((L : Int) + 1)) 2 = L := by unfold Builtin.Range.rangeSize; rw [if_pos (by decide), if_pos (by omega)]; omega
          unfold Builtin.Range.small
          rw [e, fitsL (by decide) (by decide), fitsL (by omega) (by omega), fitsL (a := (L : Int)) (by omega) (by omega), if_pos (by decide), fitsL (a := 2 * ((L : Int) + 1) + (2 - 1)) (by omega) (by omega)]
          simp
        · rw [lX]; unfold Builtin.Range.rangeSize; rw [if_pos (by decide), if_pos (by omega)]; omega
      refine Ex.cons (Ex1.assign Ev.int (.inl rfl) (fun _ => rfl)) ?_
      refine Ex.ownF (x := "row") rfl ?_
      refine Ex.pre (σ' := sgOut X Y (outer (fun i j => substC (one (cy i)) (one (cx j))) L (row0 L) 0)) ?_ (.cons rfl (.cons rfl (.cons rfl (.cons rfl (.cons rfl .nil)))))
      refine Ex.cons (Ex1.for (n := L) (m := L) (σs := fun i => sgOut X Y (outer (fun i j => substC (one (cy i)) (one (cx j))) L (row0 L) i)) (bs := OutR "bindex" 0)
        (EvI.range (a := 0) (EvV.builtin T.g (b_range T).1 T.b (b_range T).2 rfl rfl) (.cons ((len_call T rfl rfl (PySem.W.kdl_size (by omega)) rfl (fun _ => rfl)).cast (by rw [lY])) (fun _ => rfl) .nil) (.inl ⟨rfl, rfl⟩) (by omega) (fun _ => rfl) (fun _ => ⟨_, _, rfl⟩) (fun _ => rfl))
        (.inl rfl) (fun _ _ => rfl) (Nat.le_refl _) (fun i hi => ?_) (.inl ⟨rfl, Ex.nil⟩)) (Ex.one (Ex1.ret ((Ev.name rfl rfl).cast (by rw [O.res]))))
      have e : OutR "bindex" 0 i = ([("bindex", .val (.int (i : Int)))] : Sg) := by unfold OutR; rw [Nat.zero_add]
      rw [e]
      refine ⟨sgIn X Y (one (cy i)) (DP.run (fun j => substC (one (cy i)) (one (cx j))) (DP.start (outer (fun i j => substC (one (cy i)) (one (cx j))) L (row0 L) i).1 i) L), Ex.cons (Ex1.assign (d := .str (one (cy i))) (Ev.sign (Ev.name rfl rfl) (Ev.name rfl rfl) (by simp; omega) (O.chy i hi) (fun _ _ => rfl)) (.inl rfl) (fun _ => rfl)) ?_, ?_⟩
      · refine Ex.cons (Ex1.assign2 (Ev.bin (Ev.name rfl rfl) (Ev.const T v_move rfl rfl) (Op2.mulI (IntMulOk.of_right (by decide)))) (.inl rfl) (.inl rfl) (fun _ => rfl)) ?_
        refine Ex.cons (σ' := sgIn X Y (one (cy i)) (DP.start (outer (fun i j => substC (one (cy i)) (one (cx j))) L (row0 L) i).1 i)) (Ex1.post (Ex1.assign Ev.int (.inl rfl) (fun _ => rfl)) (.cons rfl (.cons rfl (.cons rfl (.cons rfl (.cons rfl (.cons rfl (.cons rfl (.cons rfl .nil))))))))) ?_
        obtain ⟨w, tg, it, bd, el, ps, h1, h2, hex⟩ := lev_inner (k := k) T (X := X) (Y := Y) (bi := i) (L := L) (cx := cx) (ch := cy i) (row := (outer (fun i j => substC (one (cy i)) (one (cx j))) L (row0 L) i).1) lX L40 O.chx (by rw [outer_length, row0_length]) hlow
        cases h1
        cases h2
        refine Ex.cons (hex F hF) ?_
        exact Ex.one (Ex1.if_f ((EvT.cmp (Ev.name rfl rfl).w (Ev.name rfl rfl).w OpC.gtI rfl).cast (decide_eq_false (by have := O.mn i hi; omega))) Ex.nil)
      · exact .cons rfl (.cons rfl (.cons rfl (.cons rfl (.cons rfl .nil))))
end
end Mine
end C9

noncomputable section C10
open PySem PySem.Calls PyProof.Rows
set_option Elab.async false
set_option linter.unusedVariables false
set_option maxRecDepth 100000
namespace Mine
section
variable {G : Gd} {k : Nat} {mean : ExcName → Option Value} {mg mb : Str → Option Value} {κ : Scope} {F : Fm} {σ : Sg}

theorem c_contains (T : Top pw lo mean mg mb G.hb) (xs : List Int) (x : Int) : FnAt G mg (k + 1) "contains" [.list (dI xs), .int x] (.bool (xs.any fun y => y == x)) :=
  FnAt.mk T (rc := rcAt 9) (names := ["a", "b"]) (cf := []) (rc_mem rfl 9 rfl rfl) (fun pm code doc => bind2 fun a b => rfl) rfl (by intro x hx; simp at hx; rcases hx with rfl | rfl <;> rfl) rfl rfl (fun n => rfl) (by decide) (by decide) rfl
    fun F hF => Ex.one (Ex1.ret (Ev.cmp (Ev.name rfl rfl).w (Ev.name rfl rfl).w OpC.inI rfl))

noncomputable def dIT (P : Tok → Prop) (xs : List Int) : List D := xs.map fun x => D.intT x P
theorem dIT_length (P : Tok → Prop) (xs : List Int) : (dIT P xs).length = xs.length := by simp [dIT]
theorem Out1_dIT {P : Tok → Prop} {x : Str} {xs : List Int} {i : Nat} (h : i < xs.length) : Out1 x (dIT P xs) i = [(x, .val (.intT (xs.getD i 0) P))] := by
  unfold Out1; rw [List.getD_eq_getElem?_getD, List.getD_eq_getElem?_getD, dIT, List.getElem?_map, List.getElem?_eq_getElem h]; rfl
theorem OutE_dST {P : Tok → Prop} {x y : Str} {xs : List Str} {i : Nat} (h : i < xs.length) : OutE x y (dST P xs) i = [(y, .val (.strT (xs.getD i default) P)), (x, .val (.int (i : Int)))] := by
  unfold OutE; rw [List.getD_eq_getElem?_getD, List.getD_eq_getElem?_getD, dST, List.getElem?_map, List.getElem?_eq_getElem h]; rfl

noncomputable def countI (y : Int) (xs : List Int) : Nat → Int
  | 0 => 0
  | i + 1 => countI y xs i + if xs.getD i 0 == y then 1 else 0
noncomputable def sgCount (P Q : Tok → Prop) (xs : List Int) (y : Int) (i : Nat) : Sg := [("count", .val (.int (countI y xs i))), ("a", .val (.list (dIT P xs))), ("b", .val (.intT y Q))]
theorem c_countOf (T : Top pw lo mean mg mb G.hb) (P Q : Tok → Prop) (xs : List Int) (y : Int) (hPQ : ∀ t u, P t → Q u → t ≠ 0 ∧ u ≠ 0 ∧ t ≠ u) (hs : ∀ x ∈ xs, smallInt x = true) :
    FnAt G mg (k + 1) "countOf" [.list (dIT P xs), .intT y Q] (.int (countI y xs xs.length)) :=
  FnAt.mk T (rc := rcAt 10) (names := ["a", "b"]) (cf := []) (rc_mem rfl 10 rfl rfl) (fun pm code doc => bind2 fun a b => rfl) rfl (by intro x hx; simp at hx; rcases hx with rfl | rfl <;> rfl) rfl rfl (fun n => rfl) (by decide) (by decide) rfl
    fun F hF => by
      refine Ex.cons (σ' := sgCount P Q xs y 0) (Ex1.post (Ex1.assign Ev.int (.inl rfl) (fun _ => rfl)) (.cons rfl (.cons rfl (.cons rfl .nil)))) ?_
      refine Ex.cons (Ex1.for (n := xs.length) (m := xs.length) (σs := sgCount P Q xs y) (bs := Out1 "i" (dIT P xs)) ?_ (.inl rfl) (fun _ _ => rfl) (Nat.le_refl _) (fun i hi => ?_) (.inl ⟨rfl, Ex.nil⟩)) (Ex.one (Ex1.ret (Ev.name rfl rfl)))
      · exact EvI.list1 (ds := dIT P xs) (Ev.name rfl rfl) |> fun h => by rw [dIT_length] at h; exact h
      · rw [Out1_dIT hi]
        have hx : smallInt (xs.getD i 0) = true := hs _ (by rw [List.getD_eq_getElem?_getD, List.getElem?_eq_getElem hi]; exact List.getElem_mem hi)
        by_cases q : (xs.getD i 0 == y) = true
        · refine ⟨_, Ex.one (Ex1.if_t ((EvT.isOrI (Ev.name rfl rfl) (Ev.name rfl rfl) (Ev.name rfl rfl) (Ev.name rfl rfl) (fun t u ht hu => ⟨(hPQ t u ht hu).1, (hPQ t u ht hu).2.1, fun _ => (hPQ t u ht hu).2.2⟩) hx rfl rfl).cast q) (Ex.one (Ex1.aug rfl Ev.int Op2i.addI (.inl rfl)))), .cons ?_ (.cons rfl (.cons rfl .nil))⟩
          show _ = some (Slot.val (.int (countI y xs i + _)))
          rw [if_pos q]; rfl
        · refine ⟨_, Ex.one (Ex1.if_f ((EvT.isOrI (Ev.name rfl rfl) (Ev.name rfl rfl) (Ev.name rfl rfl) (Ev.name rfl rfl) (fun t u ht hu => ⟨(hPQ t u ht hu).1, (hPQ t u ht hu).2.1, fun _ => (hPQ t u ht hu).2.2⟩) hx rfl rfl).cast (by simpa using q)) Ex.nil), .cons ?_ (.cons rfl (.cons rfl .nil))⟩
          show _ = some (Slot.val (.int (countI y xs i + _)))
          rw [if_neg q, Int.add_zero]; rfl

noncomputable def sgIdx (P Q : Tok → Prop) (xs : List Str) (y : Str) : Sg := [("a", .val (.list (dST P xs))), ("b", .val (.strT y Q))]
theorem c_indexOf (T : Top pw lo mean mg mb G.hb) (hnb : NoneBooked G.hb) (P Q : Tok → Prop) (xs : List Str) (y : Str) (m : Nat) (hm : m < xs.length) (he : xs.getD m default = y) (hn : ∀ i, i < m → xs.getD i default ≠ y)
    (hPQ : ∀ t u, P t → Q u → t ≠ 0 ∧ u ≠ 0 ∧ t ≠ u) : FnAt G mg (k + 1) "indexOf" [.list (dST P xs), .strT y Q] (.int (m : Int)) :=
  FnAt.mk T (rc := rcAt 12) (names := ["a", "b"]) (cf := []) (rc_mem rfl 12 rfl rfl) (fun pm code doc => bind2 fun a b => rfl) rfl (by intro x hx; simp at hx; rcases hx with rfl | rfl <;> rfl) rfl rfl (fun n => rfl) (by decide) (by decide) rfl
    fun F hF => by
      refine Ex.stop (Ex1.for (n := xs.length) (m := m) (σs := fun _ => sgIdx P Q xs y) (bs := OutE "i" "j" (dST P xs)) ?_ ⟨.inl rfl, .inl rfl⟩ (fun _ _ => rfl) (by omega) (fun i hi => ?_) (.inr ⟨hm, .ret (.int (m : Int)), ?_, .inr ⟨_, rfl, rfl⟩⟩)) fun _ e => nomatch e
      · exact EvI.enum (ds := dST P xs) (EvV.builtin T.g (b_enumerate T).1 T.b (b_enumerate T).2 rfl rfl) (.cons (Ev.name rfl rfl) (fun _ => rfl) .nil) (fun _ => rfl) (fun _ => ⟨_, _, rfl⟩) (fun _ => rfl) |> fun h => by rw [dST_length] at h; exact h
      · rw [OutE_dST (by omega)]
        refine ⟨_, Ex.one (Ex1.if_f ((EvT.isOrS hnb (Ev.name rfl rfl) (Ev.name rfl rfl) (Ev.name rfl rfl) (Ev.name rfl rfl) (fun t u ht hu => ⟨(hPQ t u ht hu).1, (hPQ t u ht hu).2.1, fun _ => (hPQ t u ht hu).2.2⟩) rfl rfl).cast (beq_eq_false_iff_ne.mpr (hn i hi))) Ex.nil), .cons rfl (.cons rfl .nil)⟩
      · rw [OutE_dST hm]
        exact Ex.one (Ex1.if_t ((EvT.isOrS hnb (Ev.name rfl rfl) (Ev.name rfl rfl) (Ev.name rfl rfl) (Ev.name rfl rfl) (fun t u ht hu => ⟨(hPQ t u ht hu).1, (hPQ t u ht hu).2.1, fun _ => (hPQ t u ht hu).2.2⟩) rfl rfl).cast (beq_iff_eq.mpr he)) (Ex.one (Ex1.ret (Ev.name rfl rfl))))
end
end Mine
end C10

noncomputable section C11
open PySem PySem.Calls PyProof.Rows
set_option Elab.async false
set_option linter.unusedVariables false
set_option maxRecDepth 100000
namespace Mine
section
variable {G : Gd} {k : Nat} {mean : ExcName → Option Value} {mg mb : Str → Option Value} {κ : Scope} {F : Fm} {σ : Sg}
noncomputable def FnAtK (G : Gd) (mg : Str → Option Value) (k : Nat) (name : Str) (ds : List D) (d : Nat → D) : Prop :=
  ∃ f o fd, mg name = some (.ref f) ∧ G.hb.get? f = some o ∧ o.data = .func fd ∧ ∀ A X s vs E, Room k A → G.In s → Live X s → RepAll X s.heap ds vs →
    wpAny G.M A (call (.ref f) vs) (fun v s' => St [] s s' ∧ Rep X s'.heap (d s.toks) v) E s
theorem FnAtK.mk {p : Program} {loose : List Str} (T : Top p loose mean mg mb G.hb) {rc : DefRec} {names cf : List Str} {ds : List D} {d : Nat → D} (hm : rc ∈ recsOf p)
    (hbind : ∀ pm code doc vs, vs.length = names.length → bindArgs (docDef rc.name rc.params rc.body rc.scope pm code doc) { pos := vs } = pure (names.zip vs)) (hκ : rc.scope.kind = .function) (hloc : ∀ x ∈ names, rc.scope.names.lookup x = some .local)
    (hgen : rc.scope.isGenerator = false) (hco : rc.scope.isCoroutine = false) (hcf : ∀ n, (cellsFrom n rc.scope.names []).map (·.1) = cf) (hcn : cf.Nodup) (hnd : names.Nodup) (hlen : ds.length = names.length)
    (h : ∀ F : Fm, F.cf = cf → G.tk ≤ F.s0.toks → Ex G k rc.scope F (names.zip (ds.map .val)) rc.body (.ret (d F.s0.toks))) : FnAtK G mg (k + 1) rc.name ds d := by
  obtain ⟨f, o, pm, code, doc, h1, h2, h3, h4⟩ := T.fn rc hm
  refine ⟨f, o, _, h1, h2, h3, fun A X s vs E R hb hl r => ?_⟩
  have hvl : vs.length = names.length := by rw [r.length]; exact hlen
  refine call_def T (cf := cf) (gh := []) (σ := names.zip (ds.map .val)) h2 h3 h4 (hbind _ _ _ _ hvl) hκ hloc hgen hco hcf hcn (zip_sep hnd vs) R hb hl (fun p hp => nomatch hp)
    (fun x sl hx => by obtain ⟨d, v, e1, e2, e3⟩ := zip_lookup r hlen hx; exact ⟨v, e2, .inl ⟨d, e1, e3⟩⟩) fun F s₁ A' hFc hF0 R' g hY I E' => ?_
  refine wpAny_mono (h F hFc I.tk A' _ [] s₁ E' R' I) (fun fl s' q => ?_) fun _ _ e => e
  obtain ⟨mv, os', ho, v, rfl, I', r'⟩ := q
  rw [hF0] at r'
  exact ⟨g.trans' mv fun c hc => .inr (hY c (Y_Z c hc)), r'.sub fun b hb => mem_X.mpr (.inr (.inr (.inr hb)))⟩
theorem Ev.fnK {x : Str} {p pos : Pos} {args : List Expr} {ds : List D} {d : Nat → D} {d' : D} (h : FnAtK G mg k x ds d) (hg : G.hb.Ns mainGlobals mg) (ha : EvA G k κ F σ args ds) (hle : ∀ m, F.s0.toks ≤ m → ∀ X h v, Rep X h (d m) v → Rep X h d' v)
    (hk : κ.names.lookup x = some .globalImplicit) (hd : (x == ("__debug__" : Str)) = false) (hb : ∀ env, backTo pos (starEach args env) = starEach args env) (hne : ∀ env, ∃ t r, starEach args env = (false, t) :: r) : Ev G k κ F σ (.Call (.Name x p) args [] pos) d' := fun A Xo os s E R I => by
  obtain ⟨f, o, fd, h1, h2, h3, hc⟩ := h
  refine wpAny_Call_ofName (EvV.global hg h1 hk hd A Xo os s E _ I ?_)
  show wpAny G.M A (callWith pos (.ref f) [] (backTo pos (starEach args F.env)) []) _ E s
  rw [hb]
  refine callWith_function (o := o) (fd := fd) ?_
  have key : wpAny G.M A (spliced (starEach args F.env)) (fun vs s₁ => (s₁.heap.get? f = some o ∧ o.data = .func fd) ∧ wpAny G.M A (call (.ref f) vs) (fun v s' => St [] s s' ∧ Rep (F.X Xo os) s'.heap d' v) E s₁) E s :=
    wp_st (β := Unit) (ha A Xo os s E R I) fun vs s1 g1 r1 => ⟨⟨(I.grow g1).hb _ _ h2, h3⟩, wp_st (β := Unit) (hc A (F.X Xo os) s1 vs E R (I.grow g1).inn (I.grow g1).lives r1) fun v s2 g2 r2 => ⟨g1.trans g2, hle _ (Nat.le_trans I.st.toks g1.toks) _ _ _ r2⟩⟩
  obtain ⟨t, r, e⟩ := hne F.env
  rw [e] at key ⊢
  exact evalArgs_plain key
theorem Rep.weakS {X : List Addr} {h : Heap} {x : Str} {P Q : Tok → Prop} {v : Value} (r : Rep X h (.strT x P) v) (hPQ : ∀ t, P t → Q t) : Rep X h (.strT x Q) v := by
  obtain ⟨t, rfl, hp⟩ := r.strT'; exact .ofStrT (hPQ t hp)
theorem Ev.weakS {e : Expr} {x : Str} {P Q : Tok → Prop} (h : Ev G k κ F σ e (.strT x P)) (hPQ : ∀ t, P t → Q t) : Ev G k κ F σ e (.strT x Q) := fun A Xo os s E R I =>
  wp_st (β := Unit) (h A Xo os s E R I) fun v s1 g1 r1 => ⟨g1, r1.weakS hPQ⟩

noncomputable def nmS (i : Nat) : Str := (["OPTIMIZED", "NEWLOCALS", "VARARGS", "VARKEYWORDS"] : List Str).getD i default
noncomputable def namesTo (w i : Nat) : List Str := ((List.range i).filter fun j => w.testBit j).map nmS
noncomputable def flW (w i : Nat) : Int := ((w / 2 ^ i * 2 ^ i : Nat) : Int)
noncomputable def topB (w : Nat) : Nat := if w < 2 then 0 else if w < 4 then 1 else if w < 8 then 2 else 3
noncomputable def toldOf (w : Nat) : Str := Txt.join ", " (namesTo w 4)
theorem fl_and : ∀ w < 16, ∀ i < 32, (Builtin.bitAnd (flW w i) (2 ^ i) != 0) = w.testBit i := by decide +kernel
theorem fl_xor : ∀ w < 16, ∀ i < 32, w.testBit i = true → Builtin.bitXor (flW w i) (2 ^ i) = flW w (i + 1) := by decide +kernel
theorem fl_not : ∀ w < 16, ∀ i < 32, w.testBit i = false → flW w (i + 1) = flW w i := by decide +kernel
theorem fl_top : ∀ w < 16, 0 < w → w.testBit (topB w) = true ∧ flW w (topB w + 1) = 0 ∧ topB w < 4 ∧ namesTo w (topB w + 1) = namesTo w 4 := by decide +kernel
theorem fl_mid : ∀ w < 16, ∀ i < topB w, flW w (i + 1) ≠ 0 := by decide +kernel
theorem fl_join : ∀ w < 16, JoinOk ", " (namesTo w 4) = true := by decide +kernel
theorem namesTo_succ (w i : Nat) : namesTo w (i + 1) = namesTo w i ++ (if w.testBit i then [nmS i] else []) := by
  unfold namesTo
  rw [List.range_succ, List.filter_append, List.map_append]
  congr 1
  by_cases h : w.testBit i <;> simp [h]
theorem namesTo_length (w i : Nat) : (namesTo w i).length ≤ i := by
  unfold namesTo
  rw [List.length_map]
  exact Nat.le_trans (List.length_filter_le _ _) (by simp)

noncomputable def flagP (G : Gd) (m : Nat) (t : Tok) : Prop := t ≠ 0 ∧ (t < G.tk ∨ m ≤ t)
noncomputable def sgFlags (P : Tok → Prop) (w i : Nat) : Sg := [("names", .own true (dST P (namesTo w i))), ("flags", .val (.int (flW w i)))]
theorem c_flags (T : Top pw lo mean mg mb G.hb) (FT : FlagTab G mg "COMPILER_FLAG_NAMES" nmS 4) (h0 : 0 < G.tk) (w : Nat) (hw : w < 16) (hw0 : 0 < w) :
    FnAtK G mg (k + 1) "pretty_flags" [.int (w : Int)] (fun m => .strT (toldOf w) (flagP G m)) :=
  FnAtK.mk T (rc := rcAt 2) (names := ["flags"]) (cf := []) (rc_mem rfl 2 rfl rfl) (fun pm code doc => bind1 fun a => rfl) rfl (by intro x hx; simp at hx; rcases hx with rfl <;> rfl) rfl rfl (fun n => rfl) (by decide) (by decide) rfl
    fun F hF htk => by
      obtain ⟨ht1, ht2, ht3, ht4⟩ := fl_top w hw hw0
      have fresh : ∀ t, F.s0.toks ≤ t → flagP G F.s0.toks t := fun t ht => ⟨Nat.ne_of_gt (Nat.lt_of_lt_of_le h0 (Nat.le_trans htk ht)), .inr ht⟩
      refine Ex.cons (σ' := sgFlags (flagP G F.s0.toks) w 0) (Ex1.post (Ex1.assignOwn (xs := []) (EvN.list .nil (fun _ => rfl) (by simp)) rfl (fun _ => rfl)) (.cons rfl (.cons (by simp [flW]; rfl) .nil))) ?_
      have shl : ∀ (i : Nat), (1 : Int) * 2 ^ ((i : Int).toNat) = 2 ^ i := fun i => by rw [Int.toNat_natCast, Int.one_mul]
      have hexl : ∀ i < 4, (baseText "0x" 16 (2 ^ i)).length ≤ 16777216 := by decide +kernel
      have body : ∀ i, i < 4 → w.testBit i = true → ∀ out, Ex G k (rcAt 2).scope F ([("flags", .val (.int (flW w (i + 1)))), ("names", .own true (dST (flagP G F.s0.toks) (namesTo w (i + 1))))] : Sg) (match (rcAt 2).body[1]? with
          | some (Stmt.For _ _ bd _ _) => (match bd[1]? with
            | some (Stmt.If _ b2 _ _) => b2.drop 2
            | _ => [])
          | _ => []) out → Ex G k (rcAt 2).scope F (([("i", .val (.int (i : Int)))] : Sg) ++ sgFlags (flagP G F.s0.toks) w i) (match (rcAt 2).body[1]? with
          | some (Stmt.For _ _ bd _ _) => bd
          | _ => []) out := fun i hi hb out hrest => by
        refine Ex.cons (Ex1.assign (d := .int (2 ^ i)) ((Ev.bin Ev.int (Ev.name rfl rfl) (Op2.shlI (n := (i : Int)) (by omega) (by omega) (by decide))).cast (by rw [shl])) (.inl rfl) (fun _ => rfl)) ?_
        have inner : Ex G k (rcAt 2).scope F (("flag", .val (.int (2 ^ i))) :: (([("i", .val (.int (i : Int)))] : Sg) ++ sgFlags (flagP G F.s0.toks) w i)) (match (rcAt 2).body[1]? with
          | some (Stmt.For _ _ bd _ _) => (match bd[1]? with
            | some (Stmt.If _ b2 _ _) => b2
            | _ => [])
          | _ => []) out := by
          refine Ex.cons (Ex1.append rfl (Ev.weakS (Ev.tabGet (i := i) FT T.g rfl rfl hi (Ev.name rfl rfl) (Ev.callB (EvV.builtin T.g (b_hex T).1 T.b (b_hex T).2 rfl rfl) (.cons (Ev.name rfl rfl) (fun _ => rfl) .nil) (Cal.hex (PySem.W.kdl_size (hexl i hi))) (fun _ => rfl) (fun _ => ⟨_, _, rfl⟩) (fun _ => rfl)) (fun _ => rfl) (fun _ => rfl) rfl) (Q := flagP G F.s0.toks) fun t h => ⟨h.1, .inl h.2⟩)
            (PySem.W.kdl_size (by rw [dST_length]; have := namesTo_length w i; omega)) rfl (fun _ => rfl) rfl) ?_
          refine Ex.cons (σ' := ([("flags", .val (.int (flW w (i + 1)))), ("names", .own true (dST (flagP G F.s0.toks) (namesTo w (i + 1))))] : Sg)) (Ex1.post (Ex1.aug rfl (Ev.name rfl rfl) Op2i.xorI (.inl rfl)) (.cons ?_ (.cons ?_ .nil))) hrest
          · rw [← fl_xor w hw i (by omega) hb]; rfl
          · rw [namesTo_succ, if_pos hb]
            show some _ = some _
            simp [dST]
        have ht : EvT G k (rcAt 2).scope F (("flag", .val (.int (2 ^ i))) :: (([("i", .val (.int (i : Int)))] : Sg) ++ sgFlags (flagP G F.s0.toks) w i)) (match (rcAt 2).body[1]? with
          | some (Stmt.For _ _ bd _ _) => (match bd[1]? with
            | some (Stmt.If t _ _ _) => t
            | _ => default)
          | _ => default) true := (EvT.value (Ev.bin (Ev.name rfl rfl) (Ev.name rfl rfl) Op2.andI).w OpT.int (fun _ => rfl)).cast (by rw [fl_and w hw i (by omega)]; exact hb)
        exact Ex.one (Ex1.if_t ht inner)
      refine Ex.cons (σ' := ([("flags", .val (.int (flW w (topB w + 1)))), ("names", .own true (dST (flagP G F.s0.toks) (namesTo w (topB w + 1))))] : Sg)) (Ex1.for (n := 32) (m := topB w) (σs := sgFlags (flagP G F.s0.toks) w) (bs := OutR "i" 0)
        (EvI.range (a := 0) (EvV.builtin T.g (b_range T).1 T.b (b_range T).2 rfl rfl) (.cons Ev.int (fun _ => rfl) .nil) (.inl ⟨rfl, rfl⟩) (by decide) (fun _ => rfl) (fun _ => ⟨_, _, rfl⟩) (fun _ => rfl))
        (.inl rfl) (fun _ _ => rfl) (by omega) (fun i hi => ?_) (.inr ⟨by omega, .brk _, ?_, .inl ⟨_, rfl, rfl⟩⟩)) ?_
      · have e : OutR "i" 0 i = ([("i", .val (.int (i : Int)))] : Sg) := by unfold OutR; rw [Nat.zero_add]
        rw [e]
        by_cases hb : w.testBit i = true
        · refine ⟨_, body i (by omega) hb _ (Ex.one (Ex1.if_f ((EvT.not (EvT.value (Ev.name rfl rfl).w OpT.int (fun _ => rfl))).cast ?_) Ex.nil)), .cons rfl (.cons rfl .nil)⟩
          have := fl_mid w hw i hi
          simpa using this
        · rw [Bool.not_eq_true] at hb
          refine ⟨_, Ex.cons (Ex1.assign (d := .int (2 ^ i)) ((Ev.bin Ev.int (Ev.name rfl rfl) (Op2.shlI (n := (i : Int)) (by omega) (by omega) (by decide))).cast (by rw [shl])) (.inl rfl) (fun _ => rfl))
            (Ex.one (Ex1.if_f ((EvT.value (Ev.bin (Ev.name rfl rfl) (Ev.name rfl rfl) Op2.andI).w OpT.int (fun _ => rfl)).cast (by rw [fl_and w hw i (by omega)]; exact hb)) Ex.nil)), .cons ?_ (.cons ?_ .nil)⟩
          · rw [namesTo_succ, if_neg (by rw [hb]; decide), List.append_nil]; rfl
          · rw [fl_not w hw i (by omega) hb]; rfl
      · have e : OutR "i" 0 (topB w) = ([("i", .val (.int ((topB w : Nat) : Int)))] : Sg) := by unfold OutR; rw [Nat.zero_add]
        rw [e]
        refine body (topB w) ht3 ht1 _ (Ex.stop (Ex1.if_t ((EvT.not (EvT.value (Ev.name rfl rfl).w OpT.int (fun _ => rfl))).cast ?_) (Ex.stop Ex1.brk fun _ e => nomatch e)) fun _ e => nomatch e)
        rw [ht2]; rfl
      · refine Ex.freeze (x := "names") rfl (Ex.one (Ex1.ret ?_))
        rw [ht4]
        exact Ev.joinT Ev.str (Ev.name rfl rfl) fresh (fl_join w hw) (fun _ => rfl) (fun _ => rfl) rfl
end
end Mine
end C11

noncomputable section C12
open PySem PySem.Calls PyProof.Rows
set_option Elab.async false
set_option linter.unusedVariables false
set_option maxRecDepth 100000
namespace Mine
section
variable {G : Gd} {k : Nat} {mean : ExcName → Option Value} {mg mb : Str → Option Value} {κ : Scope} {F : Fm} {σ : Sg}
theorem Ex1.for_else {target iter : Expr} {body orelse : List Stmt} {pos : Pos} {n : Nat} {bs σs : Nat → Sg} {out : Out}
    (hit : EvI G k κ F target (σs 0) iter n bs) (hown : OwnT κ F target) (hfs : ∀ env x, foldedSetIterable iter env x = pure x)
    (hbody : ∀ i, i < n → ∃ σ', Ex G k κ F (bs i ++ σs i) body (.next σ') ∧ Sub (σs (i + 1)) σ') (hel : Ex G k κ F (σs n) orelse out) :
    Ex1 G k κ F (σs 0) (.For target iter body orelse pos) out := Ex1.for hit hown hfs (Nat.le_refl n) hbody (.inl ⟨rfl, hel⟩)

theorem c_flags0 (T : Top pw lo mean mg mb G.hb) : FnAt G mg (k + 1) "pretty_flags" [.int 0] (.strT "0x0" fun _ => True) :=
  FnAt.mk T (rc := rcAt 2) (names := ["flags"]) (cf := []) (rc_mem rfl 2 rfl rfl) (fun pm code doc => bind1 fun a => rfl) rfl (by intro x hx; simp at hx; rcases hx with rfl <;> rfl) rfl rfl (fun n => rfl) (by decide) (by decide) rfl
    fun F hF => by
      refine Ex.cons (σ' := sgFlags (fun _ => True) 0 0) (Ex1.post (Ex1.assignOwn (xs := []) (EvN.list .nil (fun _ => rfl) (by simp)) rfl (fun _ => rfl)) (.cons rfl (.cons rfl .nil))) ?_
      have shl : ∀ (i : Nat), (1 : Int) * 2 ^ ((i : Int).toNat) = 2 ^ i := fun i => by rw [Int.toNat_natCast, Int.one_mul]
      refine Ex.cons (Ex1.for_else (n := 32) (σs := fun _ => sgFlags (fun _ => True) 0 0) (bs := OutR "i" 0)
        (EvI.range (a := 0) (EvV.builtin T.g (b_range T).1 T.b (b_range T).2 rfl rfl) (.cons Ev.int (fun _ => rfl) .nil) (.inl ⟨rfl, rfl⟩) (by decide) (fun _ => rfl) (fun _ => ⟨_, _, rfl⟩) (fun _ => rfl))
        (.inl rfl) (fun _ _ => rfl) (fun i hi => ?_) (Ex.one (Ex1.append rfl (d := .strT "0x0" fun _ => True) ?_ (PySem.W.kdl_size (by decide)) rfl (fun _ => rfl) rfl))) ?_
      · have e : OutR "i" 0 i = ([("i", .val (.int (i : Int)))] : Sg) := by unfold OutR; rw [Nat.zero_add]
        rw [e]
        refine ⟨_, Ex.cons (Ex1.assign (d := .int (2 ^ i)) ((Ev.bin Ev.int (Ev.name rfl rfl) (Op2.shlI (n := (i : Int)) (by omega) (by omega) (by decide))).cast (by rw [shl])) (.inl rfl) (fun _ => rfl))
          (Ex.one (Ex1.if_f ((EvT.value (Ev.bin (Ev.name rfl rfl) (Ev.name rfl rfl) Op2.andI).w OpT.int (fun _ => rfl)).cast ?_) Ex.nil)), .cons rfl (.cons rfl .nil)⟩
        have := fl_and 0 (by decide) i hi
        have e0 : flW 0 i = flW 0 0 := by simp [flW]
        rw [e0] at this
        rw [this]; simp
      · refine Ev.weakS (P := fun t => G.tk ≤ t) ((Ev.callB (EvV.builtin T.g (b_hex T).1 T.b (b_hex T).2 rfl rfl) (.cons (Ev.name rfl rfl) (fun _ => rfl) .nil) (Cal.hex (PySem.W.kdl_size (by decide +kernel))) (fun _ => rfl) (fun _ => ⟨_, _, rfl⟩) (fun _ => rfl)).cast ?_) fun _ _ => trivial
        have : baseText "0x" 16 (flW 0 0) = "0x0" := by decide +kernel
        rw [this]
      · refine Ex.freeze (x := "names") rfl (Ex.one (Ex1.ret ?_))
        refine (Ev.joinT (xs := ["0x0"]) (P := fun _ => True) Ev.str (Ev.name rfl rfl) (fun _ _ => trivial) (by decide +kernel) (fun _ => rfl) (fun _ => rfl) rfl).cast ?_
        have : Txt.join (", " : Str) ["0x0"] = "0x0" := by decide +kernel
        rw [this]

-- the places of a word
noncomputable def placesOf (w : Nat) : List Nat := (List.range 4).filter fun j => w.testBit j
theorem told_split : ∀ w < 16, 0 < w → Txt.split (toldOf w) ", " = namesTo w 4 := by decide +kernel
theorem told_ne : ∀ w < 16, 0 < w → (toldOf w == ("0x0" : Str)) = false := by decide +kernel
theorem told_parts : ∀ w < 16, 0 < w → (Builtin.Str.partsBetween (toldOf w) (Builtin.Str.occurrences (toldOf w) ", " 0 (toldOf w).length ((toldOf w).length + 1)) (", " : Str).length).length ≤ 16777216 ∧ (toldOf w).length ≤ 16777216 := by decide +kernel
end
end Mine
end C12

noncomputable section C13
open PySem PySem.Calls PyProof.Rows
set_option Elab.async false
set_option linter.unusedVariables false
set_option maxRecDepth 100000
namespace Mine
section
variable {G : Gd} {k : Nat} {mean : ExcName → Option Value} {mg mb : Str → Option Value} {κ : Scope} {F : Fm} {σ : Sg}
theorem FnAtK.toFn {x : Str} {ds : List D} {d : D} (h : FnAtK G mg k x ds fun _ => d) : FnAt G mg k x ds d := h

theorem EvK.strs4 {x0 x1 x2 x3 : Str} {c0 c1 c2 c3 : Nat} {p0 p1 p2 p3 pos : Pos} (hb : ∀ env, backTo pos (starEach [.Constant (.str x0) c0 p0, .Constant (.str x1) c1 p1, .Constant (.str x2) c2 p2, .Constant (.str x3) c3 p3] env) =
      [(false, eval (.Constant (.str x0) c0 p0) env), (false, eval (.Constant (.str x1) c1 p1) env), (false, eval (.Constant (.str x2) c2 p2) env), (false, eval (.Constant (.str x3) c3 p3) env)]) :
    EvK G k κ F σ (.List [.Constant (.str x0) c0 p0, .Constant (.str x1) c1 p1, .Constant (.str x2) c2 p2, .Constant (.str x3) c3 p3] pos) (fun n => .list (dST (fun t => n ≤ t ∧ t < n + 4) [x0, x1, x2, x3])) 4 := fun A Xo os s E R I => by
  refine wpAny_List_spliced ?_
  rw [hb]
  refine spliced_cons (wpAny_Constant_str (spliced_cons (wpAny_Constant_str (spliced_cons (wpAny_Constant_str (spliced_cons (wpAny_Constant_str (spliced_nil ⟨PySem.W.kdl_size (by simp), ?_⟩))))))))
  have h4 : s.toks ≤ s.toks + 1 + 1 + 1 + 1 := by omega
  refine ⟨.push h4, .ofList I.offSize ⟨_, Heap.get?_push_size _ rfl, rfl, _, rfl⟩ ?_, Nat.le_refl _⟩
  have q : ∀ c, c < 4 → s.toks ≤ s.toks + c ∧ s.toks + c < s.toks + 4 := fun c hc => ⟨Nat.le_add_right _ _, Nat.add_lt_add_left hc _⟩
  exact .cons (.ofStrT (q 0 (by decide))) (.cons (.ofStrT (q 1 (by decide))) (.cons (.ofStrT (q 2 (by decide))) (.cons (.ofStrT (q 3 (by decide))) .nil)))

noncomputable def nms : List Str := ["OPTIMIZED", "NEWLOCALS", "VARARGS", "VARKEYWORDS"]
noncomputable def plI (w : Nat) : List Int := (placesOf w).map fun j : Nat => (j : Int)
theorem names_places (w : Nat) : namesTo w 4 = (placesOf w).map nmS := rfl
theorem nms_get : ∀ j < 4, nms.getD j default = nmS j ∧ ∀ i < j, nms.getD i default ≠ nmS j := by decide +kernel
noncomputable def idxS (y : Str) : Int := ((nms.findIdx fun x => x == y : Nat) : Int)
theorem idx_nm : ∀ j < 4, idxS (nmS j) = (j : Int) := by decide +kernel
noncomputable def outP : D → Option D
  | .strT y _ => some (.int (idxS y))
  | _ => none
theorem out_all (Q : Tok → Prop) (w : Nat) : (dST Q (namesTo w 4)).filterMap outP = dI (plI w) := by
  have h : ∀ (l : List Nat), (∀ j ∈ l, j < 4) → (dST Q (l.map nmS)).filterMap outP = dI (l.map fun j : Nat => (j : Int)) := fun l => by
    induction l with
    | nil => intro _; rfl
    | cons j l ih =>
      intro hl
      have e := ih fun i hi => hl i (.tail _ hi)
      simp only [dST, dI, List.map_cons, List.filterMap_cons, outP] at e ⊢
      rw [idx_nm j (hl j (.head _)), e]
  exact h _ fun j hj => by simpa using (List.mem_filter.mp hj).1

theorem c_places (T : Top pw lo mean mg mb G.hb) (FT : FlagTab G mg "COMPILER_FLAG_NAMES" nmS 4) (hnb : NoneBooked G.hb) (h0 : 0 < G.tk) (w : Nat) (hw : w < 16) :
    FnAt G mg (k + 2) "_law_places" [.int (w : Int)] (.list (dI (plI w))) :=
  FnAtK.toFn (FnAtK.mk T (rc := rcAt 20) (names := ["word"]) (cf := ["names"]) (d := fun _ => .list (dI (plI w))) (rc_mem rfl 20 rfl rfl) (fun pm code doc => bind1 fun a => rfl) rfl (by intro x hx; simp at hx; rcases hx with rfl <;> rfl) rfl rfl (fun n => rfl) (by decide) (by decide) rfl
    fun F hF htk => by
      refine Ex.tokAssign (EvK.strs4 (fun _ => rfl)) (.inr ⟨rfl, by rw [hF]; exact .head _⟩) (fun _ => rfl) fun n hn => ?_
      have hn' : n < n + 4 := by omega
      by_cases hz : w = 0
      · subst hz
        refine Ex.cons (Ex1.assign (Ev.fn (c_flags0 T) T.g (.cons (Ev.name rfl rfl) (fun _ => rfl) .nil) rfl rfl (fun _ => rfl) (fun _ => ⟨_, _, rfl⟩)) (.inl rfl) (fun _ => rfl)) ?_
        exact Ex.stop (Ex1.if_t ((EvT.cmp (Ev.forgetS (Ev.name rfl rfl)).w Ev.str.w OpC.eqS rfl).cast (by decide)) (Ex.one (Ex1.ret ((Ev.list (ds := []) .nil (fun _ => rfl) (PySem.W.kdl_size (by decide))).cast rfl)))) fun _ e => nomatch e
      · have hw0 : 0 < w := Nat.pos_of_ne_zero hz
        refine Ex.cons (Ex1.assign (d := .strT (toldOf w) (flagP G (n + 4))) (Ev.fnK (c_flags T FT h0 w hw hw0) T.g (.cons (Ev.name rfl rfl) (fun _ => rfl) .nil) (fun m hm X h v r => r.weakS fun t ht => ⟨ht.1, ht.2.imp id fun q => Nat.le_trans hm q⟩) rfl rfl (fun _ => rfl) (fun _ => ⟨_, _, rfl⟩)) (.inl rfl) (fun _ => rfl)) ?_
        refine Ex.cons (Ex1.if_f ((EvT.cmp (Ev.forgetS (Ev.name rfl rfl)).w Ev.str.w OpC.eqS rfl).cast (told_ne w hw hw0)) Ex.nil) ?_
        refine Ex.one (Ex1.ret ?_)
        have hparts := told_parts w hw hw0
        have fresh : ∀ t, (F.at (n + 4)).s0.toks ≤ t → flagP G (n + 4) t := fun t ht => ⟨Nat.ne_of_gt (Nat.lt_of_lt_of_le (Nat.succ_pos _) ht), .inr ht⟩
        refine (Ev.comp (σ' := [("names", .val (.list (dST (fun t => n ≤ t ∧ t < n + 4) nms)))]) (Comp.list1 (ds := dST (flagP G (n + 4)) (namesTo w 4)) (fr := ["names"]) (cf := []) outP
          ((Ev.splitT (Ev.name rfl rfl) Ev.str fresh (by decide) (PySem.W.kdl_size hparts.2) (PySem.W.kdl_size hparts.1) (fun _ => rfl) (fun _ => rfl) rfl).cast (by rw [told_split w hw hw0]))
          ⟨rfl, by decide +kernel, rfl, by decide +kernel, by decide +kernel, .inl ⟨rfl, by decide +kernel⟩⟩ (fun x sl h => ?_) (by intro x hx; rw [List.mem_singleton.mp hx]; exact ⟨_, rfl⟩) (.inl rfl) (fun i => .cons rfl .nil) (PySem.W.kdl_size (by rw [dST_length]; have := namesTo_length w 4; omega)) (fun d F' hF' hd => ?_) (fun _ _ => rfl))).cast (by rw [out_all])
        · rcases lookup_cons' h with ⟨rfl, rfl⟩ | ⟨-, h⟩
          · exact ⟨.head _, rfl, rfl⟩
          · simp at h
        · obtain ⟨y, hy, rfl⟩ := List.mem_map.mp hd
          rw [names_places] at hy
          obtain ⟨j, hj, rfl⟩ := List.mem_map.mp hy
          have hj4 : j < 4 := by simpa using (List.mem_filter.mp hj).1
          refine ⟨true, EvTs.nil, (fun h => nomatch h), fun _ => ⟨_, rfl, ?_⟩⟩
          refine (Ev.fn (c_indexOf T hnb (fun t => n ≤ t ∧ t < n + 4) (flagP G (n + 4)) nms (nmS j) j hj4 (nms_get j hj4).1 (nms_get j hj4).2 (fun t u ht hu => ⟨?_, hu.1, ?_⟩)) T.g (.cons (Ev.name rfl rfl) (fun _ => rfl) (.cons (Ev.name rfl rfl) (fun _ => rfl) .nil)) rfl rfl (fun _ => rfl) (fun _ => ⟨_, _, rfl⟩)).cast (by rw [idx_nm j hj4])
          · exact Nat.ne_of_gt (Nat.lt_of_lt_of_le h0 (Nat.le_trans htk (Nat.le_trans hn ht.1)))
          · rcases hu.2 with q | q
            · exact Nat.ne_of_gt (Nat.lt_of_lt_of_le q (Nat.le_trans htk (Nat.le_trans hn ht.1)))
            · exact Nat.ne_of_lt (Nat.lt_of_lt_of_le ht.2 q))
end
end Mine
end C13

noncomputable section C14
open PySem PySem.Calls PyProof.Rows
set_option Elab.async false
set_option linter.unusedVariables false
set_option maxRecDepth 100000
namespace Mine
section
variable {G : Gd} {k : Nat} {mean : ExcName → Option Value} {mg mb : Str → Option Value} {κ : Scope} {F : Fm} {σ : Sg}
theorem Ev.strTrue {e : Expr} {x : Str} (h : Ev G k κ F σ e (.str x)) : Ev G k κ F σ e (.strT x fun _ => True) := fun A Xo os s E R I =>
  wp_st (β := Unit) (h A Xo os s E R I) fun v s1 g1 r1 => by obtain ⟨t, rfl⟩ := r1.str'; exact ⟨g1, .ofStrT trivial⟩

noncomputable def signOf (xs : List Int) (j : Nat) : Str := one (if xs.any (fun y => y == (j : Int)) then 65 + j else 97 + j)
noncomputable def wrL (xs : List Int) : Str := Txt.join "" ((List.range 4).map (signOf xs))
noncomputable def unInt : D → Int
  | .int i => i
  | _ => 0
noncomputable def unL : D → List Int
  | .list ds => ds.map unInt
  | _ => []
theorem unL_dI (xs : List Int) : unL (.list (dI xs)) = xs := by simp [unL, dI, Function.comp_def, unInt]
noncomputable def outW (d : D) : Option D := some (.str (wrL (unL d)))
theorem join_sign (xs : List Int) : JoinOk "" ((List.range 4).map (signOf xs)) = true := by
  refine joinOk_of ?_
  simp only [List.map_map, List.length_map, List.length_range]
  have : ∀ j, (signOf xs j).length = 1 := fun j => rfl
  simp only [Function.comp_def, this]
  decide
theorem abcd (j : Nat) (h : j < 4) : chAt "ABCD" (j : Int) = some (65 + j) ∧ chAt "abcd" (j : Int) = some (97 + j) := by
  have : ∀ j : Nat, j < 4 → chAt "ABCD" (j : Int) = some (65 + j) ∧ chAt "abcd" (j : Int) = some (97 + j) := by decide +kernel
  exact this j h

/-- the words, written -/
theorem ev_written (T : Top pw lo mean mg mb G.hb) {xss : List (List Int)} (hw : σ.lookup ("words" : Str) = some (.val (.list (xss.map fun xs => D.list (dI xs))))) (hl : xss.length ≤ 1000) (hx : ∀ xs ∈ xss, xs.length ≤ 1000) :
    ∃ v tp p, (rcAt 23).body[0]? = some (Stmt.Assign [.Name "written" tp] v p) ∧ Ex1 G (k + 1) (rcAt 23).scope F σ (Stmt.Assign [.Name "written" tp] v p) (.next (("written", .val (.list (xss.map fun xs => D.str (wrL xs)))) :: σ)) := by
  refine ⟨_, _, _, rfl, ?_⟩
  have hds : (xss.map fun xs => D.list (dI xs)).filterMap outW = xss.map fun xs => D.str (wrL xs) := by
    rw [List.filterMap_map]
    have e : (outW ∘ fun xs => D.list (dI xs)) = fun xs => some (D.str (wrL xs)) := by funext xs; show some (D.str (wrL (unL (.list (dI xs))))) = _; rw [unL_dI]
    rw [e]; exact congrFun List.filterMap_eq_map _
  rw [← hds]
  refine Ex1.comp (σ' := []) (Comp.list1 (ds := xss.map fun xs => D.list (dI xs)) (fr := []) (cf := ["places"]) outW (Ev.name hw rfl)
    ⟨rfl, by decide +kernel, rfl, by decide +kernel, by decide +kernel, .inr ⟨rfl, ?_⟩⟩ (fun x sl h => by simp at h) (fun x hx => nomatch hx) (.inr ⟨rfl, .head _⟩) (fun i => .nil) (PySem.W.kdl_size (by simp; omega)) (fun d F' hF' hd => ?_) (fun _ _ => rfl)) (.inl rfl) (fun env h => swaps_true h rfl rfl rfl (by decide +kernel))
  · intro x hx n; rw [List.mem_singleton.mp hx]; rfl
  · obtain ⟨xs, hxs, rfl⟩ := List.mem_map.mp hd
    have hxl := hx xs hxs
    refine ⟨true, EvTs.nil, (fun h => nomatch h), fun _ => ⟨_, rfl, ?_⟩⟩
    rw [unL_dI]
    refine Ev.forgetS (P := fun _ => True) (Ev.joinT (xs := (List.range 4).map (signOf xs)) (P := fun _ => True) Ev.str ?_ (fun _ _ => trivial) (join_sign xs) (fun _ => rfl) (fun _ => rfl) rfl)
    refine (Ev.comp (σ' := [("places", .val (.list (dI xs)))]) (Comp.range (n := 4) (fr := ["places"]) (cf := []) (fun j => some (.strT (signOf xs j) fun _ => True)) (EvV.builtin T.g (b_range T).1 T.b (b_range T).2 rfl rfl) (.cons Ev.int (fun _ => rfl) .nil)
      ⟨rfl, by decide +kernel, rfl, by decide +kernel, by decide +kernel, .inl ⟨rfl, by decide +kernel⟩⟩ (fun x sl h => ?_) (by intro x hx; rw [List.mem_singleton.mp hx]; exact ⟨_, rfl⟩) (.inl rfl) (fun i => .cons rfl .nil) (PySem.W.kdl_size (by decide)) (fun j F'' hF'' hj => ?_) (fun _ => rfl) (fun _ => ⟨_, _, rfl⟩) (fun _ => rfl) (fun _ _ => rfl))).cast ?_
    · rcases lookup_cons' h with ⟨rfl, rfl⟩ | ⟨-, h⟩
      · exact ⟨.head _, rfl, rfl⟩
      · simp at h
    · refine ⟨true, EvTs.nil, (fun h => nomatch h), fun _ => ⟨_, rfl, Ev.strTrue ?_⟩⟩
      have hj' : j < 4 := hj
      obtain ⟨h1, h2⟩ := abcd j hj'
      unfold signOf
      by_cases hb : (xs.any fun y => y == (j : Int)) = true
      · rw [if_pos hb]
        exact Ev.ite_t ((EvT.value (Ev.fn (c_contains T xs (j : Int)) T.g (.cons (Ev.name rfl rfl) (fun _ => rfl) (.cons (Ev.name rfl rfl) (fun _ => rfl) .nil)) rfl rfl (fun _ => rfl) (fun _ => ⟨_, _, rfl⟩)).w OpT.bool (fun _ => rfl)).cast hb)
          (Ev.fn (c_getitemS T "ABCD" (j : Int) (65 + j) (by simp; omega) h1) T.g (.cons Ev.str (fun _ => rfl) (.cons (Ev.name rfl rfl) (fun _ => rfl) .nil)) rfl rfl (fun _ => rfl) (fun _ => ⟨_, _, rfl⟩))
      · rw [if_neg hb]
        exact Ev.ite_f ((EvT.value (Ev.fn (c_contains T xs (j : Int)) T.g (.cons (Ev.name rfl rfl) (fun _ => rfl) (.cons (Ev.name rfl rfl) (fun _ => rfl) .nil)) rfl rfl (fun _ => rfl) (fun _ => ⟨_, _, rfl⟩)).w OpT.bool (fun _ => rfl)).cast (Bool.eq_false_iff.mpr hb))
          (Ev.fn (c_getitemS T "abcd" (j : Int) (97 + j) (by simp; omega) h2) T.g (.cons Ev.str (fun _ => rfl) (.cons (Ev.name rfl rfl) (fun _ => rfl) .nil)) rfl rfl (fun _ => rfl) (fun _ => ⟨_, _, rfl⟩))
    · rw [show (List.range 4).filterMap (fun j => some (D.strT (signOf xs j) fun _ => True)) = (List.range 4).map (fun j => D.strT (signOf xs j) fun _ => True) from congrFun List.filterMap_eq_map _]
      simp [dST]
end
end Mine
end C14

noncomputable section C15
open PySem PySem.Calls PyProof.Rows
set_option Elab.async false
set_option linter.unusedVariables false
set_option maxRecDepth 100000
namespace Mine
noncomputable def shareOf (ws : List Int) (i j : Nat) : Int := let s := ws.getD i 0 * ws.getD j 0; if i < j then s + s else s
noncomputable def signsOf (f : Nat) : List Int := List.replicate f (-1) ++ List.replicate (4 - f) 1
noncomputable def distStep (ws : List Int) (far : Nat → Nat → Nat) (sums : List Int) (i j : Nat) : List Int := List.zipWith (fun a b => a + shareOf ws i j * b) sums (prodOf (signsOf (far i j)))
noncomputable def innerD (ws : List Int) (far : Nat → Nat → Nat) (i : Nat) (sums : List Int) : Nat → List Int
  | 0 => sums
  | t + 1 => distStep ws far (innerD ws far i sums t) i (i + t)
noncomputable def outerD (ws : List Int) (far : Nat → Nat → Nat) : Nat → List Int
  | 0 => [0, 0, 0, 0, 0]
  | i + 1 => innerD ws far i (outerD ws far i) (4 - i)
theorem prod5 (f : Nat) (h : f ≤ 4) : (prodOf (signsOf f)).length = 5 := by
  unfold prodOf signsOf
  rw [foldl_prod_length]; simp; omega
theorem innerD_length (ws : List Int) (far : Nat → Nat → Nat) (hf : ∀ i j, far i j ≤ 4) (i : Nat) (sums : List Int) (h : sums.length = 5) : ∀ t, (innerD ws far i sums t).length = 5
  | 0 => h
  | t + 1 => by rw [innerD, distStep, List.length_zipWith, innerD_length ws far hf i sums h t, prod5 _ (hf _ _)]; rfl
theorem outerD_length (ws : List Int) (far : Nat → Nat → Nat) (hf : ∀ i j, far i j ≤ 4) : ∀ i, (outerD ws far i).length = 5
  | 0 => rfl
  | i + 1 => innerD_length ws far hf i _ (outerD_length ws far hf i) _
theorem prod_small : ∀ f < 5, ∀ b ∈ prodOf (signsOf f), Builtin.Int.intBits b ≤ 64 := by decide +kernel
theorem signs_ok (f : Nat) : ∀ s ∈ signsOf f, s = 1 ∨ s = -1 := fun s hs => by
  unfold signsOf at hs
  rcases List.mem_append.mp hs with h | h
  · exact .inr (List.eq_of_mem_replicate h)
  · exact .inl (List.eq_of_mem_replicate h)

section
variable {G : Gd} {k : Nat} {mean : ExcName → Option Value} {mg mb : Str → Option Value} {κ : Scope} {F : Fm} {σ : Sg}
noncomputable def sgDist (ws : List Int) (wr : List Str) (sums : List Int) : Sg := [("sums", .val (.list (dI sums))), ("written", .val (.list (wr.map D.str))), ("weights", .val (.list (dI ws)))]

theorem dist_body (T : Top pw lo mean mg mb G.hb) {ws : List Int} {wr : List Str} {far : Nat → Nat → Nat} (hws : ws.length = 4) (hwr : wr.length = 4) (hbits : ∀ w ∈ ws, Builtin.Int.intBits w ≤ 64) (hf : ∀ i j, far i j ≤ 4)
    (hlev : ∀ i j, i < 4 → j < 4 → FnAt G mg (k + 2) "_levenshtein_distance" [.str (wr.getD i default), .str (wr.getD j default), .int 4] (.int (far i j : Nat))) {sums : List Int} (hs : sums.length = 5) {i j : Nat} (hi : i < 4) (hj : j < 4) (F : Fm) (hF : F.cf = (["share"] : List Str)) :
    ∃ tg it bd el ps tg2 it2 bd2 el2 ps2, (rcAt 23).body[2]? = some (Stmt.For tg it bd el ps) ∧ bd[0]? = some (Stmt.For tg2 it2 bd2 el2 ps2) ∧
      ∃ σ', Ex G (k + 2) (rcAt 23).scope F (([("j", .val (.int ((j : Nat) : Int))), ("i", .val (.int ((i : Nat) : Int)))] : Sg) ++ sgDist ws wr sums) bd2 (.next σ') ∧ Sub (("i", .val (.int ((i : Nat) : Int))) :: sgDist ws wr (distStep ws far sums i j)) σ' := by
  refine ⟨_, _, _, _, _, _, _, _, _, _, rfl, rfl, ?_⟩
  have gw : ∀ n, n < 4 → (wr.map D.str)[n]? = some (.str (wr.getD n default)) := fun n hn => by
    rw [List.getElem?_map, List.getD_eq_getElem?_getD, List.getElem?_eq_getElem (by omega)]; rfl
  have gi : ∀ n, n < 4 → (dI ws)[n]? = some (.int (ws.getD n 0)) := fun n hn => dI_get (by omega)
  have hmem : ∀ n, n < 4 → ws.getD n 0 ∈ ws := fun n hn => by rw [List.getD_eq_getElem?_getD, List.getElem?_eq_getElem (by omega)]; exact List.getElem_mem _
  have hfar := hf i j
  have tail : ∀ (σ0 : Sg), σ0.lookup ("share" : Str) = some (.val (.int (shareOf ws i j))) → σ0.lookup ("sums" : Str) = some (.val (.list (dI sums))) → σ0.lookup ("far" : Str) = some (.val (.int (far i j : Nat))) →
      Sub ([("i", .val (.int ((i : Nat) : Int))), ("written", .val (.list (wr.map D.str))), ("weights", .val (.list (dI ws)))] : Sg) σ0 → ∃ σ', Ex G (k + 2) (rcAt 23).scope F σ0 (match (rcAt 23).body[2]? with
        | some (Stmt.For _ _ bd _ _) => (match bd[0]? with
          | some (Stmt.For _ _ bd2 _ _) => bd2.drop 3
          | _ => [])
        | _ => []) (.next σ') ∧ Sub (("i", .val (.int ((i : Nat) : Int))) :: sgDist ws wr (distStep ws far sums i j)) σ' := fun σ0 h1 h2 h3 h4 => by
    have hsg := signs_ok (far i j)
    have hsl : (signsOf (far i j)).length = 4 := by unfold signsOf; simp; omega
    refine ⟨_, Ex.one (Ex1.comp (σ' := ([("share", .val (.int (shareOf ws i j)))] : Sg)) (Comp.zipI (xs := sums) (ys := prodOf (signsOf (far i j))) (fr := ["share"]) (fun a b => a + shareOf ws i j * b)
        (EvV.builtin T.g (b_zip T).1 T.b (b_zip T).2 rfl rfl) (.cons (Ev.name h2 rfl) (fun _ => rfl)
          (.cons (Ev.fn (c_product T (signsOf (far i j)) hsg (by omega)) T.g (.cons ((Ev.bin (Ev.mulL (EvN.list (.cons (Ev.neg Ev.int) (fun _ => rfl) .nil) (fun _ => rfl) (PySem.W.kdl_size (by simp))) (Ev.name h3 rfl) (by omega) (by omega))
            (Ev.mulL (EvN.list (.cons Ev.int (fun _ => rfl) .nil) (fun _ => rfl) (PySem.W.kdl_size (by simp))) (Ev.bin Ev.int (Ev.name h3 rfl) Op2.subI) (by omega) (by omega)) (Op2.addL (PySem.W.kdl_size (by simp; omega)))).cast ?_) (fun _ => rfl) .nil) rfl rfl (fun _ => rfl) (fun _ => ⟨_, _, rfl⟩)) (fun _ => rfl) .nil))
        ⟨rfl, by decide +kernel, rfl, by decide +kernel, by decide +kernel, .inl ⟨rfl, by decide +kernel⟩⟩ (fun x sl h => ?_) (by intro x hx; rw [List.mem_singleton.mp hx]; exact ⟨_, h1⟩) rfl rfl (fun i => .cons rfl .nil) (PySem.W.kdl_size (by omega)) (fun x y F' hF' hx hy => ?_) (fun _ => rfl) (fun _ => ⟨_, _, rfl⟩) (fun _ => rfl) (fun _ _ => rfl)) (.inl rfl) (fun env h => swaps_true h rfl rfl rfl (by decide +kernel))), ?_⟩
    · rw [show ((4 : Int) - ((far i j : Nat) : Int)).toNat = 4 - far i j by omega, Int.toNat_natCast]
      simp [dI, signsOf]
    · rcases lookup_cons' h with ⟨rfl, rfl⟩ | ⟨-, h⟩
      · exact ⟨.head _, h1, rfl⟩
      · simp at h
    · exact Ev.fn (c_add T x (shareOf ws i j * y)) T.g (.cons (Ev.name rfl rfl) (fun _ => rfl) (.cons (Ev.fn (c_mul T (shareOf ws i j) y (IntMulOk.of_right (prod_small (far i j) (by omega) y hy))) T.g (.cons (Ev.name rfl rfl) (fun _ => rfl) (.cons (Ev.name rfl rfl) (fun _ => rfl) .nil)) rfl rfl (fun _ => rfl) (fun _ => ⟨_, _, rfl⟩)) (fun _ => rfl) .nil)) rfl rfl (fun _ => rfl) (fun _ => ⟨_, _, rfl⟩)
    · exact .cons (by rw [lookup_ne (by decide)]; exact h4 _ _ rfl) (.cons rfl (.cons (by rw [lookup_ne (by decide)]; exact h4 _ _ rfl) (.cons (by rw [lookup_ne (by decide)]; exact h4 _ _ rfl) .nil)))
  by_cases h : i < j
  · obtain ⟨σ', hex, hsub⟩ := tail (("share", .val (.int (shareOf ws i j))) :: ("share", .val (.int (ws.getD i 0 * ws.getD j 0))) :: ("far", .val (.int ((far i j : Nat) : Int))) :: (([("j", .val (.int ((j : Nat) : Int))), ("i", .val (.int ((i : Nat) : Int)))] : Sg) ++ sgDist ws wr sums)) rfl rfl rfl (.cons rfl (.cons rfl (.cons rfl .nil)))
    have hsh : shareOf ws i j = ws.getD i 0 * ws.getD j 0 + ws.getD i 0 * ws.getD j 0 := if_pos h
    refine ⟨σ', Ex.cons (Ex1.assign (d := .int ((far i j : Nat) : Int)) (Ev.fn (hlev i j hi hj) T.g (.cons (Ev.item (Ev.name rfl rfl) (Ev.name rfl rfl) (gw i hi) (PySem.W.kdl_size (by simp; omega)) (fun _ _ => rfl)) (fun _ => rfl) (.cons (Ev.item (Ev.name rfl rfl) (Ev.name rfl rfl) (gw j hj) (PySem.W.kdl_size (by simp; omega)) (fun _ _ => rfl)) (fun _ => rfl) (.cons Ev.int (fun _ => rfl) .nil))) rfl rfl (fun _ => rfl) (fun _ => ⟨_, _, rfl⟩)) (.inl rfl) (fun _ => rfl))
      (Ex.cons (Ex1.assign (d := .int (ws.getD i 0 * ws.getD j 0)) (Ev.fn (c_mul T _ _ (IntMulOk.of_left (hbits _ (hmem i hi)))) T.g (.cons (Ev.fn (c_getitemL T (dI ws) i _ (gi i hi) (PySem.W.kdl_size (by rw [dI_length]; omega))) T.g (.cons (Ev.name rfl rfl) (fun _ => rfl) (.cons (Ev.name rfl rfl) (fun _ => rfl) .nil)) rfl rfl (fun _ => rfl) (fun _ => ⟨_, _, rfl⟩)) (fun _ => rfl)
          (.cons (Ev.fn (c_getitemL T (dI ws) j _ (gi j hj) (PySem.W.kdl_size (by rw [dI_length]; omega))) T.g (.cons (Ev.name rfl rfl) (fun _ => rfl) (.cons (Ev.name rfl rfl) (fun _ => rfl) .nil)) rfl rfl (fun _ => rfl) (fun _ => ⟨_, _, rfl⟩)) (fun _ => rfl) .nil)) rfl rfl (fun _ => rfl) (fun _ => ⟨_, _, rfl⟩)) (.inr ⟨rfl, by rw [hF]; exact .head _⟩) (fun _ => rfl))
        (Ex.cons (Ex1.if_t ((EvT.cmp (Ev.name rfl rfl).w (Ev.name rfl rfl).w OpC.gtI rfl).cast (decide_eq_true (by omega))) (Ex.one (Ex1.assign ((Ev.fn (c_add T _ _) T.g (.cons (Ev.name rfl rfl) (fun _ => rfl) (.cons (Ev.name rfl rfl) (fun _ => rfl) .nil)) rfl rfl (fun _ => rfl) (fun _ => ⟨_, _, rfl⟩)).cast (by rw [hsh])) (.inr ⟨rfl, by rw [hF]; exact .head _⟩) (fun _ => rfl)))) hex)), hsub⟩
  · obtain ⟨σ', hex, hsub⟩ := tail (("share", .val (.int (shareOf ws i j))) :: ("far", .val (.int ((far i j : Nat) : Int))) :: (([("j", .val (.int ((j : Nat) : Int))), ("i", .val (.int ((i : Nat) : Int)))] : Sg) ++ sgDist ws wr sums)) rfl rfl rfl (.cons rfl (.cons rfl (.cons rfl .nil)))
    have hsh : shareOf ws i j = ws.getD i 0 * ws.getD j 0 := if_neg h
    refine ⟨σ', Ex.cons (Ex1.assign (d := .int ((far i j : Nat) : Int)) (Ev.fn (hlev i j hi hj) T.g (.cons (Ev.item (Ev.name rfl rfl) (Ev.name rfl rfl) (gw i hi) (PySem.W.kdl_size (by simp; omega)) (fun _ _ => rfl)) (fun _ => rfl) (.cons (Ev.item (Ev.name rfl rfl) (Ev.name rfl rfl) (gw j hj) (PySem.W.kdl_size (by simp; omega)) (fun _ _ => rfl)) (fun _ => rfl) (.cons Ev.int (fun _ => rfl) .nil))) rfl rfl (fun _ => rfl) (fun _ => ⟨_, _, rfl⟩)) (.inl rfl) (fun _ => rfl))
      (Ex.cons (Ex1.assign (d := .int (shareOf ws i j)) ((Ev.fn (c_mul T _ _ (IntMulOk.of_left (hbits _ (hmem i hi)))) T.g (.cons (Ev.fn (c_getitemL T (dI ws) i _ (gi i hi) (PySem.W.kdl_size (by rw [dI_length]; omega))) T.g (.cons (Ev.name rfl rfl) (fun _ => rfl) (.cons (Ev.name rfl rfl) (fun _ => rfl) .nil)) rfl rfl (fun _ => rfl) (fun _ => ⟨_, _, rfl⟩)) (fun _ => rfl)
          (.cons (Ev.fn (c_getitemL T (dI ws) j _ (gi j hj) (PySem.W.kdl_size (by rw [dI_length]; omega))) T.g (.cons (Ev.name rfl rfl) (fun _ => rfl) (.cons (Ev.name rfl rfl) (fun _ => rfl) .nil)) rfl rfl (fun _ => rfl) (fun _ => ⟨_, _, rfl⟩)) (fun _ => rfl) .nil)) rfl rfl (fun _ => rfl) (fun _ => ⟨_, _, rfl⟩)).cast (by rw [hsh])) (.inr ⟨rfl, by rw [hF]; exact .head _⟩) (fun _ => rfl))
        (Ex.cons (Ex1.if_f ((EvT.cmp (Ev.name rfl rfl).w (Ev.name rfl rfl).w OpC.gtI rfl).cast (decide_eq_false (by omega))) Ex.nil) hex)), hsub⟩
end
end Mine
end C15

noncomputable section C16
open PySem PySem.Calls PyProof.Rows
set_option Elab.async false
set_option linter.unusedVariables false
set_option maxRecDepth 100000
namespace Mine
section
variable {G : Gd} {k : Nat} {mean : ExcName → Option Value} {mg mb : Str → Option Value} {κ : Scope} {F : Fm} {σ : Sg}
theorem c_distances (T : Top pw lo mean mg mb G.hb) {ws : List Int} {xss : List (List Int)} {far : Nat → Nat → Nat} (hws : ws.length = 4) (hxs : xss.length = 4) (hx : ∀ xs ∈ xss, xs.length ≤ 1000) (hbits : ∀ w ∈ ws, Builtin.Int.intBits w ≤ 64) (hf : ∀ i j, far i j ≤ 4)
    (hlev : ∀ i j, i < 4 → j < 4 → FnAt G mg (k + 2) "_levenshtein_distance" [.str ((xss.map wrL).getD i default), .str ((xss.map wrL).getD j default), .int 4] (.int (far i j : Nat))) :
    FnAt G mg (k + 3) "_law_by_distances" [.list (dI ws), .list (xss.map fun xs => D.list (dI xs))] (.list (dI (outerD ws far 4))) :=
  FnAt.mk T (rc := rcAt 23) (names := ["weights", "words"]) (cf := ["share"]) (rc_mem rfl 23 rfl rfl) (fun pm code doc => bind2 fun a b => rfl) rfl (by intro x hx; simp at hx; rcases hx with rfl | rfl <;> rfl) rfl rfl (fun n => rfl) (by decide) (by decide) rfl
    fun F hF => by
      have hwr : (xss.map wrL).length = 4 := by rw [List.length_map]; exact hxs
      obtain ⟨v, tp, p, h1, h2⟩ := ev_written (G := G) (k := k + 1) (F := F) (σ := ([("weights", .val (.list (dI ws))), ("words", .val (.list (xss.map fun xs => D.list (dI xs))))] : Sg)) T (xss := xss) rfl (by omega) hx
      cases h1
      refine Ex.cons h2 ?_
      refine Ex.cons (σ' := sgDist ws (xss.map wrL) (outerD ws far 0)) (Ex1.post (Ex1.assign (d := .list (dI [0, 0, 0, 0, 0])) (Ev.list (.cons Ev.int (fun _ => rfl) (.cons Ev.int (fun _ => rfl) (.cons Ev.int (fun _ => rfl) (.cons Ev.int (fun _ => rfl) (.cons Ev.int (fun _ => rfl) .nil))))) (fun _ => rfl) (PySem.W.kdl_size (by decide))) (.inl rfl) (fun _ => rfl)) (.cons rfl (.cons ?_ (.cons rfl .nil)))) ?_
      · show some (Slot.val (.list _)) = _
        rw [List.map_map]; rfl
      refine Ex.cons (Ex1.for (n := 4) (m := 4) (σs := fun i => sgDist ws (xss.map wrL) (outerD ws far i)) (bs := OutR "i" 0) (EvI.range (a := 0) (EvV.builtin T.g (b_range T).1 T.b (b_range T).2 rfl rfl) (.cons Ev.int (fun _ => rfl) .nil) (.inl ⟨rfl, rfl⟩) (by decide) (fun _ => rfl) (fun _ => ⟨_, _, rfl⟩) (fun _ => rfl))
        (.inl rfl) (fun _ _ => rfl) (Nat.le_refl _) (fun i hi => ?_) (.inl ⟨rfl, Ex.nil⟩)) (Ex.one (Ex1.ret (Ev.name rfl rfl)))
      have e : OutR "i" 0 i = ([("i", .val (.int ((i : Nat) : Int)))] : Sg) := by unfold OutR; rw [Nat.zero_add]
      rw [e]
      have hsl := outerD_length ws far hf i
      refine ⟨("i", .val (.int ((i : Nat) : Int))) :: sgDist ws (xss.map wrL) (outerD ws far (i + 1)), Ex.one (Ex1.for (n := 4 - i) (m := 4 - i) (σs := fun t => ("i", .val (.int ((i : Nat) : Int))) :: sgDist ws (xss.map wrL) (innerD ws far i (outerD ws far i) t)) (bs := OutR "j" i)
        (EvI.range (a := i) (EvV.builtin T.g (b_range T).1 T.b (b_range T).2 rfl rfl) (.cons (Ev.name rfl rfl) (fun _ => rfl) (.cons (Ev.int.cast (by congr 1; omega)) (fun _ => rfl) .nil)) (.inr rfl) (by omega) (fun _ => rfl) (fun _ => ⟨_, _, rfl⟩) (fun _ => rfl))
        (.inl rfl) (fun _ _ => rfl) (Nat.le_refl _) (fun t ht => ?_) (.inl ⟨rfl, Ex.nil⟩)), .cons rfl (.cons rfl (.cons rfl .nil))⟩
      have hil := innerD_length ws far hf i _ hsl t
      obtain ⟨tg, it, bd, el, ps, tg2, it2, bd2, el2, ps2, q1, q2, hb⟩ := dist_body (G := G) (k := k) T (ws := ws) (wr := xss.map wrL) (far := far) hws hwr hbits hf hlev hil hi (show i + t < 4 by omega) F hF
      cases q1
      cases q2
      exact hb
end
end Mine
end C16

noncomputable section C17
open PySem PySem.Calls PyProof.Rows
set_option Elab.async false
set_option linter.unusedVariables false
set_option maxRecDepth 100000
namespace Mine
section
noncomputable def escItems : Nat → Bool → List Nat → List (Nat × Str)
  | _, _, [] => []
  | i, true, c :: r => (i, (⟨#[92]⟩ : Str) ++ (⟨#[c]⟩ : Str)) :: escItems (i + 1) false r
  | i, false, c :: r => if c = 92 then escItems (i + 1) true r else (i, ⟨#[c]⟩) :: escItems (i + 1) false r
noncomputable def escEnd : Bool → List Nat → Bool
  | e, [] => e
  | true, _ :: r => escEnd false r
  | false, c :: r => escEnd (c == 92) r

structure Cx where
  b : Shared
  S : Addr
  L : Addr
  X0 : List Addr
  its : List (Nat × Str)
noncomputable def Cx.Y (C : Cx) : Protocol := fun m s₀ v s kap => (∃ it, C.its[C.its.length - 1 - m]? = some it ∧ ItemRep C.X0 s.heap it v) ∧ Kp C.L s₀ s ∧ St [] C.b s ∧ ∀ s'', Rel C.S s s'' → kap (.send .none) s''
noncomputable def Cx.P (C : Cx) : Nat → Shared → Shared → Prop := fun n s₀ s => n = 0 ∧ Kp C.L s₀ s ∧ St [] C.b s
noncomputable def Cx.R (C : Cx) : GenEnd := fun n s₀ r s => r = .ok (.ret .none) ∧ C.P n s₀ s

variable {G : Gd} {k : Nat} {mean : ExcName → Option Value} {mg mb : Str → Option Value} {F : Fm} {C : Cx} {A : Around} {s₀ s : Shared} {fs : List Frame} {X1 : List Addr}

noncomputable def sgE (x : Str) (e : Bool) : Sg := [("escape", .val (.bool e)), ("addr", .val (.str x))]
theorem sgE_own {x : Str} {e : Bool} : ∀ y sl, (sgE x e).lookup y = some sl → sl.isOwn = false := fun y sl h => by
  rcases lookup_cons' h with ⟨_, rfl⟩ | ⟨_, h⟩
  · rfl
  · rcases lookup_cons' h with ⟨_, rfl⟩ | ⟨_, h⟩
    · rfl
    · cases h
theorem Y_L (h : F.cf = []) {b : Addr} (hb : b ∈ F.Y []) : b = F.env.locals := by
  rcases mem_Y.mp hb with q | q | q
  · exact q
  · unfold Fm.cc at q
    rw [h] at q
    obtain ⟨p, hp, _⟩ := List.mem_map.mp q
    exact absurd (List.mem_filter.mp hp).2 (by simp)
  · exact nomatch q

/-- what the loop needs to know of its frame -/
structure LoopOk (G : Gd) (k : Nat) (F : Fm) (C : Cx) (A : Around) (X1 : List Addr) (c : Code) (fs : List Frame) : Prop where
  cf : F.cf = []
  L : F.env.locals = C.L
  b : F.s0 = C.b
  S1 : C.S ∈ X1
  SZ : C.S ∉ F.Z []
  S0 : F.s0.heap.get? C.S = none
  X0 : ∀ c ∈ C.X0, c = F.env.locals ∨ c ∈ X1
  LX : C.L ∈ C.X0
  SX : C.S ∈ C.X0
  room : Room k (A.over c fs)
  fs1 : splitAtGen fs = none
  fs2 : fs.any Frame.guarded = false

theorem seg_yield_esc {σ : Sg} {W : List Addr} {c : Code} (O : LoopOk G k F C A X1 c fs) {e : Expr} {p1 p2 : Pos} {m : Nat} {it : Nat × Str} {K : Flow → Sem Fin} {H : Value → Sem Fin} (hκ : (rcAt 0).scope.isCoroutine = false) {u : Tok} {x : Str} {itA eA : Addr} {i : Nat} (hSW : C.S ≠ itA ∧ C.S ≠ eA)
    (h : Ev G k (rcAt 0).scope F σ e (dItem it)) (hit : C.its[C.its.length - 1 - m]? = some it) (I : Inv G (rcAt 0).scope F σ ⟨W ++ X1, []⟩ [] s) (hE : EnumS x u itA eA i s.heap) (hK : Kp C.L s₀ s)
    (hc : ∀ s', Inv G (rcAt 0).scope F σ ⟨W ++ X1, []⟩ [] s' → EnumS x u itA eA i s'.heap → Seg G.M A C.R C.Y m s' c (K .next) fs s') :
    Seg G.M A C.R C.Y (m + 1) s₀ c ((exec (.Expr (.Yield (some e) p1) p2) F.env).wrap K H id id) fs s := by
  refine seg_Expr_Yield O.fs1 rfl O.fs2 (wp_st (β := Unit) (h _ _ [] s _ O.room I) fun v s1 g1 r1 => fun kap hkap => ?_) (by rw [I.scope]; exact hκ) (by unfold interactive; rw [I.scope, I.kind]; rfl)
  have I1 := I.grow g1
  refine ⟨⟨it, hit, .of r1 fun b hb => ?_⟩, hK.trans (.of g1 fun b hb => nomatch hb), O.b ▸ I1.st, fun s2 hr => hkap .none s2 ?_⟩
  · rcases O.X0 b hb with q | q
    · exact mem_X.mpr (.inl q)
    · exact mem_X.mpr (.inr (.inr (.inr (List.mem_append.mpr (.inr q)))))
  · have I2 : Inv G (rcAt 0).scope F σ ⟨W ++ X1, []⟩ [] s2 := I1.turnW hr.1 (fun b hb => by rw [List.mem_singleton.mp hb]; exact List.mem_append.mpr (.inr O.S1)) (fun b hb => by rw [List.mem_singleton.mp hb]; exact O.SZ) (fun b hb => by rw [List.mem_singleton.mp hb]; exact O.S0)
    refine hc s2 I2 ?_
    obtain ⟨⟨o, ho, q⟩, old, he⟩ := hE
    exact ⟨⟨o, hr.1.heap _ _ (fun z => hSW.1 (List.mem_singleton.mp z).symm) (g1.keep _ _ ho), q⟩, old, hr.1.heap _ _ (fun z => hSW.2 (List.mem_singleton.mp z).symm) (g1.keep _ _ he)⟩

theorem kp_w {L : Addr} {W : List Addr} {s s' : Shared} (g : Stw W s s') (h : ∀ b ∈ W, ∀ o, s.heap.get? b = some o → o.cls = .type "enumerate" ∨ o.cls = .type "str_ascii_iterator") : Kp L s s' :=
  ⟨fun c o e h1 h2 h3 => g.heap c o (fun q => (h c q o e).elim h1 h2) e, let ⟨l, h, _⟩ := g.gens; ⟨l, h⟩⟩
theorem suf_get {α : Type} {l r : List α} {a : α} {m : Nat} (hm : r.length = m) (h : l.drop (l.length - (m + 1)) = a :: r) : l[l.length - 1 - m]? = some a ∧ l.drop (l.length - m) = r := by
  have hl : m + 1 ≤ l.length := by
    have := congrArg List.length h
    rw [List.length_drop, List.length_cons, hm] at this
    omega
  refine ⟨?_, ?_⟩
  · rw [show l.length - 1 - m = l.length - (m + 1) by omega, ← List.head?_drop, h]; rfl
  · rw [show l.length - m = l.length - (m + 1) + 1 by omega, ← List.tail_drop, h]; rfl
theorem sgE_sub {x : Str} {e e' : Bool} {i : Nat} {c : Nat} : Sub (sgE x e') (("escape", .val (.bool e')) :: (([("ch", Slot.val (.str ⟨#[c]⟩)), ("pos", Slot.val (.int i))] : Sg) ++ sgE x e)) := .cons rfl (.cons rfl .nil)
theorem sgE_own3 {x : Str} {e e' : Bool} {i : Nat} {c : Nat} : ∀ y sl, (((("escape" : Str), Slot.val (.bool e')) :: (([("ch", Slot.val (.str ⟨#[c]⟩)), ("pos", Slot.val (.int i))] : Sg) ++ sgE x e)) : Sg).lookup y = some sl → sl.isOwn = false := fun y sl h => by
  rcases lookup_cons' h with ⟨_, rfl⟩ | ⟨_, h⟩
  · rfl
  · rcases lookup_cons' h with ⟨_, rfl⟩ | ⟨_, h⟩
    · rfl
    · rcases lookup_cons' h with ⟨_, rfl⟩ | ⟨_, h⟩
      · rfl
      · exact sgE_own y sl h

theorem esc_loop (T : Top pw lo mean mg mb G.hb) {target iter : Expr} {body : List Stmt} {pos : Pos} (hst : (rcAt 0).body[2]? = some (.For target iter body [] pos)) {x : Str} {u : Tok} {itA eA : Addr} (hne : eA ≠ itA)
    (O : LoopOk G k F C A X1 (.forLoop target (.ref eA) body [] F.env) fs) {kk : Result → Sem Fin} {c0 : Code} {p0 : Pos} (hfs : fs = [.ret kk none false [] c0 p0 []])
    (hSW : C.S ≠ itA ∧ C.S ≠ eA) (hWX : ∀ b ∈ [eA, itA], b ∉ F.X ⟨X1, []⟩ []) (hW0 : ∀ b ∈ [eA, itA], F.s0.heap.get? b = none)
    (hend : ∀ s₀ s, Inv G (rcAt 0).scope F (sgE x false) ⟨X1, []⟩ [] s → Kp C.L s₀ s → Seg G.M A C.R C.Y 0 s₀ c0 (kk (.ok .next)) [] s) :
    ∀ (r : List Nat) (i : Nat) (e : Bool) (s₀ s : Shared), i ≤ x.cps.size → x.cps.toList.drop i = r → C.its.drop (C.its.length - (escItems i e r).length) = escItems i e r → escEnd e r = false → Inv G (rcAt 0).scope F (sgE x e) ⟨[eA, itA] ++ X1, []⟩ [] s →
      EnumS x u itA eA i s.heap → Kp C.L s₀ s → Seg G.M A C.R C.Y (escItems i e r).length s₀ (.forLoop target (.ref eA) body [] F.env) (G.M.den (.forLoop target (.ref eA) body [] F.env)) fs s := by
  have hWZ : ∀ b ∈ [eA, itA], b ∉ F.Z [] := fun b hb q => hWX b hb (Z_X b q)
  have src : Src G k (rcAt 0).scope F target (.ref eA) x.cps.size (OutS "pos" "ch" x) [eA, itA] [] (EnumS x u itA eA) := by
    cases hst; exact Src.enumS (.inl rfl) (.inl rfl) hne
  have clsW : ∀ {i : Nat} {s : Shared}, EnumS x u itA eA i s.heap → ∀ b ∈ [eA, itA], ∀ o, s.heap.get? b = some o → o.cls = .type "enumerate" ∨ o.cls = .type "str_ascii_iterator" := fun hE b q o' ho' => by
    obtain ⟨⟨o, ho, hc, _⟩, old, he⟩ := hE
    rcases List.mem_cons.mp q with rfl | q
    · have := (show _ = _ from he).symm.trans ho'; cases this; exact .inl rfl
    · rw [List.mem_singleton.mp q] at ho'
      rw [ho] at ho'; cases ho'; exact .inr hc
  have kpW : ∀ {i : Nat} {s s' : Shared}, EnumS x u itA eA i s.heap → St ([eA, itA] ++ F.Y []) s s' → Kp C.L s s' := fun hE g => .of g fun b hb => by
    rcases List.mem_append.mp hb with q | q
    · exact .inr fun o ho => clsW hE b q o ho
    · exact .inl ((Y_L O.cf q).trans O.L)
  have kpY : ∀ {s s' : Shared}, St (F.Y []) s s' → Kp C.L s s' := fun g => .of g fun b hb => .inl ((Y_L O.cf hb).trans O.L)
  have enY : ∀ {i : Nat} {s s' : Shared}, EnumS x u itA eA i s.heap → St (F.Y []) s s' → EnumS x u itA eA i s'.heap := fun hE g => by
    obtain ⟨⟨o, ho, q⟩, old, he⟩ := hE
    exact ⟨⟨o, g.heap _ _ (fun z => hWZ itA (.tail _ (.head _)) (Y_Z _ z)) ho, q⟩, old, g.heap _ _ (fun z => hWZ eA (.head _) (Y_Z _ z)) he⟩
  have en0 : ∀ {i : Nat} {s s' : Shared}, EnumS x u itA eA i s.heap → St [] s s' → EnumS x u itA eA i s'.heap := fun hE g => enY hE g.up
  intro r
  induction r with
  | nil =>
    intro i e s₀ s hi hr hsuf he I hE hK
    obtain rfl : e = false := he
    obtain rfl : i = x.cps.size := Nat.le_antisymm hi (by simpa using List.drop_eq_nil_iff.mp hr)
    refine seg_forLoop (wpAny_mono (src.done _ s noE (fun s₃ => Seg G.M A C.R C.Y 0 s₀ (.block [] F.env) (G.M.den (.block [] F.env)) fs s₃) O.room hE (fun _ h => nomatch h) fun s₃ g₃ => ?_) (fun rr s₁ q => ?_) fun _ _ q => q)
    · subst hfs
      exact seg_block_nil (hend _ _ (I.closeW (Xo := ⟨X1, []⟩) (gh := []) g₃ hWX hW0) (hK.trans (kp_w g₃ (clsW hE))))
    · obtain ⟨rfl, q⟩ := q
      exact q
  | cons ch r ih =>
    intro i e s₀ s _ hr hsuf he I hE hK
    have hi : i < x.cps.size := by
      have : i < x.cps.toList.length := by
        refine Nat.lt_of_not_le fun h => ?_
        rw [List.drop_eq_nil_of_le h] at hr; cases hr
      simpa using this
    have hch : x.cps.getD i 0 = ch := by
      have : x.cps.toList[i]? = some ch := by rw [← List.head?_drop, hr]; rfl
      rw [Array.getD_eq_getD_getElem?, ← Array.getElem?_toList, this]; rfl
    have hr' : x.cps.toList.drop (i + 1) = r := by rw [← List.tail_drop, hr]; rfl
    refine seg_forLoop (wpAny_mono (src.turn _ i s (sgE x e) ⟨[eA, itA] ++ X1, []⟩ [] noE (fun s₃ => ∀ K' H', (∀ f, f = .next ∨ f = .cont → K' f = .pure (.again (.forLoop target (.ref eA) body [] F.env))) → Seg G.M A C.R C.Y (escItems i e (ch :: r)).length s₀ (.forLoop target (.ref eA) body [] F.env) ((execs body F.env).wrap K' H' id id) fs s₃)
      O.room hi I (fun b hb => List.mem_append.mpr (.inl hb)) (fun p hp => nomatch hp) hWZ hW0 hE fun s₃ I₃ hE₃ g₃ K' H' hK' => ?_) (fun rr s₁ q => ?_) fun _ _ q => q)
    · have hK₃ := hK.trans (kpW hE g₃)
      have hout : OutS "pos" "ch" x i = ([("ch", .val (.str ⟨#[ch]⟩)), ("pos", .val (.int i))] : Sg) := by unfold OutS; rw [hch]
      rw [hout] at I₃
      have again : ∀ (e' : Bool) {s₀ s₆ : Shared}, C.its.drop (C.its.length - (escItems (i + 1) e' r).length) = escItems (i + 1) e' r → escEnd e' r = false → Inv G (rcAt 0).scope F (sgE x e') ⟨[eA, itA] ++ X1, []⟩ [] s₆ → EnumS x u itA eA (i + 1) s₆.heap → Kp C.L s₀ s₆ →
          Seg G.M A C.R C.Y (escItems (i + 1) e' r).length s₀ (.forLoop target (.ref eA) body [] F.env) (K' .next) fs s₆ := fun e' s₀ s₆ h1 h2 h3 h4 h5 => by
        rw [hK' _ (.inl rfl)]
        exact seg_again rfl (ih (i + 1) e' s₀ s₆ hi hr' h1 h2 h3 h4 h5)
      cases hst
      cases e with
      | true =>
        obtain ⟨hidx, hsuf'⟩ := suf_get (m := (escItems (i + 1) false r).length) rfl hsuf
        refine seg_execs_cons (seg_if (b := true) (EvT.value (Ev.name rfl rfl).w OpT.bool (fun _ => rfl)) O.room I₃ fun s₄ I₄ g₄ => ?_)
        refine seg_execs_cons (seg_yield_esc O rfl hSW (m := (escItems (i + 1) false r).length) (it := (i, (⟨#[92]⟩ : Str) ++ (⟨#[ch]⟩ : Str))) (Ev.tuple (.cons (Ev.name rfl rfl) (fun _ => rfl) (.cons (Ev.bin Ev.str (Ev.name rfl rfl) (Op2.addS (by rw [sizeLine_eq]; show 1 + 1 ≤ _; omega))) (fun _ => rfl) .nil)) (fun _ => rfl) (PySem.W.kdl_size (by simp))) hidx I₄ (en0 hE₃ g₄) (hK₃.trans (kpY g₄.up)) fun s₅ I₅ hE₅ => ?_)
        refine seg_execs_cons (seg_stmt (Ex1.assign Ev.bool (.inl rfl) (fun _ => rfl)) O.room I₅ sgE_own3 fun s₆ I₆ g₆ => ?_)
        exact again false hsuf' he (I₆.weaken sgE_sub) (enY hE₅ g₆) (kpY g₆)
      | false =>
        refine seg_execs_cons (seg_if (b := false) (EvT.value (Ev.name rfl rfl).w OpT.bool (fun _ => rfl)) O.room I₃ fun s₄ I₄ g₄ => ?_)
        by_cases hc : ch = 92
        · subst hc
          have hit : escItems i false (92 :: r) = escItems (i + 1) true r := rfl
          rw [hit] at hsuf ⊢
          refine seg_execs_cons (seg_if (b := true) (EvT.cmp (Ev.name rfl rfl).w Ev.str.w OpC.eqS rfl) O.room I₄ fun s₅ I₅ g₅ => ?_)
          refine seg_execs_cons (seg_stmt (Ex1.assign Ev.bool (.inl rfl) (fun _ => rfl)) O.room I₅ sgE_own3 fun s₆ I₆ g₆ => ?_)
          exact again true hsuf he (I₆.weaken sgE_sub) (enY (en0 (en0 hE₃ g₄) g₅) g₆) (((hK₃.trans (kpY g₄.up)).trans (kpY g₅.up)).trans (kpY g₆))
        · have hit : escItems i false (ch :: r) = (i, ⟨#[ch]⟩) :: escItems (i + 1) false r := by simp only [escItems]; rw [if_neg hc]
          rw [hit] at hsuf ⊢
          obtain ⟨hidx, hsuf'⟩ := suf_get (m := (escItems (i + 1) false r).length) rfl hsuf
          have hne' : ((⟨#[ch]⟩ : Str) == (⟨#[92]⟩ : Str)) = false := beq_eq_false_iff_ne.mpr fun h => hc (by cases h; rfl)
          have hend' : escEnd false r = false := by
            have : (ch == 92) = false := beq_eq_false_iff_ne.mpr hc
            simpa only [escEnd, this] using he
          refine seg_execs_cons (seg_if (b := false) ((EvT.cmp (Ev.name rfl rfl).w Ev.str.w OpC.eqS rfl).cast hne') O.room I₄ fun s₅ I₅ g₅ => ?_)
          refine seg_execs_cons (seg_yield_esc O rfl hSW (m := (escItems (i + 1) false r).length) (it := (i, (⟨#[ch]⟩ : Str))) (Ev.tuple (.cons (Ev.name rfl rfl) (fun _ => rfl) (.cons (Ev.name rfl rfl) (fun _ => rfl) .nil)) (fun _ => rfl) (PySem.W.kdl_size (by simp))) hidx I₅ (en0 (en0 hE₃ g₄) g₅) ((hK₃.trans (kpY g₄.up)).trans (kpY g₅.up)) fun s₆ I₆ hE₆ => ?_)
          exact again false hsuf' hend' (I₆.weaken (Sub.cons rfl (Sub.cons rfl Sub.nil))) hE₆ .refl
    · obtain ⟨v, rfl, q⟩ := q
      exact q
end
end Mine
end C17

noncomputable section C18
open PySem PySem.Calls PyProof.Rows
set_option Elab.async false
set_option linter.unusedVariables false
set_option maxRecDepth 100000
namespace Mine
section
variable {G : Gd} {k : Nat} {κ : Scope} {mean : ExcName → Option Value} {mg mb : Str → Option Value} {F : Fm} {σ : Sg} {Xo : Ou} {os : Os} {C : Cx} {A : Around} {s₀ s : Shared} {fs : List Frame} {X1 : List Addr}

theorem enumS_iter {f : Str} {fp pos : Pos} {args : List Expr} {t : Str} (hv : EvV G κ F σ (.Name f fp) (.type "enumerate")) (ha : EvA G k κ F σ args [.str t]) (hasc : t.cps.all (· < 128) = true)
    (hb : ∀ env, backTo pos (starEach args env) = starEach args env) (hne : ∀ env, ∃ t r, starEach args env = (false, t) :: r) (hpl : ∀ env, (starEach args env).any (·.1) = false)
    {E : Value → Shared → Prop} {Q : Value → Shared → Prop} (R : Room k A) (I : Inv G κ F σ Xo os s)
    (h : ∀ s2 u itA eA, St [] s s2 → eA ≠ itA → EnumS t u itA eA 0 s2.heap → s.heap.get? eA = none → s.heap.get? itA = none → Q (.ref eA) s2) :
    wpAny G.M A (eval (.Call (.Name f fp) args [] pos) F.env) (fun xv s₁ => wpAny G.M A (pyIter xv) Q E s₁) E s :=
  callTQ hv ha hb hne hpl R I fun vs s1 g1 r1 => by
    obtain ⟨v1, rfl, r⟩ := r1.single
    obtain ⟨u, rfl⟩ := r.str'
    refine call_enumerate_str fun h' he hi hsz hk => ?_
    rw [show strIterType t = "str_ascii_iterator" by unfold strIterType; rw [if_pos hasc]] at hi
    have g2 : St [] s1 { s1 with heap := h' } := .of (tk := s1.toks) hk
    exact wpAny_pyIter_enum he (h _ u _ _ (g1.trans g2) (neA (by omega)) ⟨hi, _, he⟩ (g1.dead (dead_ge (Nat.le_add_right _ 1))) (g1.dead (get_size _)))

theorem Room.func {body : List Stmt} {env : Env} (R : Room (k + 1) A) : Room k (A.over (.func body env) []) :=
  ⟨R.handled, by have := R.depth; show A.depth + 0 + 1 + k < _; omega, by have := R.units; show A.units + 0 + 3 + 200 + 10 * k < _; omega⟩
theorem Room.loop {t : Expr} {it : Value} {b o : List Stmt} {env : Env} {body : List Stmt} {env' : Env} {kk : Result → Sem Fin} {p : Pos} (R : Room (k + 1) A) : Room k (A.over (.forLoop t it b o env) [.ret kk none false [] (.func body env') p []]) :=
  ⟨R.handled, by have := R.depth; show A.depth + 1 + 0 + k < _; omega, by have := R.units; show A.units + 3 + 0 + 200 + 10 * k < _; omega⟩

theorem esc_func (T : Top pw lo mean mg mb G.hb) {x : Str} (hasc : x.cps.all (· < 128) = true) (R : Room (k + 1) A) (hits : C.its = escItems 0 false x.cps.toList) (hend : escEnd false x.cps.toList = false)
    (O : ∀ c fs, Room k (A.over c fs) → splitAtGen fs = none → fs.any Frame.guarded = false → LoopOk G k F C A X1 c fs) (I : Inv G (rcAt 0).scope F ([("addr", .val (.str x))] : Sg) ⟨X1, []⟩ [] s) :
    Seg G.M A C.R C.Y C.its.length s (.func (rcAt 0).body F.env) (G.M.den (.func (rcAt 0).body F.env)) [] s := by
  have O0 := O (.func (rcAt 0).body F.env) [] R.func rfl rfl
  have kpY : ∀ {s s' : Shared}, St (F.Y []) s s' → Kp C.L s s' := fun g => .of g fun b hb => .inl ((Y_L O0.cf hb).trans O0.L)
  have own1 : ∀ y sl, ((("pos" : Str), Slot.val (.int 0)) :: ([("addr", .val (.str x))] : Sg)).lookup y = some sl → sl.isOwn = false := fun y sl h => by
    rcases lookup_cons' h with ⟨_, rfl⟩ | ⟨_, h⟩
    · rfl
    · rcases lookup_cons' h with ⟨_, rfl⟩ | ⟨_, h⟩
      · rfl
      · cases h
  have own2 : ∀ y sl, ((("escape" : Str), Slot.val (.bool false)) :: (("pos" : Str), Slot.val (.int 0)) :: ([("addr", .val (.str x))] : Sg)).lookup y = some sl → sl.isOwn = false := fun y sl h => by
    rcases lookup_cons' h with ⟨_, rfl⟩ | ⟨_, h⟩
    · rfl
    · exact own1 y sl h
  refine seg_func (seg_execs_cons (seg_stmt (σ' := (("pos" : Str), Slot.val (.int 0)) :: ([("addr", .val (.str x))] : Sg)) (Ex1.assign Ev.int (.inl rfl) (fun _ => rfl)) O0.room I own1 fun s₁ I₁ g₁ => ?_))
  refine seg_execs_cons (seg_stmt (σ' := (("escape" : Str), Slot.val (.bool false)) :: (("pos" : Str), Slot.val (.int 0)) :: ([("addr", .val (.str x))] : Sg)) (Ex1.assign Ev.bool (.inl rfl) (fun _ => rfl)) O0.room I₁ own2 fun s₂ I₂ g₂ => ?_)
  replace I₂ : Inv G (rcAt 0).scope F (sgE x false) ⟨X1, []⟩ [] s₂ := I₂.weaken (Sub.cons rfl (Sub.cons rfl Sub.nil))
  have K₂ := (kpY g₁).trans (kpY g₂)
  refine seg_execs_cons (seg_For (fun _ => rfl) (enumS_iter (t := x) (EvV.builtin T.g (b_enumerate T).1 T.b (b_enumerate T).2 rfl rfl) (.cons (Ev.name rfl rfl) (fun _ => rfl) .nil) hasc (fun _ => rfl) (fun _ => ⟨_, _, rfl⟩) (fun _ => rfl) O0.room I₂ fun s₃ u itA eA g₃ hne hE he0 hi0 => ?_))
  intro kk p hkk
  have hdead : ∀ b ∈ [eA, itA], s₂.heap.get? b = none := fun b hb => by
    rcases List.mem_cons.mp hb with rfl | q
    · exact he0
    · rw [List.mem_singleton.mp q]; exact hi0
  have I₃ := I₂.around (W := [eA, itA]) (gh := []) g₃ hdead (fun b hb => by
    obtain ⟨⟨o, ho, _⟩, old, he⟩ := hE
    rcases List.mem_cons.mp hb with rfl | q
    · exact ⟨_, he⟩
    · rw [List.mem_singleton.mp q]; exact ⟨o, ho⟩) (fun p hp => nomatch hp)
  have hSl : ∃ o, s₂.heap.get? C.S = some o := I₂.live _ (mem_X.mpr (.inr (.inr (.inr O0.S1))))
  have key := esc_loop (k := k) T rfl (x := x) (u := u) hne (O _ _ R.loop rfl rfl) (kk := kk) (c0 := .func (rcAt 0).body F.env) (p0 := p) rfl ⟨fun e => ?_, fun e => ?_⟩ (fun b hb q => ?_) (fun b hb => I₂.st.dead (hdead b hb)) (fun s₀ s₅ I₅ K₅ => ?_) x.cps.toList 0 false s s₃ (Nat.zero_le _) rfl (by rw [hits, Nat.sub_self]; rfl) hend I₃ hE (K₂.trans (kpY g₃.up))
  · rw [hits]; exact key
  · obtain ⟨o, ho⟩ := hSl; rw [e, hi0] at ho; cases ho
  · obtain ⟨o, ho⟩ := hSl; rw [e, he0] at ho; cases ho
  · obtain ⟨o, ho⟩ := I₂.live b q; rw [hdead b hb] at ho; cases ho
  · rw [hkk]
    refine seg_execs_cons (seg_if (b := false) (EvT.value (Ev.name rfl rfl).w OpT.bool (fun _ => rfl)) O0.room I₅ fun s₆ I₆ g₆ => ?_)
    exact seg_end (.ok (.ret .none)) ⟨rfl, rfl, K₅.trans (kpY g₆.up), O0.b ▸ I₆.st⟩
end
end Mine
end C18

noncomputable section C19
open PySem PySem.Calls PyProof.Rows
set_option Elab.async false
set_option linter.unusedVariables false
set_option maxRecDepth 100000
namespace Mine
section
variable {G : Gd} {k : Nat} {κ : Scope} {mean : ExcName → Option Value} {mg mb : Str → Option Value} {σ : Sg} {Xo : Ou} {os : Os} {A : Around} {s : Shared}

/-- the call makes the generator -/
theorem gen_call (T : Top pw lo mean mg mb G.hb) {f : Addr} {o : Obj} {pm code doc : Value} (hf : G.hb.get? f = some o) (hd : o.data = .func (docDef (rcAt 0).name (rcAt 0).params (rcAt 0).body (rcAt 0).scope pm code doc)) (hcd : G.hb.CodeRec code (rcAt 0).name)
    {x : Str} {t : Tok} {X : List Addr} {E : Value → Shared → Prop} {Q : Value → Shared → Prop} (R : Room (k + 1) A) (hin : G.In s) (hl : Live X s)
    (h : ∀ (F : Fm) a s2, F.cf = [] → F.s0 = s → (∀ b ∈ F.Z [], s.heap.get? b = none) → St [] s s2 → s2.gens = s.gens.push (.fresh (.func (rcAt 0).body F.env)) → s2.heap.IsGen a s.gens.size → s.heap.get? a = none → a ∉ F.Z [] → Inv G (rcAt 0).scope F ([("addr", .val (.str x))] : Sg) ⟨X, []⟩ [] s2 → Q (.ref a) s2) :
    wpAny G.M A (call (.ref f) [.str x t]) Q E s := by
  have hb := hin.1
  have hbind : bindArgs (docDef (rcAt 0).name (rcAt 0).params (rcAt 0).body (rcAt 0).scope pm code doc) { pos := [.str x t] } = pure [(("addr" : Str), Value.str x t)] := rfl
  have hloc : (rcAt 0).scope.names.lookup ("addr" : Str) = some .local := rfl
  refine wpAny_call (codeAny_call_generator (fd := docDef (rcAt 0).name (rcAt 0).params (rcAt 0).body (rcAt 0).scope pm code doc) (body := (rcAt 0).body) (by have := R.depth; omega) (hb _ _ hf) hd rfl rfl rfl (hcd.keeps hb) ?_)
  rw [hbind]
  refine wpAny_pure (wpAny_with_toks (Nat.le_refl s.toks) (wpAny_newFunctionEnv_cells (binds := [(("addr" : Str), Value.str x t)]) rfl (fun y hy => by rw [List.mem_singleton.mp hy]; exact .inl hloc) fun env he s₁ hC => ?_))
  intro htk
  subst he
  obtain ⟨⟨hsame, hns, hkeep, _⟩, hcell, hap, hab⟩ := hC
  obtain ⟨h', tk, rfl⟩ := hsame
  have g : St [] s { s with heap := h', toks := tk } := .of hkeep htk
  have dead : ∀ c, s.heap.objs.size ≤ c → s.heap.get? c = none := fun c hc => dead_ge hc
  have hLd := dead s.heap.objs.size (Nat.le_refl _)
  refine ⟨T.nolimit.keeps fun b o e => hkeep b o (hb b o e), ?_⟩
  generalize hE : newEnv (docDef (rcAt 0).name (rcAt 0).params (rcAt 0).body (rcAt 0).scope pm code doc).scope s.heap.objs.size _ _ _ _ _ _ _ = env at *
  have hEc : env.cells = [] := by rw [← hE]; rfl
  have hEl : env.locals = s.heap.objs.size := by rw [← hE]; rfl
  have hEs : env.scope = (rcAt 0).scope := by rw [← hE]; rfl
  have hEg : env.globals = mainGlobals := by rw [← hE]; rfl
  have hEb : env.builtins = builtinsNs := by rw [← hE]; rfl
  rw [hEl] at hns
  have hZ : ∀ b ∈ Fm.Z ⟨env, s, []⟩ [], b = s.heap.objs.size := fun b hb => by
    rcases mem_Z.mp hb with q | q | q
    · rw [q]; exact hEl
    · rw [show (Fm.mk env s []).env.cells = [] from hEc] at q; exact nomatch q
    · exact nomatch q
  have hX : ∀ c ∈ Fm.X ⟨env, s, []⟩ ⟨X, []⟩ [], c = s.heap.objs.size ∨ c ∈ X := fun c hc => by
    rcases mem_X.mp hc with q | q | q | q
    · exact .inl (q.trans hEl)
    · rw [show (Fm.mk env s []).env.cells = [] from hEc] at q; exact nomatch q
    · exact nomatch q
    · exact .inr q
  have I : Inv G (rcAt 0).scope ⟨env, s, []⟩ ([("addr", .val (.str x))] : Sg) ⟨X, []⟩ [] { s with heap := h', toks := tk } := {
    scope := hEs, kind := rfl, glob := hEg, bi := hEb, base := hb, tk := hin.2, st := g
    Lnew := by show s.heap.get? env.locals = none; rw [hEl]; exact hLd
    osnew := fun p hp => nomatch hp
    cfnew := fun x hx => nomatch hx
    live := fun b hb => by
      rcases hX b hb with q | q
      · obtain ⟨o, es, ep, ho, _⟩ := hns; rw [q]; exact ⟨_, ho⟩
      · obtain ⟨o, e⟩ := hl b q; exact ⟨o, hkeep b o e⟩
    ns := ⟨_, by show h'.Ns env.locals _; rw [hEl]; exact hns⟩
    cells := fun x c hc => by rw [show (Fm.mk env s []).env.cells = [] from hEc] at hc; cases hc
    cellinj := fun x y c hx hy => by rw [show (Fm.mk env s []).env.cells = [] from hEc] at hx; cases hx
    ossep := .nil
    osoff := fun p hp => nomatch hp
    osout := fun p hp => nomatch hp
    ghost := fun p hp => nomatch hp
    var := fun y sl hy => by
      rcases lookup_cons' hy with ⟨rfl, rfl⟩ | ⟨_, hy⟩
      · refine ⟨.str x t, ?_, Rep.ofStr (X := Fm.X ⟨env, s, []⟩ ⟨X, []⟩ []) (h := h')⟩
        unfold VarAt
        show (match env.scope.names.lookup ("addr" : Str) with | some .local => _ | some .cell => _ | _ => False)
        rw [hEs, hloc]
        refine ⟨_, (by show h'.Ns env.locals _; rw [hEl]; exact hns), ?_⟩
        unfold bindL
        have : env.kindOf "addr" = some .local := by unfold Env.kindOf; rw [hEs]; exact hloc
        rw [if_pos this]; unfold bindL; exact if_pos rfl
      · cases hy }
  have g2 : St [] { s with heap := h', toks := tk } { s with gens := s.gens.push (.fresh (.func (rcAt 0).body env)), toks := tk + 1 + 1, heap := h'.push { cls := .type "generator", data := .fields #[.int s.gens.size 0, .str (rcAt 0).name tk, .str (rcAt 0).name (tk + 1)] } } :=
    ⟨rfl, rfl, by show tk ≤ tk + 1 + 1; omega, ⟨[.fresh (.func (rcAt 0).body env)], by simp, fun q hq => by rw [List.mem_singleton.mp hq]; rfl⟩, fun b o _ e => Heap.get?_push_of_some _ e, fun b o e => ⟨o, Heap.get?_push_of_some _ e⟩⟩
  have hLa : s.heap.objs.size < h'.objs.size := let ⟨_, _, _, ho, _⟩ := hns; Heap.lt_size ho
  exact h ⟨env, s, []⟩ _ _ rfl rfl (fun b hb => by rw [hZ b hb]; exact hLd) (g.trans g2) rfl ⟨_, _, _, Heap.get?_push_size _ rfl, rfl, rfl, rfl⟩ (dead _ (Nat.le_of_lt hLa)) (fun hb => by have := hZ _ hb; exact absurd this (Nat.ne_of_gt hLa)) (I.grow g2)

structure EscAt (G : Gd) (C : Cx) (a : Addr) (g : Nat) (A : Around) (i : Nat) (vs : List Value) (s : Shared) : Prop where
  le : i ≤ C.its.length
  len : vs.length = i
  items : ∀ (j : Nat) (v : Value), vs[j]? = some v → ∃ it, C.its[j]? = some it ∧ ItemRep C.X0 s.heap it v
  gen : s.heap.IsGen a g
  st : St [] C.b s
  go : ∃ gs, s.gens[g]? = some gs ∧ gs.bare = true ∧ ∀ s'', Rel C.S s s'' → gs.Goes G.M A C.R C.Y (C.its.length - i) (.send .none) (s''.setGen g .running)
structure EscK (C : Cx) (vs : List Value) (s : Shared) : Prop where
  len : vs.length = C.its.length
  items : ∀ (j : Nat) (v : Value), vs[j]? = some v → ∃ it, C.its[j]? = some it ∧ ItemRep C.X0 s.heap it v
  st : St [] C.b s

theorem gens_set {a : Array GenState} {g : Nat} {x y : GenState} (h : a[g]? = some y) : (a.setIfInBounds g x)[g]? = some x := by
  have := (Array.getElem?_eq_some_iff.mp h).1
  simp [this]
theorem gens_set_self {a : Array GenState} {g : Nat} {x y : GenState} (h : a[g]? = some y) : (a.setIfInBounds g x).setIfInBounds g y = a := by
  obtain ⟨hlt, rfl⟩ := Array.getElem?_eq_some_iff.mp h
  apply Array.ext_getElem?
  intro i
  by_cases e : i = g
  · subst e; simp [hlt]
  · simp [Ne.symm e]

theorem esc_feed (T : Top pw lo mean mg mb G.hb) {C : Cx} {a : Addr} (hA : A.handled = none) (hroom : A.depth < recursionLimit) (hSa : C.S ≠ a) (haL : a ≠ C.L) (hSL : C.S ≠ C.L) (hLX : C.L ∈ C.X0) (hSX : C.S ∈ C.X0) (hb : ∀ b o, G.hb.get? b = some o → C.b.heap.get? b = some o)
    (hS0 : C.b.heap.get? C.S = none) : Feed G.prog G.w A a C.S C.its.length (EscAt G C a C.b.gens.size A.in1) (EscK C) "generator" where
  ne := hSa
  typ i vs s J := J.gen.typeIs
  ne1 := by decide
  ne2 := by decide
  hint s Q E J h := hint_gen J.gen.typeIs h
  len i vs s J := J.len
  frame i vs s h' tk J htk hk hS := by
    have hr : Rel C.S s { s with heap := h', toks := tk } := ⟨⟨rfl, rfl, htk, ⟨[], by simp, fun _ h => nomatch h⟩, fun b o hb e => hk b o (fun q => hb (by rw [q]; exact .head _)) e, fun b o e => by
      by_cases q : b = C.S
      · rw [q]; exact hS
      · exact ⟨o, hk b o q e⟩⟩, rfl⟩
    exact {
      le := J.le, len := J.len
      items := fun j v hv => let ⟨it, h1, h2⟩ := J.items j v hv; ⟨it, h1, h2.st hk hSX⟩
      gen := let ⟨o, nm, qn, ho, r⟩ := J.gen; ⟨o, nm, qn, hk a o (Ne.symm hSa) ho, r⟩
      st := ⟨J.st.drawn, J.st.os, Nat.le_trans J.st.toks htk, J.st.gens, fun b o _ e => hk b o (fun q => by rw [q, hS0] at e; cases e) (J.st.keep b o e), fun b o e => ⟨o, hk b o (fun q => by rw [q, hS0] at e; cases e) (J.st.keep b o e)⟩⟩
      go := let ⟨gs, h1, h2, h3⟩ := J.go; ⟨gs, h1, h2, fun s'' r => h3 s'' (hr.trans r)⟩ }
  item i vs s o Q E hi J hS hc hQ := by
    obtain ⟨gs, hgs, hbare, hgo⟩ := J.go
    have hgo0 := hgo s .refl
    obtain ⟨m, hm⟩ : ∃ m, C.its.length - i = m + 1 := ⟨C.its.length - i - 1, by omega⟩
    rw [hm] at hgo0
    refine next_gen (P := C.P) hA (T.nolimit.keeps fun b o e => J.st.keep b o (hb b o e)) hroom J.gen hgs hgo0 (fun v s₁ gs' hb' hY => ?_) (fun s₁ hp => by have := hp.1; omega)
    obtain ⟨⟨it, hit, hr⟩, hk, hst, hkap⟩ := hY
    obtain ⟨l, hl⟩ := hk.gens
    have hrun : (s.setGen C.b.gens.size .running).gens[C.b.gens.size]? = some .running := gens_set hgs
    have hrun₁ : s₁.gens[C.b.gens.size]? = some .running := by
      rw [hl, Array.getElem?_append_left (Array.getElem?_eq_some_iff.mp hrun).1]; exact hrun
    refine hQ v _ ?_ (hk.heap _ _ hS (by rw [hc]; decide) (by rw [hc]; decide) hSL)
    exact {
      le := hi
      len := by rw [List.length_append, J.len]; rfl
      items := fun j v' hv => by
        by_cases q : j < vs.length
        · rw [List.getElem?_append_left q] at hv
          obtain ⟨it', h1, h2⟩ := J.items j v' hv
          exact ⟨it', h1, ItemRep.kp (s := s.setGen C.b.gens.size .running) (s' := s₁) h2 hk hLX⟩
        · rw [List.getElem?_append_right (by omega)] at hv
          have hj : j - vs.length = 0 := by
            have := (List.getElem?_eq_some_iff.mp hv).1
            simp at this; omega
          rw [hj] at hv
          cases hv
          refine ⟨it, ?_, hr⟩
          rw [← hit]
          have := J.len
          congr 1
          omega
      gen := let ⟨o, nm, qn, ho, hcl, r⟩ := J.gen; ⟨o, nm, qn, hk.heap a o ho (by rw [hcl]; decide) (by rw [hcl]; decide) haL, hcl, r⟩
      st := hst.setGen (Nat.le_refl _) hb'
      go := ⟨gs', gens_set hrun₁, hb', fun s'' r => by
        rw [show C.its.length - (i + 1) = m by omega]
        refine hkap _ ⟨⟨r.1.drawn, r.1.os, r.1.toks, ⟨[], ?_, fun _ h => nomatch h⟩, r.1.heap, r.1.alive⟩, ?_⟩
        · show s''.gens.setIfInBounds _ _ = _
          rw [r.2]
          show (s₁.gens.setIfInBounds _ _).setIfInBounds _ _ = _
          rw [gens_set_self hrun₁]; simp
        · show s''.gens.setIfInBounds _ _ = _
          rw [r.2]
          exact gens_set_self hrun₁⟩ }
  done vs s o Q E J hS hc hK := by
    obtain ⟨gs, hgs, hbare, hgo⟩ := J.go
    have hgo0 := hgo s .refl
    rw [Nat.sub_self] at hgo0
    refine next_gen (P := C.P) hA (T.nolimit.keeps fun b o e => J.st.keep b o (hb b o e)) hroom J.gen hgs hgo0 (fun v s₁ gs' hb' hY => ?_) (fun s₁ hp h' hk => ?_)
    · exact (hY.2.2.2 s₁ .refl).elim
    · obtain ⟨_, hkp, hst⟩ := hp
      refine hK _ ⟨J.len, fun j v hv => ?_, ?_⟩ (hk _ _ (hkp.heap _ _ hS (by rw [hc]; decide) (by rw [hc]; decide) hSL))
      · obtain ⟨it, h1, h2⟩ := J.items j v hv
        obtain ⟨t, t1, t2, rfl, ht, o', ho', r⟩ := ItemRep.kp (s := s.setGen C.b.gens.size .running) (s' := s₁) h2 hkp hLX
        exact ⟨it, h1, t, t1, t2, rfl, ht, o', hk _ _ ho', r⟩
      · exact (hst.setGen (gs := .finished) (Nat.le_refl _) rfl).trans ⟨rfl, rfl, Nat.le_refl _, ⟨[], by simp, fun _ h => nomatch h⟩, fun b o _ e => hk b o e, fun b o e => ⟨o, hk b o e⟩⟩
  self i vs s Q E J hQ := wpAny_pyIter_gen J.gen hQ
end
end Mine
end C19

noncomputable section C20
open PySem PySem.Calls PyProof.Rows
set_option Elab.async false
set_option linter.unusedVariables false
set_option maxRecDepth 100000
namespace Mine
section
variable {G : Gd} {k : Nat} {κ : Scope} {mean : ExcName → Option Value} {mg mb : Str → Option Value} {σ : Sg} {F : Fm}
theorem c_escList (T : Top pw lo mean mg mb G.hb) {x : Str} {arg : Expr} {p1 p2 q1 q2 : Pos} (ha : Ev G (k + 2) κ F σ arg (.str x)) (hasc : x.cps.all (· < 128) = true) (hend : escEnd false x.cps.toList = false) (hn : (escItems 0 false x.cps.toList).length ≤ sizeLine)
    (hk1 : κ.names.lookup ("list" : Str) = some .globalImplicit) (hk2 : κ.names.lookup ("_iter_escaped_chars" : Str) = some .globalImplicit)
    (hb1 : ∀ env, backTo q1 (starEach [Expr.Call (.Name "_iter_escaped_chars" p2) [arg] [] q2] env) = [(false, eval (.Call (.Name "_iter_escaped_chars" p2) [arg] [] q2) env)]) (hb2 : ∀ env, backTo q2 (starEach [arg] env) = [(false, eval arg env)]) :
    Ev G (k + 2) κ F σ (.Call (.Name "list" p1) [.Call (.Name "_iter_escaped_chars" p2) [arg] [] q2] [] q1) (.list ((escItems 0 false x.cps.toList).map dItem)) := fun A Xo os s E R I => by
  obtain ⟨f, o, pm, code, doc, h1, h2, h3, h4⟩ := T.fn (rcAt 0) (rc_mem rfl 0 rfl rfl)
  refine wpAny_Call_ofName (EvV.builtin (F := F) (σ := σ) (κ := κ) T.g (b_list T).1 T.b (b_list T).2 hk1 rfl A Xo os s E _ I ?_)
  show wpAny G.M A (callWith q1 (.type "list") [] (backTo q1 (starEach [Expr.Call (.Name "_iter_escaped_chars" p2) [arg] [] q2] F.env)) []) _ E s
  rw [hb1]
  refine PySem.callWith_type rfl (evalArgs_plain (spliced_cons ?_))
  refine wpAny_Call_ofName (EvV.global (F := F) (σ := σ) (κ := κ) T.g h1 hk2 rfl A Xo os s E _ I ?_)
  show wpAny G.M A (callWith q2 (.ref f) [] (backTo q2 (starEach [arg] F.env)) []) _ E s
  rw [hb2]
  refine callWith_function (o := o) (fd := docDef (rcAt 0).name (rcAt 0).params (rcAt 0).body (rcAt 0).scope pm code doc) (evalArgs_plain (spliced_cons (wp_st (β := Unit) (ha A Xo os s E R I) fun v s1 g1 r1 => spliced_nil ⟨⟨(I.grow g1).hb _ _ h2, h3⟩, ?_⟩)))
  obtain ⟨t, rfl⟩ := r1.str'
  have I1 := I.grow g1
  refine gen_call (k := k + 1) T h2 h3 h4 (X := F.X Xo os) R I1.inn I1.lives fun F' a s2 hcf hF0 hZ g2 hgens hgen ha haZ I2 => ?_
  refine spliced_nil ?_
  have hSd : s2.heap.get? s2.heap.objs.size = none := get_size _
  have hSd1 : s1.heap.get? s2.heap.objs.size = none := g2.dead hSd
  have hal : ∃ o, s2.heap.get? a = some o := let ⟨o, _, _, ho, _⟩ := hgen; ⟨o, ho⟩
  have hLl : ∃ o, s2.heap.get? F'.env.locals = some o := I2.live _ I2.LX
  have hSL : s2.heap.objs.size ≠ F'.env.locals := fun e => by obtain ⟨o, ho⟩ := hLl; rw [← e, hSd] at ho; cases ho
  let C : Cx := ⟨s1, s2.heap.objs.size, F'.env.locals, s2.heap.objs.size :: F'.env.locals :: F.X Xo os, escItems 0 false x.cps.toList⟩
  have hA : A.in1.in1.handled = none := R.handled
  have g3 : St [] s2 { s2 with heap := s2.heap.push { cls := .type "list", data := .seq #[] } } := .push (tk := s2.toks)
  have W := esc_feed (A := A.in1.in1) T (C := C) (a := a) hA (by show A.depth < _; have := R.depth; omega) (fun e => by obtain ⟨o, ho⟩ := hal; rw [← e] at ho; have : s2.heap.get? s2.heap.objs.size = some o := ho; rw [hSd] at this; cases this)
    (fun e => haZ (mem_Z.mpr (.inl e))) hSL (.tail _ (.head _)) (.head _) I1.hb hSd1
  have I3 : Inv G (rcAt 0).scope F' ([("addr", .val (.str x))] : Sg) ⟨[s2.heap.objs.size] ++ F.X Xo os, []⟩ [] { s2 with heap := s2.heap.push { cls := .type "list", data := .seq #[] } } :=
    I2.around (W := [s2.heap.objs.size]) (gh := []) g3 (fun b hb => by rw [List.mem_singleton.mp hb]; exact hSd) (fun b hb => by rw [List.mem_singleton.mp hb]; exact ⟨_, Heap.get?_push_size _ rfl⟩) (fun p hp => nomatch hp)
  refine call_list_feed (n := C.its.length) W hn ⟨Nat.zero_le _, rfl, fun j v hv => by simp at hv, ?_, ?_, .fresh (.func (rcAt 0).body F'.env), ?_, rfl, fun s'' hr => ⟨rfl, ?_⟩⟩ fun vs s' m hK hS => ⟨g1.trans hK.st, ?_⟩
  · exact hgen.push _
  · exact g2.trans g3
  · show s2.gens[s1.gens.size]? = _
    rw [hgens]; simp
  · have I4 : Inv G (rcAt 0).scope F' ([("addr", .val (.str x))] : Sg) ⟨[s2.heap.objs.size] ++ F.X Xo os, []⟩ [] s'' := I3.turnW hr.1 (fun b hb => List.mem_append.mpr (.inl hb)) (fun b hb q => by
      rw [List.mem_singleton.mp hb] at q
      rcases mem_Z.mp q with z | z | z
      · exact hSL z
      · have := I2.live (s2.heap.objs.size) (mem_X.mpr (.inr (.inl z))); rw [hSd] at this; obtain ⟨o, ho⟩ := this; cases ho
      · exact nomatch z) (fun b hb => by rw [List.mem_singleton.mp hb, hF0]; exact hSd1)
    have I5 : Inv G (rcAt 0).scope F' ([("addr", .val (.str x))] : Sg) ⟨[s2.heap.objs.size] ++ F.X Xo os, []⟩ [] (s''.setGen s1.gens.size .running) := I4.gens (I4.st.setGen (by rw [hF0]; exact Nat.le_refl _) rfl) rfl rfl
    have key := esc_func (k := k) (A := A.in1.in1.in1) (C := C) (X1 := [s2.heap.objs.size] ++ F.X Xo os) T hasc ⟨R.handled, by have := R.depth; show A.depth + (k + 1) < _; omega, by have := R.units; show A.units + 1 + 1 + 1 + 200 + 10 * (k + 1) < _; omega⟩ rfl hend (fun c fs h1 h2 h3 => ?_) I5
    · exact key
    · exact {
        cf := hcf, L := rfl, b := hF0, S1 := .head _
        SZ := fun q => by
          rcases mem_Z.mp q with z | z | z
          · exact hSL z
          · have := I2.live (s2.heap.objs.size) (mem_X.mpr (.inr (.inl z))); rw [hSd] at this; obtain ⟨o, ho⟩ := this; cases ho
          · exact nomatch z
        S0 := by rw [hF0]; exact hSd1
        X0 := fun c hc => by
          rcases List.mem_cons.mp hc with q | q
          · exact .inr (by rw [q]; exact .head _)
          · rcases List.mem_cons.mp q with q | q
            · exact .inl q
            · exact .inr (.tail _ q)
        LX := .tail _ (.head _), SX := .head _, room := h1, fs1 := h2, fs2 := h3 }
  · have hlen := hK.len
    refine .ofList (fun q => ?_) ⟨_, hS, rfl, _, rfl⟩ (RepAll.ofGet (by rw [List.length_map]; exact hlen) fun j d v hd hv => ?_)
    · obtain ⟨o, ho⟩ := I1.live _ q; rw [hSd1] at ho; cases ho
    · obtain ⟨it, h1, h2⟩ := hK.items j v hv
      rw [List.getElem?_map, show (escItems 0 false x.cps.toList)[j]? = some it from h1] at hd
      cases hd
      exact h2.rep fun b hb => .tail _ (.tail _ hb)
end
end Mine
end C20

noncomputable section C21
open PySem PySem.Calls PyProof.Rows
set_option Elab.async false
set_option linter.unusedVariables false
set_option maxRecDepth 100000
namespace Mine
section
variable {G : Gd} {k : Nat} {κ : Scope} {mean : ExcName → Option Value} {mg mb : Str → Option Value} {F : Fm} {σ : Sg} {Xo : Ou} {os : Os} {A : Around} {s : Shared}

noncomputable def octAt (n t j : Nat) : Nat := if j = t then n % 64 else 64 + n / 64 ^ (t - j) % 64
theorem octs_get (n : Nat) : ∀ t j, j ≤ t → (octs n t)[j]? = some ((octAt n t j : Nat) : Int)
  | 0, j, h => by obtain rfl : j = 0 := by omega
                  rfl
  | t + 1, 0, h => by simp [octs, octAt]
  | t + 1, j + 1, h => by
    rw [octs, List.getElem?_cons_succ, octs_get n t j (by omega)]
    unfold octAt
    by_cases e : j = t
    · subst e; simp
    · rw [if_neg e, if_neg (by omega), show t + 1 - (j + 1) = t - j by omega]

theorem and63a : ∀ c < 64, Builtin.bitAnd ((64 + c : Nat) : Int) 63 = (c : Int) := by decide +kernel
theorem and63b : ∀ c < 64, Builtin.bitAnd ((c : Nat) : Int) 63 = (c : Int) := by decide +kernel
theorem and64a : ∀ c < 64, (Builtin.bitAnd ((64 + c : Nat) : Int) 64 != 0) = true := by decide +kernel
theorem and64b : ∀ c < 64, (Builtin.bitAnd ((c : Nat) : Int) 64 != 0) = false := by decide +kernel
theorem oct_low (n t j : Nat) (h : j ≤ t) : Builtin.bitAnd ((octAt n t j : Nat) : Int) 63 = ((n / 64 ^ (t - j) % 64 : Nat) : Int) := by
  unfold octAt
  by_cases e : j = t
  · subst e; rw [if_pos rfl, Nat.sub_self, Nat.pow_zero, Nat.div_one]; exact and63b _ (Nat.mod_lt _ (by decide))
  · rw [if_neg e]; exact and63a _ (Nat.mod_lt _ (by decide))
theorem oct_high (n t j : Nat) (h : j ≤ t) : (Builtin.bitAnd ((octAt n t j : Nat) : Int) 64 != 0) = decide (j < t) := by
  unfold octAt
  by_cases e : j = t
  · subst e; rw [if_pos rfl, and64b _ (Nat.mod_lt _ (by decide))]; simp
  · rw [if_neg e, and64a _ (Nat.mod_lt _ (by decide))]; simp; omega
theorem bitOr_nat (a b : Nat) : Builtin.bitOr (a : Int) (b : Int) = ((a ||| b : Nat) : Int) := by
  have h : ∀ n : Nat, decide (0 ≤ Builtin.bitNot (n : Int)) = false := fun n => decide_eq_false (by unfold Builtin.bitNot; omega)
  unfold Builtin.bitOr Builtin.bitAnd
  rw [h a, h b]
  simp only [PyProof.Rows.bitNot_bitNot, Int.toNat_natCast]
theorem or64 (a c : Nat) (h : c < 64) : Builtin.bitOr ((a : Int) * 64) (c : Int) = ((64 * a + c : Nat) : Int) := by
  rw [show ((a : Int) * 64) = ((64 * a : Nat) : Int) by omega, bitOr_nat, ← Nat.two_pow_add_eq_or_of_lt (i := 6) h]

noncomputable def sgV (it : Addr) (n t j : Nat) : Sg := [("val", .val (.int ((n / 64 ^ (t - j) : Nat) : Int))), ("b", .val (.int ((octAt n t j : Nat) : Int))), ("iterator", .raw (.ref it))]
noncomputable def noOwn (σ : Sg) : Bool := σ.all fun p => !p.2.isOwn
theorem noOwn_of {σ : Sg} (h : noOwn σ = true) : ∀ x sl, σ.lookup x = some sl → sl.isOwn = false := fun x sl hx => by
  have := List.all_eq_true.mp h _ (mem_of_lookup hx)
  simpa using this

structure It (it l : Addr) (X : List Addr) (os : List Int) (F : Fm) : Prop where
  Z : it ∉ F.Z []
  X : it ∈ X
  s0 : F.s0.heap.get? it = none
  sl : os.length ≤ sizeLine
theorem asg_next (T : Top pw lo mean mg mb G.hb) {it l : Addr} {X : List Addr} {os : List Int} (O : It it l X os F) {x : Str} {p p1 p2 q pos : Pos} {i : Nat} {o : Int} (hx : σ.lookup ("iterator" : Str) = some (.raw (.ref it))) (hn : κ.names.lookup ("next" : Str) = some .globalImplicit)
    (hk : Own κ F x) (hb : ∀ env, backTo q (starEach [Expr.Name "iterator" p2] env) = [(false, eval (.Name "iterator" p2) env)]) (hs : ∀ env, swapsWith (.Call (.Name "next" p1) [.Name "iterator" p2] [] q) (some (.Name x p)) pos.line env = pure false)
    (I : Inv G κ F σ ⟨X, [(.list (dI os), .ref l)]⟩ [] s) (hit : s.heap.IsListIter it l i) (ho : os[i]? = some o) {E : Value → Shared → Prop} {Q : Flow → Shared → Prop}
    (h : ∀ s', Inv G κ F ((x, .val (.int o)) :: σ) ⟨X, [(.list (dI os), .ref l)]⟩ [] s' → s'.heap.IsListIter it l (i + 1) → St (it :: F.Y []) s s' → Q .next s') :
    wpAny G.M A (exec (.Assign [.Name x p] (.Call (.Name "next" p1) [.Name "iterator" p2] [] q) pos) F.env) Q E s := by
  obtain ⟨a, vs, e, hlX, hl, ra⟩ := Rep.list' (I.ghost _ (.head _))
  cases e
  obtain ⟨v, hv, rv⟩ := ra.get i (show (dI os)[i]? = some (.int o) by unfold dI; rw [List.getElem?_map, ho]; rfl)
  obtain ⟨tk, rfl⟩ := rv.int'
  refine wpAny_Assign_Name (callB_name (EvV.builtin T.g (b_next T).1 T.b (b_next T).2 hn rfl) hx rfl hb I (call_next_list hit hl (by rw [← Array.getElem?_toList]; exact hv) fun h' hit' hs' => ?_)) (hs _)
  obtain ⟨o', ho', _⟩ := id hit'
  have g : St [it] s { s with heap := h' } := St.sameBut (tk := s.toks) hs' ho'
  have I' := I.turnW g (fun b hb => by rw [List.mem_singleton.mp hb]; exact O.X) (fun b hb => by rw [List.mem_singleton.mp hb]; exact O.Z) (fun b hb => by rw [List.mem_singleton.mp hb]; exact O.s0)
  refine I'.storeVal hk (d := .int o) .ofInt fun s2 I2 g2 => h s2 I2 ?_ ?_
  · exact hit'.at fun o e => g2.heap _ _ (fun q => O.Z (Y_Z _ q)) e
  · exact (g.mono fun b hb => by rw [List.mem_singleton.mp hb]; exact .head _).trans (g2.mono fun b hb => .tail _ hb)

/-- what a call of _parse_varint does -/
noncomputable def Varint (G : Gd) (mg : Str → Option Value) (k n t : Nat) : Prop :=
  ∃ f o fd, mg "_parse_varint" = some (.ref f) ∧ G.hb.get? f = some o ∧ o.data = .func fd ∧ ∀ A X s00 s it l os i (E : Value → Shared → Prop) (Q : Value → Shared → Prop), Room k A → G.In s00 → St [] s00 s → s00.heap.get? it = none → Live X s → it ∈ X → s.heap.IsListIter it l i →
    Rep X s.heap (.list (dI os)) (.ref l) → os.length ≤ sizeLine → (∀ j, j ≤ t → os[i + j]? = some ((octAt n t j : Nat) : Int)) → (∀ tk s', St [it] s s' → s'.heap.IsListIter it l (i + t + 1) → Q (.int (n : Int) tk) s') → wpAny G.M A (call (.ref f) [.ref it]) Q E s
theorem c_varint (T : Top pw lo mean mg mb G.hb) {n t : Nat} (ht : n / 64 ^ t ≤ 63) (hbits : ∀ i, Builtin.Int.intBits ((n / 64 ^ i : Nat) : Int) ≤ 200) : Varint G mg (k + 1) n t := by
  obtain ⟨f, o, pm, code, doc, h1, h2, h3, h4⟩ := T.fn (rcAt 3) (rc_mem rfl 3 rfl rfl)
  refine ⟨f, o, _, h1, h2, h3, fun A X s00 s it l os i E Q R hin h00 hi0 hl hX hit r hsz hos h => ?_⟩
  refine call_def0 T (rc := rcAt 3) (names := ["iterator"]) (cf := []) (gh := [(.list (dI os), .ref l)]) (σ := ([("iterator", .raw (.ref it))] : Sg)) h2 h3 h4 rfl rfl (by intro x hx; simp at hx; rcases hx with rfl; rfl) rfl rfl (fun n => rfl) (by decide)
    (zip_sep (by decide) _) R hin h00 hl (fun p hp => by rw [List.mem_singleton.mp hp]; exact r) (fun x sl hx => ?_) fun F s₁ A' hFc hF0 R' g hZ I E' => ?_
  · rcases lookup_cons' hx with ⟨rfl, rfl⟩ | ⟨_, hx⟩
    · exact ⟨_, lookup_self, .inr rfl⟩
    · cases hx
  have O : It it l X os F := ⟨(fun q => by obtain ⟨o, ho⟩ := hl it hX; rw [hZ it q] at ho; cases ho), hX, (by rw [hF0]; exact hi0), hsz⟩
  have hit₁ : s₁.heap.IsListIter it l i := hit.at fun o e => g.keep _ _ e
  -- b, val
  refine wpAny_execs_cons (asg_next T O (i := i) rfl rfl (.inl rfl) (fun _ => rfl) (fun _ => rfl) I hit₁ (hos 0 (Nat.zero_le _)) fun s₂ I₂ hit₂ g₂ => ?_)
  refine wpAny_execs_cons (Ex1.plain (σ' := sgV it n t 0) (Ex1.post (Ex1.assign (d := .int ((n / 64 ^ t : Nat) : Int)) ((Ev.bin (Ev.name rfl rfl) Ev.int Op2.andI).cast ?_) (.inl rfl) (fun _ => rfl)) (.cons rfl (.cons rfl (.cons rfl .nil)))) R' I₂ (noOwn_of rfl) fun s₃ I₃ g₃ => ?_)
  · rw [oct_low n t 0 (Nat.zero_le _), Nat.sub_zero, Nat.mod_eq_of_lt (by omega)]
  have hit₃ : s₃.heap.IsListIter it l (i + 0 + 1) := hit₂.at fun o e => g₃.heap _ _ (fun q => O.Z (Y_Z _ q)) e
  have gw : St (it :: F.Y []) s₁ s₃ := g₂.trans (g₃.mono fun b hb => .tail _ hb)
  refine wpAny_execs_cons (wpAny_While (codeAny_whileLoop (fun c s' => ∃ j, j ≤ t ∧ c = t - j ∧ Inv G (rcAt 3).scope F (sgV it n t j) ⟨X, [(.list (dI os), .ref l)]⟩ [] s' ∧ s'.heap.IsListIter it l (i + j + 1) ∧ St (it :: F.Y []) s₁ s') ?_ t ⟨0, Nat.zero_le _, rfl, I₃, hit₃, gw⟩))
  rintro c s' ⟨j, hj, rfl, I', hit', g'⟩
  have ev : ∀ p1 p2 p3 c, EvT G k (rcAt 3).scope F (sgV it n t j) (.BinOp (.Name "b" p1) .BitAnd (.Constant (.int 64) c p2) p3) (decide (j < t)) := fun p1 p2 p3 c => (EvT.value (Ev.bin (Ev.name rfl rfl) Ev.int Op2.andI).w OpT.int (fun _ => rfl)).cast (oct_high n t j hj)
  refine wp_st (β := Unit) (ev _ _ _ _ A' _ [] s' _ R' I') fun b s₄ g₄ hb => ?_
  subst hb
  have I₄ := I'.grow g₄
  have hit₄ : s₄.heap.IsListIter it l (i + j + 1) := hit'.at fun o e => g₄.keep _ _ e
  by_cases hjt : j < t
  · rw [decide_eq_true hjt, if_pos rfl]
    refine wpAny_execs_cons (Ex1.plain (σ' := ([("val", .val (.int (((n / 64 ^ (t - j) : Nat) : Int) * 64))), ("b", .val (.int ((octAt n t j : Nat) : Int))), ("iterator", .raw (.ref it))] : Sg)) (Ex1.post (Ex1.aug (d := .int (((n / 64 ^ (t - j) : Nat) : Int) * 64)) rfl Ev.int (Op2i.shlI (by decide) ?_) (.inl rfl)) (.cons rfl (.cons rfl (.cons rfl .nil)))) R' I₄ (noOwn_of rfl) fun s₅ I₅ g₅ => ?_)
    · have := hbits (t - j); omega
    have hit₅ : s₅.heap.IsListIter it l (i + j + 1) := hit₄.at fun o e => g₅.heap _ _ (fun q => O.Z (Y_Z _ q)) e
    refine wpAny_execs_cons (asg_next T O rfl rfl (.inl rfl) (fun _ => rfl) (fun _ => rfl) I₅ hit₅ (by rw [Nat.add_assoc]; exact hos (j + 1) hjt) fun s₆ I₆ hit₆ g₆ => ?_)
    refine wpAny_execs_cons (Ex1.plain (σ' := sgV it n t (j + 1)) (Ex1.post (Ex1.aug (d := .int ((n / 64 ^ (t - (j + 1)) : Nat) : Int)) rfl (Ev.bin (Ev.name rfl rfl) Ev.int Op2.andI) ?_ (.inl rfl)) (.cons rfl (.cons rfl (.cons rfl .nil)))) R' I₆ (noOwn_of rfl) fun s₇ I₇ g₇ => ?_)
    · rw [oct_low n t (j + 1) hjt]
      have e : Builtin.bitOr (((n / 64 ^ (t - j) : Nat) : Int) * 64) ((n / 64 ^ (t - (j + 1)) % 64 : Nat) : Int) = ((n / 64 ^ (t - (j + 1)) : Nat) : Int) := by
        rw [or64 _ _ (Nat.mod_lt _ (by decide)), show t - j = (t - (j + 1)) + 1 by omega, Nat.pow_succ, ← Nat.div_div_eq_div_mul, Nat.div_add_mod]
      rw [← e]; exact Op2i.orI
    refine wpAny_execs_nil ?_
    refine ⟨t - (j + 1), by omega, j + 1, hjt, rfl, I₇, ?_, ?_⟩
    · exact hit₆.at fun o e => g₇.heap _ _ (fun q => O.Z (Y_Z _ q)) e
    · exact (((g'.trans (g₄.up)).trans (g₅.mono fun b hb => .tail _ hb)).trans g₆).trans (g₇.mono fun b hb => .tail _ hb)
  · obtain rfl : j = t := by omega
    rw [decide_eq_false hjt]
    simp only [Bool.false_eq_true, if_false]
    refine wpAny_execs_nil ?_
    have er : ∀ p, Ev G k (rcAt 3).scope F (sgV it n j j) (.Name "val" p) (.int ((n / 64 ^ (j - j) : Nat) : Int)) := fun p => Ev.name rfl rfl
    refine wpAny_execs_cons (wpAny_Return_some (wp_st (β := Unit) (er _ A' _ [] s₄ E' R' I₄) fun v s₅ g₅ r₅ => ?_))
    obtain ⟨tk, rfl⟩ := r₅.int'
    rw [Nat.sub_self, Nat.pow_zero, Nat.div_one]
    refine h tk s₅ ?_ (hit₄.at fun o e => g₅.keep _ _ e)
    refine St.dropDead (g.up.trans ((g'.trans g₄.up).trans g₅.up)) fun b hb => ?_
    rcases List.mem_cons.mp hb with q | q
    · exact .inl (by rw [q]; exact .head _)
    · exact .inr (hZ b (Y_Z b q))
end
end Mine
end C21

noncomputable section C22
open PySem PySem.Calls PyProof.Rows
set_option Elab.async false
set_option linter.unusedVariables false
set_option maxRecDepth 100000
namespace Mine
section
variable {G : Gd} {k : Nat} {κ : Scope} {mean : ExcName → Option Value} {mg mb : Str → Option Value} {F : Fm} {σ : Sg}

theorem ex_setitem (T : Top pw lo mean mg mb G.hb) {x : Str} {p : Bool} {e1 e2 : Expr} {xs : List D} {i : Int} {d : D} {p1 p2 cpos pos : Pos} (hx : σ.lookup x = some (.own p xs)) (hd : (x == ("__debug__" : Str)) = false) (h1 : Ev G (k + 1) κ F σ e1 (.int i)) (h2 : Ev G (k + 1) κ F σ e2 d)
    (h0 : 0 ≤ i) (hi : i < xs.length) (hl : xs.length ≤ sizeLine) (hk : κ.names.lookup ("setitem" : Str) = some .globalImplicit)
    (hb : ∀ env, backTo cpos (starEach [Expr.Name x p2, e1, e2] env) = [(false, eval (.Name x p2) env), (false, eval e1 env), (false, eval e2 env)]) :
    Ex1 G (k + 1) κ F σ (.Expr (.Call (.Name "setitem" p1) [.Name x p2, e1, e2] [] cpos) pos) (.next ((x, .own false (xs.set i.toNat d)) :: σ)) := fun A Xo os s E R I => by
  have hkind : F.env.scope.kind = .function := by rw [I.scope]; exact I.kind
  obtain ⟨f, o, pm, code, doc, f1, f2, f3, f4⟩ := T.fn (rcAt 13) (rc_mem rfl 13 rfl rfl)
  refine wpAny_Expr (wpAny_Call_ofName (EvV.global (F := F) (σ := σ) (κ := κ) T.g f1 hk rfl A Xo os s E _ I ?_)) (by unfold interactive; rw [hkind]; rfl) rfl
  show wpAny G.M A (callWith cpos (.ref f) [] (backTo cpos (starEach [Expr.Name x p2, e1, e2] F.env)) []) _ E s
  rw [hb]
  refine callWith_function (o := o) (fd := docDef (rcAt 13).name (rcAt 13).params (rcAt 13).body (rcAt 13).scope pm code doc) (evalArgs_plain (spliced_cons (wpAny_Name (I.load hx fun v hsl => ?_) hd)))
  obtain ⟨a, vs, ha, rfl, hli, hp, ra⟩ := hsl
  refine spliced_cons (wp_st (β := Unit) (h1 A Xo os s E R I) fun v1 s1 g1 r1 => spliced_cons (wp_st (β := Unit) (h2 A Xo os s1 E R (I.grow g1)) fun v2 s2 g2 r2 => spliced_nil ⟨⟨((I.grow g1).grow g2).hb _ _ f2, f3⟩, ?_⟩))
  obtain ⟨t, rfl⟩ := r1.int'
  have I2 := (I.grow g1).grow g2
  refine call_def T (rc := rcAt 13) (names := ["a", "b", "c"]) (cf := []) (gh := []) (X := F.X Xo os) (σ := ([("a", .raw (.ref a)), ("b", .val (.int i)), ("c", .val d)] : Sg)) f2 f3 f4 rfl rfl (by intro x hx; simp at hx; rcases hx with rfl | rfl | rfl <;> rfl) rfl rfl (fun n => rfl) (by decide)
    (zip_sep (by decide) _) R I2.inn I2.lives (fun p hp => nomatch hp) (fun y sl hy => ?_) fun F' s₁ A' hFc hF0 R' g hZ I' E' => ?_
  · rcases lookup_cons' hy with ⟨rfl, rfl⟩ | ⟨_, hy⟩
    · exact ⟨_, lookup_self, .inr rfl⟩
    · rcases lookup_cons' hy with ⟨rfl, rfl⟩ | ⟨_, hy⟩
      · exact ⟨_, rfl, .inl ⟨_, rfl, .ofInt⟩⟩
      · rcases lookup_cons' hy with ⟨rfl, rfl⟩ | ⟨_, hy⟩
        · exact ⟨_, rfl, .inl ⟨_, rfl, r2⟩⟩
        · cases hy
  have ec : ∀ p, Ev G k (rcAt 13).scope F' ([("a", .raw (.ref a)), ("b", .val (.int i)), ("c", .val d)] : Sg) (.Name "c" p) d := fun p => Ev.name rfl rfl
  have eb : ∀ p, Ev G k (rcAt 13).scope F' ([("a", .raw (.ref a)), ("b", .val (.int i)), ("c", .val d)] : Sg) (.Name "b" p) (.int i) := fun p => Ev.name rfl rfl
  refine wpAny_execs_cons (wpAny_Assign_Subscript (wp_st (β := Unit) (ec _ A' _ [] s₁ E' R' I') fun v s3 g3 r3 => wpAny_Name ((I'.grow g3).load rfl fun lv hlv => ?_) rfl) (by rfl))
  cases hlv
  refine wp_st (β := Unit) (eb _ A' _ [] s3 E' R' (I'.grow g3)) fun iv s4 g4 r4 => ?_
  obtain ⟨t', rfl⟩ := r4.int'
  have gg : St [] s s4 := (((g1.trans g2).trans g).trans g3).trans g4
  have hsz : vs.size = xs.length := by simpa using ra.length
  rw [sizeLine_eq] at hl
  refine wpAny_setItem_list (hli.at fun o e => gg.keep a o e) h0 (by omega) (by omega) fun h' hl' hs' => ?_
  have r3' : Rep (F.X Xo os) s4.heap d v := (r3.grow g4.keep).sub fun b hb => mem_X.mpr (.inr (.inr (.inr hb)))
  have hr : RepAll (F.X Xo os) s4.heap (xs.set i.toNat d) (vs.setIfInBounds i.toNat v).toList := by
    refine RepAll.ofGet (by simp [hsz]) fun j d' v' h1 h2 => ?_
    rw [Array.toList_setIfInBounds] at h2
    rw [List.getElem?_set] at h1 h2
    by_cases q : i.toNat = j
    · rw [if_pos q] at h1 h2
      rw [if_pos (by omega)] at h1
      rw [if_pos (by simp; omega)] at h2
      cases h1; cases h2
      exact r3'
    · rw [if_neg q] at h1 h2
      obtain ⟨d'', e1, e2⟩ := RepAll.get' j (ra.grow gg.keep) h2
      rw [h1] at e1; cases e1; exact e2
  have z := (I.grow gg).setOwn (p' := false) (tk := s4.toks) hx ha hs' hl' (fun q => nomatch q) hr
  exact wpAny_execs_nil ⟨gg.up.trans z.2, os, fun _ h => .inl h, rfl, z.1⟩
end
end Mine
end C22

noncomputable section C23
open PySem PySem.Calls PyProof.Rows
set_option Elab.async false
set_option linter.unusedVariables false
set_option maxRecDepth 100000
namespace Mine
-- plain: the text of a choice and what its reading gives
noncomputable def txt (a : Nat → Nat) : Nat → Str
  | 0 => ""
  | i + 1 => txt a i ++ Txt.mul "\\" ((a i : Nat) : Int) ++ "x"
noncomputable def pairIts (L : Nat) : Nat → List (Nat × Str)
  | 0 => []
  | j + 1 => pairIts L j ++ [(L + 2 * j + 1, ("\\\\" : Str))]
noncomputable def wordIts (L a : Nat) : List (Nat × Str) := pairIts L (a / 2) ++ [(L + a, Txt.mul "\\" ((a % 2 : Nat) : Int) ++ "x")]
noncomputable def thg (a : Nat → Nat) : Nat → List (Nat × Str)
  | 0 => []
  | i + 1 => thg a i ++ wordIts (txt a i).length (a i)

theorem le4 {P : Nat → Prop} (h0 : P 0) (h1 : P 1) (h2 : P 2) (h3 : P 3) (h4 : P 4) : ∀ a, a ≤ 4 → P a := fun a h => by
  match a, h with
  | 0, _ => exact h0
  | 1, _ => exact h1
  | 2, _ => exact h2
  | 3, _ => exact h3
  | 4, _ => exact h4
theorem mul_list : ∀ a, a ≤ 4 → (Txt.mul "\\" ((a : Nat) : Int)).cps.toList = List.replicate a 92 := le4 (by decide +kernel) (by decide +kernel) (by decide +kernel) (by decide +kernel) (by decide +kernel)
theorem esc_word (L : Nat) : ∀ a, a ≤ 4 → escItems L false (List.replicate a 92 ++ [120]) = wordIts L a := by
  have e0 : Txt.mul "\\" ((0 : Nat) : Int) ++ "x" = (⟨#[120]⟩ : Str) := by decide +kernel
  have e1 : Txt.mul "\\" ((1 : Nat) : Int) ++ "x" = (⟨#[92]⟩ : Str) ++ (⟨#[120]⟩ : Str) := by decide +kernel
  have e2 : ("\\\\" : Str) = (⟨#[92]⟩ : Str) ++ (⟨#[92]⟩ : Str) := by decide +kernel
  refine le4 ?_ ?_ ?_ ?_ ?_
  · show [(L, _)] = [] ++ [(L + 0, _)]
    rw [e0]; rfl
  · show [(L + 1, _)] = [] ++ [(L + 1, _)]
    rw [e1]; rfl
  · show [(L + 1, _), (L + 2, _)] = ([] ++ [(L + 2 * 0 + 1, _)]) ++ [(L + 2, _)]
    rw [e0, e2]; rfl
  · show [(L + 1, _), (L + 3, _)] = ([] ++ [(L + 2 * 0 + 1, _)]) ++ [(L + 3, _)]
    rw [e1, e2]; rfl
  · show [(L + 1, _), (L + 3, _), (L + 4, _)] = (([] ++ [(L + 2 * 0 + 1, _)]) ++ [(L + 2 * 1 + 1, _)]) ++ [(L + 4, _)]
    rw [e0, e2]; rfl
theorem esc_word_end : ∀ a, a ≤ 4 → escEnd false (List.replicate a 92 ++ [120]) = false := le4 rfl rfl rfl rfl rfl
theorem esc_append : ∀ (l r : List Nat) (n : Nat) (e : Bool), escItems n e (l ++ r) = escItems n e l ++ escItems (n + l.length) (escEnd e l) r
  | [], r, n, e => by simp [escItems, escEnd]
  | c :: l, r, n, true => by
    simp only [List.cons_append, escItems, escEnd, List.length_cons]
    rw [esc_append l r (n + 1) false, show n + 1 + l.length = n + (l.length + 1) by omega]
  | c :: l, r, n, false => by
    simp only [List.cons_append, escItems, escEnd, List.length_cons]
    by_cases h : c = 92
    · subst h
      rw [if_pos rfl, if_pos rfl, esc_append l r (n + 1) true, show n + 1 + l.length = n + (l.length + 1) by omega]; rfl
    · have hb : (c == 92) = false := beq_eq_false_iff_ne.mpr h
      rw [if_neg h, if_neg h, hb, esc_append l r (n + 1) false, show n + 1 + l.length = n + (l.length + 1) by omega]; rfl
theorem escEnd_append : ∀ (l r : List Nat) (e : Bool), escEnd e (l ++ r) = escEnd (escEnd e l) r
  | [], r, e => by simp [escEnd]
  | c :: l, r, true => by simp only [List.cons_append, escEnd]; exact escEnd_append l r false
  | c :: l, r, false => by simp only [List.cons_append, escEnd]; exact escEnd_append l r _
theorem txt_list (a : Nat → Nat) (ha : ∀ i, a i ≤ 4) (i : Nat) : (txt a (i + 1)).cps.toList = (txt a i).cps.toList ++ (List.replicate (a i) 92 ++ [120]) := by
  rw [txt, PyProof.Rows.cps_toList_append, PyProof.Rows.cps_toList_append, mul_list _ (ha i), List.append_assoc]; rfl
theorem txt_len (a : Nat → Nat) (ha : ∀ i, a i ≤ 4) (i : Nat) : (txt a (i + 1)).length = (txt a i).length + a i + 1 := by
  have h := congrArg List.length (txt_list a ha i)
  simp only [List.length_append, List.length_replicate, List.length_singleton, Array.length_toList] at h
  show (txt a (i + 1)).cps.size = (txt a i).cps.size + a i + 1
  omega
theorem txt_size (a : Nat → Nat) (ha : ∀ i, a i ≤ 4) : ∀ i, (txt a i).length ≤ 5 * i
  | 0 => by show ("" : Str).length ≤ 0; decide
  | i + 1 => by rw [txt_len a ha]; have := txt_size a ha i; have := ha i; omega
theorem txt_items (a : Nat → Nat) (ha : ∀ i, a i ≤ 4) : ∀ i, escItems 0 false (txt a i).cps.toList = thg a i ∧ escEnd false (txt a i).cps.toList = false
  | 0 => ⟨rfl, rfl⟩
  | i + 1 => by
    obtain ⟨h1, h2⟩ := txt_items a ha i
    rw [txt_list a ha, esc_append, escEnd_append, h1, h2, esc_word _ _ (ha i), esc_word_end _ (ha i), Nat.zero_add]
    exact ⟨rfl, rfl⟩
theorem txt_ascii (a : Nat → Nat) (ha : ∀ i, a i ≤ 4) : ∀ i, (txt a i).cps.all (· < 128) = true
  | 0 => by show ("" : Str).cps.all (· < 128) = true; decide +kernel
  | i + 1 => by
    have h := txt_ascii a ha i
    rw [← Array.all_toList, List.all_eq_true] at h ⊢
    intro c hc
    rw [txt_list a ha] at hc
    rcases List.mem_append.mp hc with q | q
    · exact h c q
    · rcases List.mem_append.mp q with q | q
      · rw [(List.mem_replicate.mp q).2]; decide
      · rw [List.mem_singleton.mp q]; decide
theorem pair_length (L : Nat) : ∀ j, (pairIts L j).length = j
  | 0 => rfl
  | j + 1 => by rw [pairIts, List.length_append, pair_length L j]; rfl
theorem thg_length (a : Nat → Nat) (ha : ∀ i, a i ≤ 4) : ∀ i, (thg a i).length ≤ 3 * i
  | 0 => Nat.le_refl _
  | i + 1 => by
    rw [thg, List.length_append, wordIts, List.length_append, pair_length]
    have := thg_length a ha i
    have := ha i
    simp; omega

noncomputable def sgnOf (a : Nat) : Int := if a % 2 = 0 then 1 else -1
noncomputable def outG (it : Nat × Str) : Option Int := if it.2 == ("\\\\" : Str) then none else some (3 - 2 * (it.2.length : Int))
theorem outG_pair (L : Nat) : ∀ j, (pairIts L j).filterMap outG = []
  | 0 => rfl
  | j + 1 => by
    rw [pairIts, List.filterMap_append, outG_pair L j]
    have : outG (L + 2 * j + 1, ("\\\\" : Str)) = none := by
      have h2 : ((("\\\\" : Str)) == ("\\\\" : Str)) = true := by decide +kernel
      unfold outG; exact if_pos h2
    rw [List.filterMap_cons, this]; rfl
theorem outG_last (L : Nat) : ∀ a, a ≤ 4 → outG (L + a, Txt.mul "\\" ((a % 2 : Nat) : Int) ++ "x") = some (sgnOf a) := by
  have key : ∀ b : Nat, b < 2 → ((Txt.mul "\\" (b : Int) ++ "x" == ("\\\\" : Str)) = false ∧ 3 - 2 * (((Txt.mul "\\" (b : Int) ++ "x" : Str).length : Nat) : Int) = if b = 0 then 1 else -1) := by decide +kernel
  intro a _
  obtain ⟨h1, h2⟩ := key (a % 2) (Nat.mod_lt _ (by decide))
  unfold outG sgnOf
  show (if (Txt.mul "\\" ((a % 2 : Nat) : Int) ++ "x" == ("\\\\" : Str)) = true then none else some (3 - 2 * (((Txt.mul "\\" ((a % 2 : Nat) : Int) ++ "x" : Str).length : Nat) : Int))) = _
  rw [h1, if_neg (by decide), h2]
theorem thg_signs (a : Nat → Nat) (ha : ∀ i, a i ≤ 4) : ∀ i, (thg a i).filterMap outG = (List.range i).map fun j => sgnOf (a j)
  | 0 => rfl
  | i + 1 => by
    rw [thg, List.filterMap_append, thg_signs a ha i, wordIts, List.filterMap_append, outG_pair, List.filterMap_cons, outG_last _ _ (ha i), List.range_succ, List.map_append]
    rfl
end Mine
end C23

noncomputable section C24
open PySem PySem.Calls PyProof.Rows
set_option Elab.async false
set_option linter.unusedVariables false
set_option maxRecDepth 100000
namespace Mine
noncomputable def cbits (c : Nat) : List Int := (List.range 4).map fun k => ((c / 2 ^ k % 2 : Nat) : Int)
noncomputable def aheadOf (c w : Nat) : Nat := ((plI w).filter fun y => (cbits c).getD y.toNat 0 == 1).length
theorem ahead_le (c w : Nat) : aheadOf c w ≤ 4 := by
  unfold aheadOf
  refine Nat.le_trans (List.length_filter_le ..) ?_
  unfold plI placesOf
  rw [List.length_map]
  exact Nat.le_trans (List.length_filter_le ..) (by simp)
noncomputable def cntN (c : Nat) : Nat := ((List.range 4).filter fun k => c / 2 ^ k % 2 == 1).length
theorem cnt_eq : ∀ c < 16, countI 1 (cbits c) (cbits c).length = ((cntN c : Nat) : Int) ∧ cntN c < 5 := by decide +kernel
theorem cb_small : ∀ c < 16, ∀ x ∈ cbits c, smallInt x = true := by decide +kernel
theorem plI_lt (w : Nat) : ∀ y ∈ plI w, 0 ≤ y ∧ y < 4 := fun y hy => by
  obtain ⟨j, hj, rfl⟩ := List.mem_map.mp hy
  have : j < 4 := by simpa using (List.mem_filter.mp hj).1
  omega
theorem cb_get (c : Nat) (y : Int) (h0 : 0 ≤ y) (h4 : y < 4) : (cbits c)[y.toNat]? = some ((cbits c).getD y.toNat 0) := by
  have : y.toNat < (cbits c).length := by simp [cbits]; omega
  rw [List.getD_eq_getElem?_getD, List.getElem?_eq_getElem this]; rfl

section
variable {G : Gd} {k : Nat} {κ : Scope} {mean : ExcName → Option Value} {mg mb : Str → Option Value} {F : Fm} {σ : Sg}
theorem Ev.intTok {i : Int} {c : Nat} {pos : Pos} (h0 : 0 < G.tk) : Ev G k κ F σ (.Constant (.int i) c pos) (.intT i fun t => F.s0.toks ≤ t ∧ t ≠ 0) := fun A Xo os s E R I =>
  wpAny_Constant_int ⟨.tok, .ofIntT ⟨I.st.toks, Nat.ne_of_gt (Nat.lt_of_lt_of_le h0 I.inn.2)⟩⟩

noncomputable def sgC (ws : List Int) (ps : List Nat) (sums : List Int) : Sg := [("sums", .own false (dI sums)), ("weights", .val (.list (dI ws))), ("words", .val (.list (ps.map fun w => D.list (dI (plI w)))))]
noncomputable def sgW (P : Tok → Prop) (cb : List Int) (text : Str) (things : List (Nat × Str)) (r : Sg) : Sg := ("text", .val (.str text)) :: ("things", .own true (things.map dItem)) :: ("chosen", .val (.list (dIT P cb))) :: r
noncomputable def outA (cb : List Int) : D → Option D
  | .int y => if cb.getD y.toNat 0 == 1 then some (.int y) else none
  | _ => none
theorem outA_len (cb : List Int) : ∀ l : List Int, ((dI l).filterMap (outA cb)).length = (l.filter fun y => cb.getD y.toNat 0 == 1).length
  | [] => rfl
  | y :: l => by
    have ih := outA_len cb l
    unfold dI at ih ⊢
    rw [List.map_cons, List.filterMap_cons, List.filter_cons]
    by_cases h : (cb.getD y.toNat 0 == 1) = true
    · have : outA cb (.int y) = some (.int y) := if_pos h
      rw [this, if_pos h, List.length_cons, List.length_cons, ih]
    · have : outA cb (.int y) = none := if_neg h
      rw [this, if_neg h, ih]

theorem subW {P : Tok → Prop} {cb : List Int} {text : Str} {things : List (Nat × Str)} {ws : List Int} {ps : List Nat} {sums : List Int} {σ : Sg} (h1 : σ.lookup ("text" : Str) = some (.val (.str text))) (h2 : σ.lookup ("things" : Str) = some (.own true (things.map dItem)))
    (h3 : σ.lookup ("chosen" : Str) = some (.val (.list (dIT P cb)))) (h4 : σ.lookup ("sums" : Str) = some (.own false (dI sums))) (h5 : σ.lookup ("weights" : Str) = some (.val (.list (dI ws)))) (h6 : σ.lookup ("words" : Str) = some (.val (.list (ps.map fun w => D.list (dI (plI w)))))) :
    Sub (sgW P cb text things (sgC ws ps sums)) σ := .cons h1 (.cons h2 (.cons h3 (.cons h4 (.cons h5 (.cons h6 .nil)))))
theorem mulOk : ∀ a, a ≤ 4 → MulOk "\\" ((a : Nat) : Int) := le4 (by unfold MulOk; decide +kernel) (by unfold MulOk; decide +kernel) (by unfold MulOk; decide +kernel) (by unfold MulOk; decide +kernel) (by unfold MulOk; decide +kernel)
theorem mul_len (a : Nat) (h : a ≤ 4) : (Txt.mul "\\" ((a : Nat) : Int)).length = a := by
  have := congrArg List.length (mul_list a h)
  rw [List.length_replicate] at this
  exact (Array.length_toList).symm.trans this

theorem ch_word (T : Top pw lo mean mg mb G.hb) {c w : Nat} {P : Tok → Prop} {text : Str} {things : List (Nat × Str)} {ws : List Int} {qs : List Nat} {sums : List Int} (ht : text.length ≤ 1000) (hth : things.length ≤ 1000) :
    ∃ tg it bd el ps tg2 it2 bd2 el2 ps2, (rcAt 22).body[1]? = some (Stmt.For tg it bd el ps) ∧ bd[3]? = some (Stmt.For tg2 it2 bd2 el2 ps2) ∧
      ∃ σ', Ex G (k + 1) (rcAt 22).scope F (("places", .val (.list (dI (plI w)))) :: sgW P (cbits c) text things (sgC ws qs sums)) bd2 (.next σ') ∧
        Sub (sgW P (cbits c) (text ++ Txt.mul "\\" ((aheadOf c w : Nat) : Int) ++ "x") (things ++ wordIts text.length (aheadOf c w)) (sgC ws qs sums)) σ' := by
  refine ⟨_, _, _, _, _, _, _, _, _, _, rfl, rfl, ?_⟩
  have hcb : (cbits c).length = 4 := by simp [cbits]
  have hpl : (plI w).length ≤ 4 := by
    unfold plI placesOf
    rw [List.length_map]
    exact Nat.le_trans (List.length_filter_le ..) (by simp)
  have hal := ahead_le c w
  have hfm := outA_len (cbits c) (plI w)
  have hfm4 : ((dI (plI w)).filterMap (outA (cbits c))).length ≤ 4 := by rw [hfm]; exact Nat.le_trans (List.length_filter_le ..) hpl
  have hml := mul_len _ hal
  have hxl : ("x" : Str).length = 1 := by decide
  refine ⟨_, Ex.cons (σ' := ("ahead", .val (.int ((aheadOf c w : Nat) : Int))) :: sgW P (cbits c) text (things ++ pairIts text.length 0) (sgC ws qs sums)) (Ex1.post (Ex1.assign (d := .int ((aheadOf c w : Nat) : Int)) ((Ev.callB (EvV.builtin T.g (b_len T).1 T.b (b_len T).2 rfl rfl) (.cons (Ev.comp (σ' := ([("chosen", .val (.list (dIT P (cbits c))))] : Sg)) (Comp.list1 (ds := dI (plI w)) (fr := ["chosen"]) (cf := []) (outA (cbits c)) (Ev.name rfl rfl)
      ⟨rfl, by decide +kernel, rfl, by decide +kernel, by decide +kernel, .inl ⟨rfl, by decide +kernel⟩⟩ (fun x sl h => ?_) (by intro x hx; rw [List.mem_singleton.mp hx]; exact ⟨_, rfl⟩) (.inl rfl) (fun i => .cons rfl .nil) (PySem.W.kdl_size (by rw [dI_length]; omega)) (fun d F' hF' hd => ?_) (fun _ _ => rfl))) (fun _ => rfl) .nil) (Cal.lenL (PySem.W.kdl_size (by omega))) (fun _ => rfl) (fun _ => ⟨_, _, rfl⟩) (fun _ => rfl)).cast ?_) (.inl rfl) (fun _ => rfl)) (.cons rfl (subW rfl (by show some (Slot.own true (things.map dItem)) = some (Slot.own true ((things ++ []).map dItem)); rw [List.append_nil]) rfl rfl rfl rfl)))
    (Ex.cons (Ex1.for (n := aheadOf c w / 2) (m := aheadOf c w / 2) (σs := fun j => ("ahead", .val (.int ((aheadOf c w : Nat) : Int))) :: sgW P (cbits c) text (things ++ pairIts text.length j) (sgC ws qs sums)) (bs := OutR "pair" 0)
      (EvI.range (a := 0) (EvV.builtin T.g (b_range T).1 T.b (b_range T).2 rfl rfl) (.cons ((Ev.bin (Ev.name rfl rfl) Ev.int (Op2.divI (a := ((aheadOf c w : Nat) : Int)) (b := 2) (by decide) (PyProof.noPylong_small (by decide)))).cast ?_) (fun _ => rfl) .nil) (.inl ⟨rfl, rfl⟩) (by omega) (fun _ => rfl) (fun _ => ⟨_, _, rfl⟩) (fun _ => rfl))
      (.inl rfl) (fun _ _ => rfl) (Nat.le_refl _) (fun j hj => ?_) (.inl ⟨rfl, Ex.nil⟩))
    (Ex.cons (Ex1.assign (d := .str (text ++ Txt.mul "\\" ((aheadOf c w : Nat) : Int) ++ "x")) (Ev.bin (Ev.bin (Ev.name rfl rfl) (Ev.bin Ev.str (Ev.name rfl rfl) (Op2.mulS (mulOk _ hal))) (Op2.addS (PySem.W.kdl_size (by rw [hml]; omega)))) Ev.str (Op2.addS (PySem.W.kdl_size (by rw [PySem.strLen_append, hml, hxl]; omega)))) (.inl rfl) (fun _ => rfl))
    (Ex.one (Ex1.append rfl (d := dItem (text.length + aheadOf c w, Txt.mul "\\" ((aheadOf c w % 2 : Nat) : Int) ++ "x")) ?_ ?_ rfl (fun _ => rfl) rfl)))), ?_⟩
  · rcases lookup_cons' h with ⟨rfl, rfl⟩ | ⟨-, h⟩
    · exact ⟨.head _, rfl, rfl⟩
    · simp at h
  · obtain ⟨y, hy, rfl⟩ := List.mem_map.mp hd
    obtain ⟨h0, h4⟩ := plI_lt w y hy
    have hit : (dIT P (cbits c))[y.toNat]? = some (.intT ((cbits c).getD y.toNat 0) P) := by
      unfold dIT; rw [List.getElem?_map, cb_get c y h0 h4]; rfl
    refine ⟨_, EvTs.one (EvT.cmp (Ev.forgetI (Ev.item (i := y.toNat) (Ev.name rfl rfl) ((Ev.name (d := .int y) rfl rfl).cast (by rw [Int.toNat_of_nonneg h0])) hit (PySem.W.kdl_size (by rw [dIT_length]; omega)) (fun _ _ => rfl))).w Ev.int.w OpC.eqI rfl), fun h => ?_, fun h => ⟨.int y, ?_, Ev.name rfl rfl⟩⟩
    · exact if_neg (by rw [h]; decide)
    · exact if_pos h
  · rw [hfm]; rfl
  · rw [Int.fdiv_eq_ediv_of_nonneg _ (by decide)]; rfl
  · have e : OutR "pair" 0 j = ([("pair", .val (.int (j : Int)))] : Sg) := by unfold OutR; rw [Nat.zero_add]
    rw [e]
    refine ⟨_, Ex.one (Ex1.append rfl (d := dItem (text.length + 2 * j + 1, ("\\\\" : Str))) (Ev.tuple (.cons ((Ev.bin (Ev.bin (Ev.callB (EvV.builtin T.g (b_len T).1 T.b (b_len T).2 rfl rfl) (.cons (Ev.name rfl rfl) (fun _ => rfl) .nil) (Cal.lenS (PySem.W.kdl_size (by omega))) (fun _ => rfl) (fun _ => ⟨_, _, rfl⟩) (fun _ => rfl)) (Ev.bin Ev.int (Ev.name rfl rfl) (Op2.mulI (a := 2) (IntMulOk.of_left (by decide)))) Op2.addI) Ev.int Op2.addI).cast ?_) (fun _ => rfl) (.cons Ev.str (fun _ => rfl) .nil)) (fun _ => rfl) (PySem.W.kdl_size (by simp)))
      (PySem.W.kdl_size (by rw [List.length_map, List.length_append, pair_length]; omega)) rfl (fun _ => rfl) rfl), .cons rfl (subW rfl ?_ rfl rfl rfl rfl)⟩
    · show D.int _ = D.int _
      congr 1
    · show some (Slot.own true ((things ++ pairIts text.length j).map dItem ++ [_])) = some (Slot.own true ((things ++ (pairIts text.length j ++ [_])).map dItem))
      rw [← List.append_assoc, List.map_append (l₁ := things ++ _)]; rfl
  · refine Ev.tuple (.cons ((Ev.bin (Ev.callB (EvV.builtin T.g (b_len T).1 T.b (b_len T).2 rfl rfl) (.cons (Ev.name rfl rfl) (fun _ => rfl) .nil) (Cal.lenS (PySem.W.kdl_size (by rw [PySem.strLen_append, PySem.strLen_append, hml, hxl]; omega))) (fun _ => rfl) (fun _ => ⟨_, _, rfl⟩) (fun _ => rfl)) Ev.int Op2.subI).cast ?_) (fun _ => rfl)
      (.cons (Ev.bin (Ev.bin Ev.str ((Ev.bin (Ev.name rfl rfl) Ev.int (Op2.modI (a := ((aheadOf c w : Nat) : Int)) (b := 2) (by decide))).cast (d' := .int ((aheadOf c w % 2 : Nat) : Int)) ?_) (Op2.mulS (mulOk _ (by omega)))) Ev.str (Op2.addS (PySem.W.kdl_size (by rw [mul_len _ (by omega), hxl]; omega)))) (fun _ => rfl) .nil)) (fun _ => rfl) (PySem.W.kdl_size (by simp))
    · show D.int _ = D.int _
      congr 1
      rw [PySem.strLen_append, PySem.strLen_append, hml, hxl]
      omega
    · rw [Int.fmod_eq_emod_of_nonneg _ (by decide)]; rfl
  · exact PySem.W.kdl_size (by rw [List.length_map, List.length_append, pair_length]; omega)
  · refine subW rfl ?_ rfl rfl rfl rfl
    show some (Slot.own true ((things ++ pairIts text.length (aheadOf c w / 2)).map dItem ++ [_])) = some (Slot.own true ((things ++ (pairIts text.length (aheadOf c w / 2) ++ [_])).map dItem))
    rw [← List.append_assoc, List.map_append (l₁ := things ++ _)]; rfl
end
end Mine
end C24

noncomputable section C25
open PySem PySem.Calls PyProof.Rows
set_option Elab.async false
set_option linter.unusedVariables false
set_option maxRecDepth 100000
namespace Mine
theorem toP_items : ∀ its : List (Nat × Str), (∀ it ∈ its, (PyData.str it.2).canLay0 = true) → PyData.canLayAll0 (toPs (its.map dItem)) = true ∧ PyData.depthAll (toPs (its.map dItem)) ≤ 1
  | [], _ => ⟨rfl, Nat.zero_le _⟩
  | it :: its, h => by
    obtain ⟨h1, h2⟩ := toP_items its fun x hx => h x (.tail _ hx)
    have h0 := h it (.head _)
    constructor
    · show (((true && ((PyData.str it.2).canLay0 && true)) && PyData.canLayAll0 (toPs (its.map dItem))) = true)
      rw [h0, h1]; rfl
    · show max (max 0 (max 0 0) + 1) (PyData.depthAll (toPs (its.map dItem))) ≤ 1
      omega
theorem pair_ok (L : Nat) : ∀ j, ∀ it ∈ pairIts L j, (PyData.str it.2).canLay0 = true
  | 0, it, h => nomatch h
  | j + 1, it, h => by
    rcases List.mem_append.mp h with q | q
    · exact pair_ok L j it q
    · rw [List.mem_singleton.mp q]
      show (PyData.str ("\\\\" : Str)).canLay0 = true
      decide +kernel
theorem thg_ok (a : Nat → Nat) : ∀ i, ∀ it ∈ thg a i, (PyData.str it.2).canLay0 = true
  | 0, it, h => nomatch h
  | i + 1, it, h => by
    have key : ∀ b : Nat, b < 2 → (PyData.str (Txt.mul "\\" (b : Int) ++ "x")).canLay0 = true := by decide +kernel
    rcases List.mem_append.mp h with q | q
    · exact thg_ok a i it q
    · rcases List.mem_append.mp q with q | q
      · exact pair_ok _ _ it q
      · rw [List.mem_singleton.mp q]
        exact key _ (Nat.mod_lt _ (by decide))
theorem pair_len (L : Nat) : ∀ j, ∀ it ∈ pairIts L j, it.2.length ≤ 4
  | 0, it, h => nomatch h
  | j + 1, it, h => by
    rcases List.mem_append.mp h with q | q
    · exact pair_len L j it q
    · rw [List.mem_singleton.mp q]
      show ("\\\\" : Str).length ≤ 4
      decide +kernel
theorem thg_len (a : Nat → Nat) : ∀ i, ∀ it ∈ thg a i, it.2.length ≤ 4
  | 0, it, h => nomatch h
  | i + 1, it, h => by
    have key : ∀ b : Nat, b < 2 → (Txt.mul "\\" (b : Int) ++ "x").length ≤ 4 := by decide +kernel
    rcases List.mem_append.mp h with q | q
    · exact thg_len a i it q
    · rcases List.mem_append.mp q with q | q
      · exact pair_len _ _ it q
      · rw [List.mem_singleton.mp q]
        exact key _ (Nat.mod_lt _ (by decide))
theorem pow4 : ∀ i, i < 4 → ((2 : Int) ^ i).natAbs < 1073741824 := by decide
theorem swaps_false {elt : Expr} {gens : List Comprehension} {scope κ : Scope} {cpos p : Pos} {x : Str} {line : Nat} {env : Env} (h : env.scope = κ) (h2 : κ.names.lookup x = some .cell) :
    swapsWith (.ListComp elt gens scope cpos) (some (.Name x p)) line env = pure false := by
  have e2 : env.kindOf x = some .cell := by unfold Env.kindOf; rw [h, h2]
  show (pure (env.blockKind == .function && env.kindOf x == some .local && p.line == (Expr.ListComp elt gens scope cpos).pos.line && !(scope.names.any fun q => q.1 == x && (q.2 == .local || q.2 == .cell))) : Sem Bool) = pure false
  rw [e2]
  have : (some NameKind.cell == some NameKind.local) = false := by decide
  rw [this, Bool.and_false, Bool.false_and, Bool.false_and]
theorem dI_setv (xs : List Int) (i : Nat) (v : Int) : (dI xs).set i (.int v) = dI (xs.set i v) := by unfold dI; rw [List.map_set]
noncomputable def totI (ws sg : List Int) : Nat → Int
  | 0 => 0
  | i + 1 => totI ws sg i + ws.getD i 0 * sg.getD i 0
noncomputable def aC (ps : List Nat) (c : Nat) (i : Nat) : Nat := aheadOf c (ps.getD i 0)
theorem aC_le (ps : List Nat) (c i : Nat) : aC ps c i ≤ 4 := ahead_le _ _
noncomputable def signsC (ps : List Nat) (c n : Nat) : List Int := (List.range n).map fun j => sgnOf (aC ps c j)
noncomputable def stepC (ws : List Int) (ps : List Nat) (sums : List Int) (c : Nat) : List Int :=
  sums.set (cntN c) (sums.getD (cntN c) 0 + totI ws (signsC ps c 4) 4 * totI ws (signsC ps c 4) 4)
section
variable {G : Gd} {k : Nat} {κ : Scope} {mean : ExcName → Option Value} {mg mb : Str → Option Value} {F : Fm} {σ : Sg}
theorem items_get (its : List (Nat × Str)) (i : Nat) (h : i < its.length) : Out2 "at" "thing" (its.map dItem) i = ([("thing", .val (.str its[i].2)), ("at", .val (.int (its[i].1 : Nat)))] : Sg) := by
  unfold Out2
  rw [List.getD_eq_getElem?_getD, List.getElem?_map, List.getElem?_eq_getElem h]; rfl
theorem upto_items (its : List (Nat × Str)) : upto (fun i => (outG (its.getD i (0, default))).map D.int) its.length = dI (its.filterMap outG) := by
  unfold upto dI
  have : its = (List.range its.length).map fun i => its.getD i (0, default) := by
    apply List.ext_getElem
    · simp
    · intro i h1 h2; simp [List.getD_eq_getElem?_getD, List.getElem?_eq_getElem h1]
  conv => rhs; rw [this]
  rw [List.filterMap_map, List.map_filterMap]; rfl

noncomputable def sgT (ws : List Int) (ps : List Nat) (sums : List Int) (P : Tok → Prop) (c i : Nat) : Sg := ("total", .val (.int (totI ws (signsC ps c 4) i))) :: ("signs", .val (.list (dI (signsC ps c 4)))) :: ("chosen", .val (.list (dIT P (cbits c)))) :: sgC ws ps sums
theorem ch_body (T : Top pw lo mean mg mb G.hb) (h0 : 0 < G.tk) {c : Nat} (hc : c < 16) {ws : List Int} {ps : List Nat} {sums : List Int} (hws : ws.length = 4) (hps : ps.length = 4) (hsl : sums.length = 5)
    (hbits : ∀ w ∈ ws, Builtin.Int.intBits w ≤ 64) (htot : Builtin.Int.intBits (totI ws (signsC ps c 4) 4) ≤ 64) (hF : F.cf = (["chosen", "choice"] : List Str)) :
    ∃ tg it bd el pz, (rcAt 22).body[1]? = some (Stmt.For tg it bd el pz) ∧ Ex G (k + 2) (rcAt 22).scope F (("choice", .val (.int (c : Int))) :: sgC ws ps sums) bd (.next (sgC ws ps (stepC ws ps sums c))) := by
  refine ⟨_, _, _, _, _, rfl, ?_⟩
  have own_chosen : Own (rcAt 22).scope F "chosen" := .inr ⟨rfl, by rw [hF]; exact .head _⟩
  refine Ex.tok (m := 0) (d := fun n => ("chosen", .val (.list (dIT (fun t => t ≠ 0 ∧ t < n) (cbits c)))) :: ("choice", .val (.int (c : Int))) :: sgC ws ps sums) (fun A Xo os s E R I => ?_) fun n hn => ?_
  · refine compTok (σ' := ([("choice", .val (.int (c : Int)))] : Sg)) (fr := ["choice"]) (cf := []) (n := 4) (bs := OutR "k" 0) (outs := fun i => some (.int ((c / 2 ^ i % 2 : Nat) : Int)))
      (EvI.range (a := 0) (EvV.builtin T.g (b_range T).1 T.b (b_range T).2 rfl rfl) (.cons Ev.int (fun _ => rfl) .nil) (.inl ⟨rfl, rfl⟩) (by decide) (fun _ => rfl) (fun _ => ⟨_, _, rfl⟩) (fun _ => rfl))
      ⟨rfl, by decide +kernel, rfl, by decide +kernel, by decide +kernel, .inl ⟨rfl, by decide +kernel⟩⟩ (fun x sl h => ?_) (by intro x hx; rw [List.mem_singleton.mp hx]; exact ⟨_, rfl⟩) (fun _ _ => .inl rfl) (fun i => .cons rfl .nil) (fun i hi F' hF' => ⟨true, EvTs.nil, (fun h => nomatch h), fun _ => ⟨_, rfl, ?_⟩⟩) (PySem.W.kdl_size (by decide)) (fun _ _ => rfl) ?_ own_chosen (fun env h => ?_) R I
    · rcases lookup_cons' h with ⟨rfl, rfl⟩ | ⟨-, h⟩
      · exact ⟨.head _, rfl, rfl⟩
      · simp at h
    · have e : OutR "k" 0 i = ([("k", .val (.int (i : Int)))] : Sg) := by unfold OutR; rw [Nat.zero_add]
      rw [e]
      have e2 : ((c / 2 ^ i % 2 : Nat) : Int) = ((c : Int).fdiv (2 ^ (i : Int).toNat)).fmod 2 := by
        rw [Int.toNat_natCast, Int.fdiv_eq_ediv_of_nonneg _ (Int.le_of_lt (Int.pow_pos (by decide))), Int.fmod_eq_emod_of_nonneg _ (by decide)]
        simp
      rw [e2]
      exact Ev.modTok (Ev.bin (Ev.name rfl rfl) (Ev.bin Ev.int (Ev.name rfl rfl) (Op2.powI (a := 2) (by omega) (by omega) (by decide))) (Op2.divI (Int.ne_of_gt (Int.pow_pos (by decide))) (PyProof.noPylong_small (by rw [Int.toNat_natCast]; exact pow4 i hi)))) Ev.int (by decide) h0
    · rw [upto_some]; unfold cbits; rw [List.map_map]; rfl
    · exact swaps_false h rfl
  · have hF' : (F.at (n + 0)).cf = (["chosen", "choice"] : List Str) := hF
    generalize hP : (fun t : Tok => t ≠ 0 ∧ t < n) = P
    have tl4 := txt_size (aC ps c) (aC_le ps c) 4
    have tg4 := thg_length (aC ps c) (aC_le ps c)
    have ts := txt_size (aC ps c) (aC_le ps c)
    obtain ⟨hits, hend⟩ := txt_items (aC ps c) (aC_le ps c) 4
    refine Ex.cons (Ex1.assign (d := .str "") Ev.str (.inl rfl) (fun _ => rfl)) ?_
    refine Ex.cons (σ' := sgW P (cbits c) (txt (aC ps c) 0) (thg (aC ps c) 0) (sgC ws ps sums)) (Ex1.post (Ex1.assignOwn (xs := []) (EvN.list .nil (fun _ => rfl) (by simp)) rfl (fun _ => rfl)) (subW rfl rfl rfl rfl rfl rfl)) ?_
    refine Ex.cons (Ex1.for (n := (ps.map fun w => D.list (dI (plI w))).length) (m := (ps.map fun w => D.list (dI (plI w))).length) (σs := fun i => sgW P (cbits c) (txt (aC ps c) i) (thg (aC ps c) i) (sgC ws ps sums)) (bs := Out1 "places" (ps.map fun w => D.list (dI (plI w))))
      (EvI.list1 (Ev.name rfl rfl)) (.inl rfl) (fun _ _ => rfl) (Nat.le_refl _) (fun i hi => ?_) (.inl ⟨rfl, Ex.nil⟩)) ?_
    · rw [List.length_map, hps] at hi
      have e : Out1 "places" (ps.map fun w => D.list (dI (plI w))) i = ([("places", .val (.list (dI (plI (ps.getD i 0)))))] : Sg) := by
        unfold Out1; rw [List.getD_eq_getElem?_getD, List.getElem?_map, List.getD_eq_getElem?_getD, List.getElem?_eq_getElem (by omega)]; rfl
      rw [e]
      obtain ⟨_, _, _, _, _, _, _, _, _, _, q1, q2, σ', h1, h2⟩ := ch_word (G := G) (k := k + 1) (F := F.at (n + 0)) T (c := c) (w := ps.getD i 0) (P := P) (text := txt (aC ps c) i) (things := thg (aC ps c) i) (ws := ws) (qs := ps) (sums := sums) (by have := ts i; omega) (by have := tg4 i; omega)
      cases q1
      cases q2
      exact ⟨σ', h1, h2⟩
    rw [List.length_map, hps]
    refine Ex.cons (Ex1.assign (d := .list ((thg (aC ps c) 4).map dItem)) ((c_escList T (x := txt (aC ps c) 4) (Ev.name rfl rfl) (txt_ascii _ (aC_le ps c) 4) hend (by rw [hits]; exact PySem.W.kdl_size (by have := tg4 4; omega)) rfl rfl (fun _ => rfl) (fun _ => rfl)).cast (by rw [hits])) (.inl rfl) (fun _ => rfl)) ?_
    have hok := toP_items _ (thg_ok (aC ps c) 4)
    refine Ex.cons (Ex1.if_f (EvT.cmp (Ev.name (d := .list ((thg (aC ps c) 4).map dItem)) rfl rfl).w (EvW.own (p := true) (xs := (thg (aC ps c) 4).map dItem) rfl rfl) (OpC.neD rfl hok.1 (Nat.le_trans (Nat.succ_le_succ hok.2) (by decide))) rfl) Ex.nil) ?_
    refine Ex.cons (Ex1.comp (σ' := ([] : Sg)) (ds := dI (signsC ps c 4)) (n := ((thg (aC ps c) 4).map dItem).length) (bs := Out2 "at" "thing" ((thg (aC ps c) 4).map dItem)) (outs := fun i => (outG ((thg (aC ps c) 4).getD i (0, default))).map D.int) (fr := []) (cf := [])
      ⟨EvI.list2 (Ev.name rfl rfl) (fun d hd => by obtain ⟨it, _, rfl⟩ := List.mem_map.mp hd; exact ⟨_, _, rfl⟩), ⟨rfl, by decide +kernel, rfl, by decide +kernel, by decide +kernel, .inl ⟨rfl, by decide +kernel⟩⟩, (fun x sl h => by simp at h), (fun x hx => nomatch hx), (fun F' _ => ⟨.inl rfl, .inl rfl⟩), (fun i => .nil), (fun i hi F' hF' => ?_), ?_, (fun _ _ => rfl), ?_⟩ (.inl rfl) (fun env h => swaps_true h rfl rfl rfl (by decide +kernel))) ?_
    · rw [List.length_map] at hi
      rw [items_get _ _ hi]
      have e : (thg (aC ps c) 4).getD i (0, default) = (thg (aC ps c) 4)[i] := by rw [List.getD_eq_getElem?_getD, List.getElem?_eq_getElem hi]; rfl
      rw [e]
      have hlen : ((thg (aC ps c) 4)[i].2).length ≤ sizeLine := PySem.W.kdl_size (Nat.le_trans (thg_len _ _ _ (List.getElem_mem hi)) (by decide))
      refine ⟨_, EvTs.one (EvT.cmp (Ev.name rfl rfl).w Ev.str.w OpC.neS rfl), fun h => ?_, fun h => ⟨.int (3 - 2 * ((thg (aC ps c) 4)[i].2.length : Int)), ?_, Ev.bin Ev.int (Ev.bin Ev.int (Ev.callB (EvV.builtin T.g (b_len T).1 T.b (b_len T).2 rfl rfl) (.cons (Ev.name rfl rfl) (fun _ => rfl) .nil) (Cal.lenS hlen) (fun _ => rfl) (fun _ => ⟨_, _, rfl⟩) (fun _ => rfl)) (Op2.mulI (a := 2) (IntMulOk.of_left (by decide)))) Op2.subI⟩⟩
      · have : ((thg (aC ps c) 4)[i].2 == ("\\\\" : Str)) = true := by simpa using h
        unfold outG; rw [if_pos this]; rfl
      · have : ((thg (aC ps c) 4)[i].2 == ("\\\\" : Str)) = false := by simpa using h
        unfold outG; rw [this]; rfl
    · exact PySem.W.kdl_size (by rw [List.length_map]; have := tg4 4; omega)
    · rw [List.length_map, upto_items, thg_signs _ (aC_le ps c)]; rfl
    obtain ⟨hcnt, hc5⟩ := cnt_eq c hc
    refine Ex.cons (σ' := sgT ws ps sums P c 0) (Ex1.post (Ex1.assign (d := .int 0) Ev.int (.inl rfl) (fun _ => rfl)) (.cons rfl (.cons rfl (.cons rfl (.cons rfl (.cons rfl (.cons rfl .nil))))))) ?_
    refine Ex.cons (Ex1.for (n := min (dI ws).length (dI (signsC ps c 4)).length) (m := min (dI ws).length (dI (signsC ps c 4)).length) (σs := fun i => sgT ws ps sums P c i) (bs := OutZ "weight" "sign" (dI ws) (dI (signsC ps c 4)))
      (EvI.zip (EvV.builtin T.g (b_zip T).1 T.b (b_zip T).2 rfl rfl) (.cons (Ev.name rfl rfl) (fun _ => rfl) (.cons (Ev.name rfl rfl) (fun _ => rfl) .nil)) (fun _ => rfl) (fun _ => ⟨_, _, rfl⟩) (fun _ => rfl)) ⟨.inl rfl, .inl rfl⟩ (fun _ _ => rfl) (Nat.le_refl _) (fun i hi => ?_) (.inl ⟨rfl, Ex.nil⟩)) ?_
    · have hsg : (signsC ps c 4).length = 4 := by unfold signsC; simp
      rw [dI_length, dI_length, hws, hsg] at hi
      have hi4 : i < 4 := hi
      have e : OutZ "weight" "sign" (dI ws) (dI (signsC ps c 4)) i = ([("sign", .val (.int ((signsC ps c 4).getD i 0))), ("weight", .val (.int (ws.getD i 0)))] : Sg) := by
        unfold OutZ; rw [dI_getD (by omega), dI_getD (by omega)]
      rw [e]
      have hmem : ws.getD i 0 ∈ ws := by rw [List.getD_eq_getElem?_getD, List.getElem?_eq_getElem (by omega)]; exact List.getElem_mem _
      exact ⟨_, Ex.one (Ex1.assign (d := .int (totI ws (signsC ps c 4) (i + 1))) (Ev.fn (c_add T _ _) T.g (.cons (Ev.name rfl rfl) (fun _ => rfl) (.cons (Ev.fn (c_mul T (ws.getD i 0) ((signsC ps c 4).getD i 0) (IntMulOk.of_left (hbits _ hmem))) T.g (.cons (Ev.name rfl rfl) (fun _ => rfl) (.cons (Ev.name rfl rfl) (fun _ => rfl) .nil)) rfl rfl (fun _ => rfl) (fun _ => ⟨_, _, rfl⟩)) (fun _ => rfl) .nil)) rfl rfl (fun _ => rfl) (fun _ => ⟨_, _, rfl⟩)) (.inl rfl) (fun _ => rfl)),
        .cons rfl (.cons rfl (.cons rfl (.cons rfl (.cons rfl (.cons rfl .nil)))))⟩
    have hmin : min (dI ws).length (dI (signsC ps c 4)).length = 4 := by rw [dI_length, dI_length, hws]; unfold signsC; simp
    rw [hmin]
    have hget : (dI sums)[cntN c]? = some (.int (sums.getD (cntN c) 0)) := dI_get (by omega)
    refine Ex.cons (Ex1.assign (d := .int ((cntN c : Nat) : Int)) ((Ev.fn (c_countOf T P (fun t => (F.at (n + 0)).s0.toks ≤ t ∧ t ≠ 0) (cbits c) 1 (fun t u ht hu => ?_) (cb_small c hc)) T.g (.cons (Ev.name rfl rfl) (fun _ => rfl) (.cons (Ev.intTok h0) (fun _ => rfl) .nil)) rfl rfl (fun _ => rfl) (fun _ => ⟨_, _, rfl⟩)).cast (by rw [hcnt])) (.inl rfl) (fun _ => rfl)) ?_
    · subst hP
      exact ⟨ht.1, hu.2, Nat.ne_of_lt (Nat.lt_of_lt_of_le ht.2 hu.1)⟩
    refine Ex.castN (Ex.one (ex_setitem T (d := .int (sums.getD (cntN c) 0 + totI ws (signsC ps c 4) 4 * totI ws (signsC ps c 4) 4)) (i := ((cntN c : Nat) : Int)) rfl rfl (Ev.name rfl rfl)
      (Ev.fn (c_add T _ _) T.g (.cons (Ev.fnW (c_getitemL T (dI sums) (cntN c) _ hget (PySem.W.kdl_size (by rw [dI_length]; omega))) T.g (.cons (EvW.own rfl rfl) (fun _ => rfl) (.cons (Ev.name rfl rfl).w (fun _ => rfl) .nil)) rfl rfl rfl (fun _ => rfl) (fun _ => ⟨_, _, rfl⟩)) (fun _ => rfl)
        (.cons (Ev.fn (c_mul T (totI ws (signsC ps c 4) 4) (totI ws (signsC ps c 4) 4) (IntMulOk.of_left htot)) T.g (.cons (Ev.name rfl rfl) (fun _ => rfl) (.cons (Ev.name rfl rfl) (fun _ => rfl) .nil)) rfl rfl (fun _ => rfl) (fun _ => ⟨_, _, rfl⟩)) (fun _ => rfl) .nil)) rfl rfl (fun _ => rfl) (fun _ => ⟨_, _, rfl⟩))
      (by omega) (by rw [dI_length, hsl]; omega) (PySem.W.kdl_size (by rw [dI_length]; omega)) rfl (fun _ => rfl))) (.cons ?_ (.cons rfl (.cons rfl .nil)))
    show some (Slot.own false _) = some (Slot.own false _)
    rw [Int.toNat_natCast, dI_setv]; rfl
end
end Mine
end C25

noncomputable section C26
open PySem PySem.Calls PyProof.Rows
set_option Elab.async false
set_option linter.unusedVariables false
set_option maxRecDepth 100000
namespace Mine
noncomputable def sumsC (ws : List Int) (ps : List Nat) : Nat → List Int
  | 0 => [0, 0, 0, 0, 0]
  | c + 1 => stepC ws ps (sumsC ws ps c) c
theorem sumsC_length (ws : List Int) (ps : List Nat) : ∀ c, (sumsC ws ps c).length = 5
  | 0 => rfl
  | c + 1 => by rw [sumsC, stepC, List.length_set]; exact sumsC_length ws ps c
section
variable {G : Gd} {k : Nat} {mean : ExcName → Option Value} {mg mb : Str → Option Value}
theorem c_choices (T : Top pw lo mean mg mb G.hb) (h0 : 0 < G.tk) {ws : List Int} {ps : List Nat} (hws : ws.length = 4) (hps : ps.length = 4) (hbits : ∀ w ∈ ws, Builtin.Int.intBits w ≤ 64) (htot : ∀ c, c < 16 → Builtin.Int.intBits (totI ws (signsC ps c 4) 4) ≤ 64) :
    FnAt G mg (k + 3) "_law_by_choices" [.list (dI ws), .list (ps.map fun w => D.list (dI (plI w)))] (.list (dI (sumsC ws ps 16))) :=
  FnAt.mk T (rc := rcAt 22) (names := ["weights", "words"]) (cf := ["chosen", "choice"]) (rc_mem rfl 22 rfl rfl) (fun pm code doc => bind2 fun a b => rfl) rfl (by intro x hx; simp at hx; rcases hx with rfl | rfl <;> rfl) rfl rfl (fun n => rfl) (by decide) (by decide) rfl
    fun F hF => by
      refine Ex.cons (Ex1.assignOwn (xs := dI [0, 0, 0, 0, 0]) (EvN.list (.cons Ev.int (fun _ => rfl) (.cons Ev.int (fun _ => rfl) (.cons Ev.int (fun _ => rfl) (.cons Ev.int (fun _ => rfl) (.cons Ev.int (fun _ => rfl) .nil))))) (fun _ => rfl) (PySem.W.kdl_size (by decide))) rfl (fun _ => rfl)) ?_
      refine Ex.ownF (x := "sums") rfl (Ex.pre (σ' := sgC ws ps (sumsC ws ps 0)) ?_ (.cons rfl (.cons rfl (.cons rfl .nil))))
      refine Ex.cons (Ex1.for (n := 16) (m := 16) (σs := fun c => sgC ws ps (sumsC ws ps c)) (bs := OutR "choice" 0)
        (EvI.range (a := 0) (EvV.builtin T.g (b_range T).1 T.b (b_range T).2 rfl rfl) (.cons Ev.int (fun _ => rfl) .nil) (.inl ⟨rfl, rfl⟩) (by decide) (fun _ => rfl) (fun _ => ⟨_, _, rfl⟩) (fun _ => rfl)) (.inr ⟨rfl, by rw [hF]; exact .tail _ (.head _)⟩) (fun _ _ => rfl) (Nat.le_refl _) (fun c hc => ?_) (.inl ⟨rfl, Ex.nil⟩)) (Ex.freeze (x := "sums") rfl (Ex.one (Ex1.ret (Ev.name rfl rfl))))
      have e : OutR "choice" 0 c = ([("choice", .val (.int ((c : Nat) : Int)))] : Sg) := by unfold OutR; rw [Nat.zero_add]
      rw [e]
      obtain ⟨_, _, _, _, _, q1, h1⟩ := ch_body (G := G) (k := k) (F := F) T h0 hc (ws := ws) (ps := ps) (sums := sumsC ws ps c) hws hps (sumsC_length ws ps c) hbits (htot c hc) hF
      cases q1
      exact ⟨_, h1, .refl⟩
end
end Mine
end C26

noncomputable section C27
open PySem PySem.Calls PyProof.Rows
set_option Elab.async false
set_option linter.unusedVariables false
set_option maxRecDepth 100000
namespace Mine
section
variable {G : Gd} {k : Nat} {mean : ExcName → Option Value} {mg mb : Str → Option Value} {F : Fm} {σ : Sg}

/-- where the octets of the four numbers lie -/
structure Laid4 (os : List Int) (n t off : Nat → Nat) : Prop where
  off0 : off 0 = 0
  step : ∀ i, i < 4 → off (i + 1) = off i + t i + 1
  whole : off 4 = os.length
  small : os.length ≤ 1000
  at_ : ∀ i, i < 4 → ∀ j, j ≤ t i → os[off i + j]? = some ((octAt (n i) (t i) j : Nat) : Int)

noncomputable def readOf (n : Nat → Nat) : List Int := (List.range 4).map fun i => ((n i : Nat) : Int)
theorem ev_varint (T : Top pw lo mean mg mb G.hb) {κ : Scope} {F' : Fm} {σ' : Sg} {os : List Int} {it l : Addr} {n t : Nat} {p : Nat} {p1 p2 q : Pos} (hv : Varint G mg k n t) (hos : ∀ j, j ≤ t → os[p + j]? = some ((octAt n t j : Nat) : Int)) (hsz : os.length ≤ 1000)
    (hx : σ'.lookup ("feed" : Str) = some (.raw (.ref it))) (hk : κ.names.lookup ("_parse_varint" : Str) = some .globalImplicit) (hb : ∀ env, backTo q (starEach [Expr.Name "feed" p2] env) = [(false, eval (.Name "feed" p2) env)]) :
    EvX G k κ F' σ' (.Call (.Name "_parse_varint" p1) [.Name "feed" p2] [] q) (.int ((n : Nat) : Int)) [it] [(.list (dI os), .ref l)] (fun _ _ => True) (fun h => h.IsListIter it l p) (fun h => h.IsListIter it l (p + t + 1)) := fun A Xo osx s E R I hV hVZ hV0 hgv hP => by
  obtain ⟨f, o, fd, h1, h2, h3, h4⟩ := hv
  refine callF_name (EvV.global T.g h1 hk rfl) h2 h3 hx rfl hb I ?_
  exact h4 A (F'.X Xo osx) F'.s0 s it l os p E _ R ⟨I.base, I.tk⟩ I.st (hV0 it (.head _)) I.lives (mem_X.mpr (.inr (.inr (.inr (hV it (.head _)))))) hP (I.ghost _ (hgv _ (.head _))) (PySem.W.kdl_size (by omega)) hos fun tk s' g hi => ⟨g, .ofInt, trivial, hi⟩

theorem ex_feed (T : Top pw lo mean mg mb G.hb) {os : List Int} {n t off : Nat → Nat} (L : Laid4 os n t off) (hv : ∀ i, i < 4 → Varint G mg k (n i) (t i)) (hF : ("feed" : Str) ∈ F.cf) (hx : σ.lookup ("octets" : Str) = some (.val (.list (dI os)))) (hf0 : σ.lookup ("feed" : Str) = none) {rest : List Stmt} {out : Out}
    (h : Ex G k (rcAt 24).scope F (("read", .val (.list (dI (readOf n)))) :: σ) rest out) :
    ∃ st8 st9 st10, (rcAt 24).body[6]? = some st8 ∧ (rcAt 24).body[7]? = some st9 ∧ (rcAt 24).body[8]? = some st10 ∧ Ex G k (rcAt 24).scope F σ (st8 :: st9 :: st10 :: rest) out := by
  refine ⟨_, _, _, rfl, rfl, rfl, fun A Xo osx s E R I => ?_⟩
  refine wpAny_execs_cons (wpAny_Assign_Name (callBQ (EvV.builtin T.g (b_iter T).1 T.b (b_iter T).2 rfl rfl) (.cons (Ev.name hx rfl) (fun _ => rfl) .nil) (fun _ => rfl) (fun _ => ⟨_, _, rfl⟩) (fun _ => rfl) R I fun vs s1 g1 r1 => ?_) (by rfl))
  obtain ⟨v1, rfl, r⟩ := r1.single
  obtain ⟨l, vs, rfl, hlX, hl, ra⟩ := r.list'
  refine call_iter_list hl ?_
  have hit0 : s1.heap.get? s1.heap.objs.size = none := get_size _
  generalize hit : s1.heap.objs.size = it at hit0 ⊢
  have hits : s.heap.get? it = none := g1.dead hit0
  have g2 : St [] s1 { s1 with heap := s1.heap.push { cls := .type "list_iterator", data := .fields #[.ref l, .int 0 0] } } := .push (tk := s1.toks)
  have hli : (s1.heap.push { cls := .type "list_iterator", data := .fields #[.ref l, .int 0 0] }).IsListIter it l 0 := ⟨_, by rw [← hit]; exact Heap.get?_push_size _ rfl, rfl, rfl⟩
  generalize hs2 : ({ s1 with heap := s1.heap.push { cls := .type "list_iterator", data := .fields #[.ref l, .int 0 0] } } : Shared) = s2 at g2
  have hli2 : s2.heap.IsListIter it l 0 := by rw [← hs2]; exact hli
  clear hli
  have hitl : ∃ o, s2.heap.get? it = some o := let ⟨o, ho, _⟩ := hli2; ⟨o, ho⟩
  have rl2 : Rep ([it] ++ F.X Xo osx) s2.heap (.list (dI os)) (.ref l) := Rep.move (fun b o _ e => g2.keep b o e) (fun b hb => by
    rcases List.mem_append.mp hb with q | q
    · rw [List.mem_singleton.mp q]; exact .inr hit0
    · exact .inl q) (Rep.ofList hlX hl ra)
  have I2 := I.around (W := [it]) (gh := [(.list (dI os), .ref l)]) (g1.trans g2) (fun b hb => by rw [List.mem_singleton.mp hb]; exact hits) (fun b hb => by rw [List.mem_singleton.mp hb]; exact hitl) (fun p hp => by rw [List.mem_singleton.mp hp]; exact rl2)
  have hitZ : ∀ {o'}, (∀ p ∈ o', p ∈ osx) → it ∉ F.Z o' := fun ho q => by
    rcases Z_new (s := s) (fun p hp => .inl (ho p hp)) it q with z | z
    · obtain ⟨o, e⟩ := I.live it (Z_X it z); rw [hits] at e; cases e
    · rcases mem_Z.mp q with w | w | w
      · obtain ⟨o, e⟩ := I.live it (mem_X.mpr (.inl w)); rw [hits] at e; cases e
      · obtain ⟨o, e⟩ := I.live it (mem_X.mpr (.inr (.inl w))); rw [hits] at e; cases e
      · obtain ⟨p, hp, e⟩ := List.mem_map.mp w
        obtain ⟨o, e'⟩ := I.live it (mem_X.mpr (.inr (.inr (.inl (e ▸ List.mem_map_of_mem (ho p hp)))))); rw [hits] at e'; cases e'
  have hitZ0 := hitZ (o' := osx) (fun _ h => h)
  have hit00 : F.s0.heap.get? it = none := I.st.dead hits
  refine I2.storeSlot (sl := .raw (.ref it)) (.inr ⟨rfl, hF⟩) (fun _ _ _ _ _ => rfl) fun s3 I3 g3 => ?_
  have hli3 : s3.heap.IsListIter it l 0 := hli2.at fun o e => g3.heap _ _ (fun q => hitZ0 (Y_Z _ q)) e
  -- read
  refine wpAny_execs_cons ?_
  rw [exec_Assign_Name_used _ _ _ _ (swaps_true (κ := (rcAt 24).scope) I.scope rfl rfl rfl (by decide +kernel))]
  refine wpAny_bind (wpAny_standAt (wpAny_bind ?_))
  rw [arm_evalThenUse_ListComp]
  refine wpAny_bind (comp_core (n := 4) (bs := OutR "turn" 0) (outs := fun i => some (.int ((n i : Nat) : Int))) (fr := ["feed"]) (cf := []) (V := [it]) (gv := [(.list (dI os), .ref l)]) (PV := fun i h => h.IsListIter it l (off i)) (TP := fun _ _ => True) (σ' := ([("feed", .raw (.ref it))] : Sg))
    (EvI.range (a := 0) (EvV.builtin T.g (b_range T).1 T.b (b_range T).2 rfl rfl) (.cons Ev.int (fun _ => rfl) .nil) (.inl ⟨rfl, rfl⟩) (by decide) (fun _ => rfl) (fun _ => ⟨_, _, rfl⟩) (fun _ => rfl))
    ⟨rfl, by decide +kernel, rfl, by decide +kernel, by decide +kernel, .inl ⟨rfl, by decide +kernel⟩⟩ (fun x sl h => ?_) (by intro x hx; rw [List.mem_singleton.mp hx]; exact ⟨_, lookup_self⟩) (fun _ _ => .inl rfl) (fun i => .cons rfl .nil) (fun i hi F' hF' => ⟨true, EvTs.nil, (fun h => nomatch h), fun _ => ⟨_, rfl, ?_⟩⟩)
    (fun _ _ _ _ _ => trivial) (fun i h h' hP hk => hP.at fun o e => hk it (.head _) o e) (PySem.W.kdl_size (by decide)) (fun _ _ => rfl) R I3 (fun b hb => List.mem_append.mpr (.inl hb)) (fun b hb => by rw [List.mem_singleton.mp hb]; exact hitZ0) (fun b hb => by rw [List.mem_singleton.mp hb]; exact hit00) (fun p hp => List.mem_append.mpr (.inl hp)) (by rw [L.off0]; exact hli3)
    fun a C ws m s4 g4 ha hC hCa hpl hr hn hP _ => ?_)
  · rcases lookup_cons' h with ⟨rfl, rfl⟩ | ⟨-, h⟩
    · exact ⟨.head _, lookup_self, rfl⟩
    · simp at h
  · have e : OutR "turn" 0 i = ([("turn", .val (.int ((i : Nat) : Int)))] : Sg) := by unfold OutR; rw [Nat.zero_add]
    rw [e, L.step i hi]
    exact ev_varint T (hv i hi) (L.at_ i hi) L.small rfl rfl (fun _ => rfl)
  obtain ⟨oC, _, _, hoC, _⟩ := id hn
  have I4 := I3.turnAround (W := [C]) g4 (fun b hb => List.mem_append.mpr (.inl hb)) (fun b hb => by rw [List.mem_singleton.mp hb]; exact hitZ0) (fun b hb => by rw [List.mem_singleton.mp hb]; exact hit00) (fun b hb => by rw [List.mem_singleton.mp hb]; exact hC) (fun b hb => by rw [List.mem_singleton.mp hb]; exact ⟨_, hoC⟩)
  have hCX : C ∉ F.X ⟨[it] ++ Xo.xs, [(.list (dI os), .ref l)] ++ Xo.gh⟩ osx := I3.off hC
  have hX4 : ∀ c ∈ F.X ⟨[C] ++ ([it] ++ Xo.xs), [(.list (dI os), .ref l)] ++ Xo.gh⟩ osx, c = C ∨ c ∈ F.X ⟨[it] ++ Xo.xs, [(.list (dI os), .ref l)] ++ Xo.gh⟩ osx := fun c hc => by
    rcases mem_X.mp hc with q | q | q | q
    · exact .inr (mem_X.mpr (.inl q))
    · exact .inr (mem_X.mpr (.inr (.inl q)))
    · exact .inr (mem_X.mpr (.inr (.inr (.inl q))))
    · rcases List.mem_append.mp q with z | z
      · exact .inl (List.mem_singleton.mp z)
      · exact .inr (mem_X.mpr (.inr (.inr (.inr z))))
  have hup : upto (fun i => some (D.int ((n i : Nat) : Int))) 4 = dI (readOf n) := by rw [upto_some]; unfold readOf dI; rw [List.map_map]; rfl
  rw [hup] at hr
  have r4 : Rep (F.X ⟨[C] ++ ([it] ++ Xo.xs), [(.list (dI os), .ref l)] ++ Xo.gh⟩ osx) s4.heap (.list (dI (readOf n))) (.ref a) := Rep.ofList (fun q => by
      rcases hX4 a q with z | z
      · exact hCa z.symm
      · exact I3.off ha z) hpl.isList (hr.sub fun c hc => by
      rcases hX4 c hc with z | z
      · rw [z]; exact .head _
      · exact .tail _ (.tail _ z))
  refine wpAny_assign_Name (I4.storeVal (.inl rfl) r4 fun s5 I5 g5 => ?_)
  have hCY : C ∉ F.Y osx := fun q => hCX (Y_X C q)
  refine ⟨m, hn.at fun o e => g5.heap C o hCY e, fun h' hs' => wpAny_pure (wpAny_pure ?_)⟩
  have gw : Stw [C] s5 { s5 with heap := h' } := .one hs'.extBut
  have I6 := I5.closeW (W := [C]) (gh := []) (Xo := ⟨[it] ++ Xo.xs, [(.list (dI os), .ref l)] ++ Xo.gh⟩) gw (fun b hb => by rw [List.mem_singleton.mp hb]; exact hCX) (fun b hb => by rw [List.mem_singleton.mp hb]; exact I3.st.dead hC)
  have hCs : s.heap.get? C = none := (g1.trans g2).dead (g3.dead hC)
  -- from s on
  have gs3 : St (F.Y osx) s s3 := (g1.trans g2).up.trans g3
  have gs4 : St (F.Y osx) s s4 := gs3.trans' g4 fun c hc => .inr (by rw [List.mem_singleton.mp hc]; exact hits)
  have gs6 : St (F.Y osx) s { s5 with heap := h' } := (gs4.trans g5).w gw fun b hb => by rw [List.mem_singleton.mp hb]; exact hCs
  have hli6 : ({ s5 with heap := h' } : Shared).heap.IsListIter it l (off 4) := show h'.IsListIter it l (off 4) from (hP.at fun o e => g5.heap _ _ (fun q => hitZ0 (Y_Z _ q)) e).extBut hs'.extBut (fun e => hCX (mem_X.mpr (.inr (.inr (.inr (List.mem_append.mpr (.inl (by rw [← e]; exact .head _))))))))
  generalize ({ s5 with heap := h' } : Shared) = s6 at I6 gs6 hli6 ⊢
  -- list(feed) != []
  have hitX : it ∉ F.X Xo osx := I.off hits
  obtain ⟨l', vs', e', hlX', hl', ra'⟩ := Rep.list' (I6.ghost _ (.head _))
  cases e'
  have hnone : vs'[off 4]? = none := by
    have := ra'.length
    rw [dI_length] at this
    refine Array.getElem?_eq_none ?_
    rw [L.whole, ← this]
    simp
  refine wpAny_execs_cons (wpAny_If (wpAny_isTrue_Compare1 (callT_name (EvV.builtin T.g (b_list T).1 T.b (b_list T).2 rfl rfl) (x := "feed") (u := .ref it) (by rw [lookup_ne (by decide)]; exact lookup_self) rfl (fun _ => rfl) I6 (call_drained R.handled hli6 hl' hnone fun s7 m' gw7 hd7 hS7 => ?_)) rfl))
  have I7 := I6.closeW (W := [it]) (gh := [(.list (dI os), .ref l)]) (Xo := Xo) gw7 (fun b hb => by rw [List.mem_singleton.mp hb]; exact hitX) (fun b hb => by rw [List.mem_singleton.mp hb]; exact hit00)
  have gs7 : St (F.Y osx) s s7 := gs6.w gw7 fun b hb => by rw [List.mem_singleton.mp hb]; exact hits
  have enil : ∀ p, Ev G k (rcAt 24).scope F (("read", .val (.list (dI (readOf n)))) :: ("feed", .raw (.ref it)) :: σ) (.List [] p) (.list []) := fun p => Ev.list .nil (fun _ => rfl) (PySem.W.kdl_size (by decide))
  refine wp_st (β := Unit) (enil _ A Xo osx s7 _ R I7) fun v2 s8 g8 r8 => ?_
  have rS : Rep [] s8.heap (.list []) (.ref s6.heap.objs.size) := .ofList (fun h => nomatch h) ⟨_, g8.keep _ _ hS7, rfl, _, rfl⟩ .nil
  refine wp_st (β := Unit) (OpC.neD (G := G) (k := k) (d1 := .list []) (d2 := .list []) rfl rfl (by decide) A s8 _ _ _ R rS r8.none) fun v s9 g9 hv9 => ?_
  subst hv9
  refine wpAny_truthy_bool ?_
  simp only [Bool.false_eq_true, if_false]
  refine wpAny_execs_nil ?_
  have I9 : Inv G (rcAt 24).scope F (("read", .val (.list (dI (readOf n)))) :: σ) Xo osx s9 := (I7.grow (g8.trans g9)).weaken fun x sl hxs => by
    rcases lookup_cons' hxs with ⟨rfl, rfl⟩ | ⟨hne, hxs⟩
    · exact lookup_self
    · rw [lookup_ne hne, lookup_ne (fun e => by rw [e, hf0] at hxs; cases hxs)]; exact hxs
  exact wpAny_mono (h A Xo osx s9 E R I9) (fun f s10 q => q.then (gs7.trans (g8.trans g9).up) fun _ h => .inl h) fun _ _ e => e
end
end Mine
end C27

noncomputable section C28
open PySem PySem.Calls PyProof.Rows
set_option Elab.async false
set_option linter.unusedVariables false
set_option maxRecDepth 100000
namespace Mine
noncomputable def seedsOf (xs : List Int) : List Int := xs.take 4 ++ ([27, -50, 101, 20] : List Int).drop xs.length
theorem seeds_length (xs : List Int) : (seedsOf xs).length = 4 := by
  unfold seedsOf
  rw [List.length_append, List.length_take, List.length_drop]
  show min 4 xs.length + (4 - xs.length) = 4
  omega
noncomputable def wN (x : Int) : Nat := (x % 16).toNat
noncomputable def szN (x : Int) : Nat := x.natAbs / 16 % 2 ^ 60 + 1
noncomputable def shI (x : Int) : Int := if 0 ≤ x then (szN x : Int) else -(szN x : Int)
noncomputable def numN (x : Int) : Nat := 32 * szN x + (if x < 0 then 16 else 0) + wN x
theorem wN_lt (x : Int) : wN x < 16 := by unfold wN; omega
theorem wN_eq (x : Int) : x.fmod 16 = ((wN x : Nat) : Int) := by
  unfold wN
  rw [Int.fmod_eq_emod_of_nonneg _ (by decide)]
  omega
theorem szN_lt (x : Int) : szN x ≤ 2 ^ 60 := by
  unfold szN
  have := Nat.mod_lt (x.natAbs / 16) (show 0 < 2 ^ 60 by decide)
  omega
theorem numN_lt (x : Int) : numN x < 64 ^ 11 := by
  unfold numN
  have h1 := szN_lt x
  have h2 := wN_lt x
  have : (if x < 0 then 16 else 0) ≤ 16 := by split <;> decide
  omega
noncomputable def tOf : Nat → Nat → Nat
  | _, 0 => 0
  | n, b + 1 => if n ≤ 63 then 0 else tOf (n / 64) b + 1
theorem tOf_ok : ∀ (b n : Nat), n < 64 ^ (b + 1) → n / 64 ^ tOf n b ≤ 63 ∧ (∀ i, i < tOf n b → 63 < n / 64 ^ i) ∧ tOf n b ≤ b
  | 0, n, h => ⟨by unfold tOf; rw [Nat.pow_zero, Nat.div_one]; omega, fun i hi => by unfold tOf at hi; omega, Nat.le_refl _⟩
  | b + 1, n, h => by
    unfold tOf
    by_cases q : n ≤ 63
    · rw [if_pos q]
      exact ⟨by rw [Nat.pow_zero, Nat.div_one]; exact q, fun i hi => by omega, Nat.zero_le _⟩
    · rw [if_neg q]
      have hn : n / 64 < 64 ^ (b + 1) := Nat.div_lt_of_lt_mul (by rw [Nat.mul_comm, ← Nat.pow_succ]; exact h)
      obtain ⟨h1, h2, h3⟩ := tOf_ok b (n / 64) hn
      refine ⟨?_, fun i hi => ?_, by omega⟩
      · rw [Nat.pow_succ, Nat.mul_comm, ← Nat.div_div_eq_div_mul]; exact h1
      · cases i with
        | zero => rw [Nat.pow_zero, Nat.div_one]; omega
        | succ i => rw [Nat.pow_succ, Nat.mul_comm, ← Nat.div_div_eq_div_mul]; exact h2 i (by omega)
noncomputable def tN (x : Int) : Nat := tOf (numN x) 10
theorem tN_ok (x : Int) : numN x / 64 ^ tN x ≤ 63 ∧ (∀ i, i < tN x → 63 < numN x / 64 ^ i) ∧ tN x ≤ 10 := tOf_ok 10 _ (numN_lt x)
noncomputable def octsX (x : Int) : List Int := octs (numN x) (tN x)
noncomputable def octsOf (l : List Int) : List Int := l.flatMap octsX
theorem octsX_length (x : Int) : (octsX x).length = tN x + 1 := octs_length _ _
theorem octsOf_length : ∀ l : List Int, (octsOf l).length ≤ 11 * l.length
  | [] => Nat.le_refl _
  | x :: l => by
    have := octsOf_length l
    have h := (tN_ok x).2.2
    show (octsX x ++ octsOf l).length ≤ _
    rw [List.length_append, octsX_length, List.length_cons]
    omega
theorem bits_le {m k : Nat} (h : m < 2 ^ k) : Builtin.Int.intBits ((m : Nat) : Int) ≤ k := by
  unfold Builtin.Int.intBits
  split
  · exact Nat.zero_le _
  · rename_i q
    have hm : m ≠ 0 := fun e => q (by rw [e]; rfl)
    rw [Int.natAbs_natCast]
    exact (Nat.log2_lt hm).mpr h
theorem bits_abs (a : Int) : Builtin.Int.intBits a = Builtin.Int.intBits ((a.natAbs : Nat) : Int) := by
  unfold Builtin.Int.intBits
  rw [Int.natAbs_natCast]
  by_cases h : a = 0
  · subst h; rfl
  · have h1 : (a == 0) = false := by simpa using h
    have h2 : (((a.natAbs : Nat) : Int) == 0) = false := by simpa using h
    rw [h1, h2]
theorem num_bits (x : Int) (i : Nat) : Builtin.Int.intBits ((numN x / 64 ^ i : Nat) : Int) ≤ 200 := by
  have h := numN_lt x
  have h2 : numN x / 64 ^ i ≤ numN x := Nat.div_le_self _ _
  exact bits_le (Nat.lt_of_le_of_lt h2 (Nat.lt_of_lt_of_le h (by decide)))
theorem shI_abs (x : Int) : (shI x).natAbs = szN x := by unfold shI; split <;> omega
theorem shI_bits (x : Int) : Builtin.Int.intBits (shI x) ≤ 64 := by
  rw [bits_abs, shI_abs]
  exact bits_le (Nat.lt_of_le_of_lt (szN_lt x) (by decide))
/-- the octets of four seeds, as they are laid -/
theorem laid4 {l : List Int} (hl : l.length = 4) : Laid4 (octsOf l) (fun i => numN (l.getD i 0)) (fun i => tN (l.getD i 0)) (fun i => (octsOf (l.take i)).length) := by
  have split : ∀ i, i < 4 → octsOf l = octsOf (l.take i) ++ (octsX (l.getD i 0) ++ octsOf (l.drop (i + 1))) := fun i hi => by
    have hd : l.drop i = l.getD i 0 :: l.drop (i + 1) := by
      rw [List.getD_eq_getElem?_getD, List.getElem?_eq_getElem (by omega)]
      exact List.drop_eq_getElem_cons (by omega)
    conv => lhs; rw [← List.take_append_drop i l, hd]
    unfold octsOf
    rw [List.flatMap_append, List.flatMap_cons]
  refine ⟨rfl, fun i hi => ?_, by rw [List.take_of_length_le (by omega)], by have := octsOf_length l; omega, fun i hi j hj => ?_⟩
  · have ht : l.take (i + 1) = l.take i ++ [l.getD i 0] := by
      rw [List.take_succ, List.getD_eq_getElem?_getD, List.getElem?_eq_getElem (by omega)]; rfl
    show (octsOf (l.take (i + 1))).length = _
    rw [ht]
    unfold octsOf
    rw [List.flatMap_append, List.length_append, List.flatMap_cons, List.flatMap_nil, List.append_nil, octsX_length]
    omega
  · rw [split i hi, List.getElem?_append_right (Nat.le_add_right _ _), Nat.add_sub_cancel_left, List.getElem?_append_left (by rw [octsX_length]; omega)]
    exact octs_get _ _ _ hj
end Mine
end C28

noncomputable section C29
open PySem PySem.Calls PyProof.Rows
set_option Elab.async false
set_option linter.unusedVariables false
set_option maxRecDepth 100000
namespace Mine
noncomputable def pairD (x : Int) : D := .tuple [.int ((wN x : Nat) : Int), .int (shI x)]
noncomputable def sgL (sd : List Int) (i : Nat) : Sg := [("pairs", .own true ((sd.take i).map pairD)), ("octets", .val (.list (dI (octsOf (sd.take i))))), ("seeds", .val (.list (dI sd)))]
theorem size_eq (x : Int) : (((if x < 0 then -x else x).fdiv 16).fmod (2 ^ (60 : Int).toNat)) + 1 = ((szN x : Nat) : Int) := by
  have : (if x < 0 then -x else x) = ((x.natAbs : Nat) : Int) := by split <;> omega
  rw [this, Int.fdiv_eq_ediv_of_nonneg _ (by decide), Int.fmod_eq_emod_of_nonneg _ (by decide)]
  unfold szN
  show ((x.natAbs : Int) / 16) % (2 ^ 60) + 1 = _
  omega
theorem take_get (l : List Int) (i : Nat) (h : i < l.length) : l.take (i + 1) = l.take i ++ [l.getD i 0] := by
  rw [List.take_add_one, List.getD_eq_getElem?_getD, List.getElem?_eq_getElem h]; rfl
section
variable {G : Gd} {k : Nat} {mean : ExcName → Option Value} {mg mb : Str → Option Value} {F : Fm} {σ : Sg}

theorem law_seed (T : Top pw lo mean mg mb G.hb) {sd : List Int} (hsd : sd.length = 4) {i : Nat} (hi : i < 4) :
    ∃ tg it bd el pz, (rcAt 24).body[3]? = some (Stmt.For tg it bd el pz) ∧ ∃ σ', Ex G (k + 1) (rcAt 24).scope F (("x", .val (.int (sd.getD i 0))) :: sgL sd i) bd (.next σ') ∧ Sub (sgL sd (i + 1)) σ' := by
  refine ⟨_, _, _, _, _, rfl, ?_⟩
  have hx : ∀ a : Int, 2 ^ (60 : Int).toNat ≠ a → True := fun _ _ => trivial
  obtain ⟨t1, t2, t3⟩ := tN_ok (sd.getD i 0)
  have hlen := octsOf_length (sd.take i)
  have htl : (sd.take i).length = i := by rw [List.length_take]; omega
  have hol := octsX_length (sd.getD i 0)
  refine ⟨_, Ex.cons (Ex1.assign (d := .int ((szN (sd.getD i 0) : Nat) : Int)) ((Ev.bin (Ev.bin (Ev.bin (Ev.callB (EvV.builtin T.g (b_abs T).1 T.b (b_abs T).2 rfl rfl) (.cons (Ev.name (d := .int (sd.getD i 0)) rfl rfl) (fun _ => rfl) .nil) Cal.abs (fun _ => rfl) (fun _ => ⟨_, _, rfl⟩) (fun _ => rfl)) Ev.int (Op2.divI (b := 16) (by decide) (PyProof.noPylong_small (by decide)))) (Ev.bin Ev.int Ev.int (Op2.powI (a := 2) (n := 60) (by decide) (by decide) (by decide))) (Op2.modI (by decide))) Ev.int Op2.addI).cast (by rw [← size_eq])) (.inl rfl) (fun _ => rfl))
    (Ex.cons (Ex1.append rfl (d := pairD (sd.getD i 0)) (Ev.tuple (.cons ((Ev.bin (Ev.name (d := .int (sd.getD i 0)) rfl rfl) Ev.int (Op2.modI (b := 16) (by decide))).cast (by rw [wN_eq])) (fun _ => rfl) (.cons ?_ (fun _ => rfl) .nil)) (fun _ => rfl) (PySem.W.kdl_size (by simp))) (PySem.W.kdl_size (by rw [List.length_map, htl]; omega)) rfl (fun _ => rfl) rfl)
    (Ex.one (Ex1.assign (d := .list (dI (octsOf (sd.take i) ++ octsX (sd.getD i 0)))) ((Ev.bin (Ev.name (d := .list (dI (octsOf (sd.take i)))) rfl rfl) (Ev.fn (c_octets T (numN (sd.getD i 0)) (tN (sd.getD i 0)) t2 t1 (by omega)) T.g (.cons ?_ (fun _ => rfl) .nil) rfl rfl (fun _ => rfl) (fun _ => ⟨_, _, rfl⟩)) (Op2.addL (PySem.W.kdl_size ?_))).cast ?_) (.inl rfl) (fun _ => rfl)))), .cons ?_ (.cons ?_ (.cons rfl .nil))⟩
  · by_cases h : 0 ≤ sd.getD i 0
    · refine Ev.ite_t ((EvT.cmp (Ev.name (d := .int (sd.getD i 0)) rfl rfl).w Ev.int.w OpC.geI rfl).cast (decide_eq_true h)) ((Ev.name (d := .int ((szN (sd.getD i 0) : Nat) : Int)) rfl rfl).cast ?_)
      unfold shI; rw [if_pos h]
    · refine Ev.ite_f ((EvT.cmp (Ev.name (d := .int (sd.getD i 0)) rfl rfl).w Ev.int.w OpC.geI rfl).cast (decide_eq_false h)) ((Ev.neg (Ev.name (d := .int ((szN (sd.getD i 0) : Nat) : Int)) rfl rfl)).cast ?_)
      unfold shI; rw [if_neg h]
  · by_cases h : sd.getD i 0 < 0
    · refine (Ev.bin (Ev.bin (Ev.bin Ev.int (Ev.name (d := .int ((szN (sd.getD i 0) : Nat) : Int)) rfl rfl) (Op2.mulI (a := 32) (IntMulOk.of_left (by decide)))) (Ev.ite_t ((EvT.cmp (Ev.name (d := .int (sd.getD i 0)) rfl rfl).w Ev.int.w OpC.ltI rfl).cast (decide_eq_true h)) Ev.int) Op2.addI) ((Ev.bin (Ev.name (d := .int (sd.getD i 0)) rfl rfl) Ev.int (Op2.modI (b := 16) (by decide))).cast (by rw [wN_eq])) Op2.addI).cast ?_
      unfold numN; rw [if_pos h]; show D.int _ = D.int _; congr 1
    · refine (Ev.bin (Ev.bin (Ev.bin Ev.int (Ev.name (d := .int ((szN (sd.getD i 0) : Nat) : Int)) rfl rfl) (Op2.mulI (a := 32) (IntMulOk.of_left (by decide)))) (Ev.ite_f ((EvT.cmp (Ev.name (d := .int (sd.getD i 0)) rfl rfl).w Ev.int.w OpC.ltI rfl).cast (decide_eq_false h)) Ev.int) Op2.addI) ((Ev.bin (Ev.name (d := .int (sd.getD i 0)) rfl rfl) Ev.int (Op2.modI (b := 16) (by decide))).cast (by rw [wN_eq])) Op2.addI).cast ?_
      unfold numN; rw [if_neg h]; show D.int _ = D.int _; congr 1
  · rw [dI_length, dI_length]; unfold octsX at hol; omega
  · unfold dI octsX; rw [List.map_append]
  · rw [take_get _ _ (by omega), List.map_append]; rfl
  · rw [take_get _ _ (by omega)]
    unfold octsOf
    rw [List.flatMap_append, List.flatMap_cons, List.flatMap_nil, List.append_nil]; rfl
noncomputable def sgX (p q : Nat) : List Int := (List.range 4).map fun k => if ((Builtin.bitXor ((p : Nat) : Int) ((q : Nat) : Int)).fdiv (2 ^ k)).fmod 2 == 0 then 1 else -1
theorem sgX_ok (p q : Nat) : ∀ s ∈ sgX p q, s = 1 ∨ s = -1 := fun s hs => by
  obtain ⟨k, _, rfl⟩ := List.mem_map.mp hs
  by_cases h : (((Builtin.bitXor ((p : Nat) : Int) ((q : Nat) : Int)).fdiv (2 ^ k)).fmod 2 == 0) = true
  · rw [if_pos h]; exact .inl rfl
  · rw [if_neg h]; exact .inr rfl
theorem sgX_small : ∀ p < 16, ∀ q < 16, ∀ b ∈ prodOf (sgX p q), Builtin.Int.intBits b ≤ 64 := by decide +kernel
noncomputable def dueStep (due : List Int) (x y : Int) : List Int := List.zipWith (fun a b => a + shI x * shI y * b) due (prodOf (sgX (wN x) (wN y)))
noncomputable def dueIn (x : Int) (sd due : List Int) : Nat → List Int
  | 0 => due
  | j + 1 => dueStep (dueIn x sd due j) x (sd.getD j 0)
noncomputable def dueOut (sd : List Int) : Nat → List Int
  | 0 => [0, 0, 0, 0, 0]
  | i + 1 => dueIn (sd.getD i 0) sd (dueOut sd i) 4
theorem prodX_length (p q : Nat) : (prodOf (sgX p q)).length = 5 := by
  unfold prodOf; rw [foldl_prod_length]; simp [sgX]
theorem dueIn_length (x : Int) (sd due : List Int) (h : due.length = 5) : ∀ j, (dueIn x sd due j).length = 5
  | 0 => h
  | j + 1 => by rw [dueIn, dueStep, List.length_zipWith, dueIn_length x sd due h j, prodX_length]; rfl
theorem dueOut_length (sd : List Int) : ∀ i, (dueOut sd i).length = 5
  | 0 => rfl
  | i + 1 => by rw [dueOut]; exact dueIn_length _ _ _ (dueOut_length sd i) 4
noncomputable def sgD (sd due : List Int) : Sg := [("due", .val (.list (dI due))), ("pairs", .val (.list (sd.map pairD))), ("octets", .val (.list (dI (octsOf sd))))]
theorem out_pair {a b : Str} {sd : List Int} {i : Nat} (h : i < sd.length) : Out2 a b (sd.map pairD) i = ([(b, .val (.int (shI (sd.getD i 0)))), (a, .val (.int ((wN (sd.getD i 0) : Nat) : Int)))] : Sg) := by
  unfold Out2
  rw [List.getD_eq_getElem?_getD, List.getElem?_map, List.getD_eq_getElem?_getD, List.getElem?_eq_getElem h]; rfl
theorem pairs_are (sd : List Int) : ∀ d ∈ sd.map pairD, ∃ a b, d = .tuple [a, b] := fun d hd => by
  obtain ⟨x, _, rfl⟩ := List.mem_map.mp hd; exact ⟨_, _, rfl⟩

theorem law_due (T : Top pw lo mean mg mb G.hb) {sd due : List Int} {x y : Int} (hdl : due.length = 5) :
    ∃ tg it bd el pz tg2 it2 bd2 el2 pz2, (rcAt 24).body[5]? = some (Stmt.For tg it bd el pz) ∧ bd[0]? = some (Stmt.For tg2 it2 bd2 el2 pz2) ∧
      ∃ σ', Ex G (k + 1) (rcAt 24).scope F (([("other", .val (.int (shI y))), ("q", .val (.int ((wN y : Nat) : Int))), ("one", .val (.int (shI x))), ("p", .val (.int ((wN x : Nat) : Int)))] : Sg) ++ sgD sd due) bd2 (.next σ') ∧
        Sub (([("one", .val (.int (shI x))), ("p", .val (.int ((wN x : Nat) : Int)))] : Sg) ++ sgD sd (dueStep due x y)) σ' := by
  refine ⟨_, _, _, _, _, _, _, _, _, _, rfl, rfl, ?_⟩
  have hpl := prodX_length (wN x) (wN y)
  refine ⟨_, Ex.cons (Ex1.comp (σ' := ([("p", .val (.int ((wN x : Nat) : Int))), ("q", .val (.int ((wN y : Nat) : Int)))] : Sg)) (Comp.range (n := 4) (fr := ["p", "q"]) (cf := []) (fun k => some (.int (if ((Builtin.bitXor ((wN x : Nat) : Int) ((wN y : Nat) : Int)).fdiv (2 ^ k)).fmod 2 == 0 then 1 else -1)))
      (EvV.builtin T.g (b_range T).1 T.b (b_range T).2 rfl rfl) (.cons Ev.int (fun _ => rfl) .nil) ⟨rfl, by decide +kernel, rfl, by decide +kernel, by decide +kernel, .inl ⟨rfl, by decide +kernel⟩⟩ (fun x sl h => ?_) (by intro x hx; simp at hx; rcases hx with rfl | rfl <;> exact ⟨_, rfl⟩) (.inl rfl) (fun i => .cons rfl (.cons rfl .nil)) (PySem.W.kdl_size (by decide))
      (fun i F' hF' hi => ⟨true, EvTs.nil, (fun h => nomatch h), fun _ => ⟨_, rfl, ?_⟩⟩) (fun _ => rfl) (fun _ => ⟨_, _, rfl⟩) (fun _ => rfl) (fun _ _ => rfl)) (.inl rfl) (fun env h => swaps_true h rfl rfl rfl (by decide +kernel)))
    (Ex.one (Ex1.comp (σ' := ([("one", .val (.int (shI x))), ("other", .val (.int (shI y)))] : Sg)) (Comp.zipI (xs := due) (ys := prodOf (sgX (wN x) (wN y))) (fr := ["one", "other"]) (fun a b => a + shI x * shI y * b)
      (EvV.builtin T.g (b_zip T).1 T.b (b_zip T).2 rfl rfl) (.cons (Ev.name rfl rfl) (fun _ => rfl) (.cons (Ev.fn (c_product T (sgX (wN x) (wN y)) (sgX_ok _ _) (by simp [sgX])) T.g (.cons ((Ev.name (d := .list _) rfl rfl).cast ?_) (fun _ => rfl) .nil) rfl rfl (fun _ => rfl) (fun _ => ⟨_, _, rfl⟩)) (fun _ => rfl) .nil))
      ⟨rfl, by decide +kernel, rfl, by decide +kernel, by decide +kernel, .inl ⟨rfl, by decide +kernel⟩⟩ (fun x sl h => ?_) (by intro x hx; simp at hx; rcases hx with rfl | rfl <;> exact ⟨_, rfl⟩) rfl rfl (fun i => .cons rfl (.cons rfl .nil)) (PySem.W.kdl_size (by omega)) (fun a b F' hF' ha hb => ?_) (fun _ => rfl) (fun _ => ⟨_, _, rfl⟩) (fun _ => rfl) (fun _ _ => rfl)) (.inl rfl) (fun env h => swaps_true h rfl rfl rfl (by decide +kernel)))), ?_⟩
  · rcases lookup_cons' h with ⟨rfl, rfl⟩ | ⟨-, h⟩
    · exact ⟨.head _, rfl, rfl⟩
    · rcases lookup_cons' h with ⟨rfl, rfl⟩ | ⟨-, h⟩
      · exact ⟨.tail _ (.head _), rfl, rfl⟩
      · simp at h
  · by_cases q : (((Builtin.bitXor ((wN x : Nat) : Int) ((wN y : Nat) : Int)).fdiv (2 ^ i)).fmod 2 == 0) = true
    · exact Ev.ite_t ((EvT.cmp (Ev.bin (Ev.bin (Ev.bin (Ev.name (d := .int ((wN x : Nat) : Int)) rfl rfl) (Ev.name (d := .int ((wN y : Nat) : Int)) rfl rfl) Op2.xorI) (Ev.bin Ev.int (Ev.name (d := .int ((i : Nat) : Int)) rfl rfl) (Op2.powI (a := 2) (n := (i : Int)) (by omega) (by omega) (by decide))) (Op2.divI (Int.ne_of_gt (Int.pow_pos (by decide))) (PyProof.noPylong_small (by rw [Int.toNat_natCast]; exact pow4 i hi)))) Ev.int (Op2.modI (b := 2) (by decide))).w Ev.int.w OpC.eqI rfl).cast (by rw [Int.toNat_natCast]; exact q)) (Ev.int.cast (by rw [if_pos q]))
    · exact Ev.ite_f ((EvT.cmp (Ev.bin (Ev.bin (Ev.bin (Ev.name (d := .int ((wN x : Nat) : Int)) rfl rfl) (Ev.name (d := .int ((wN y : Nat) : Int)) rfl rfl) Op2.xorI) (Ev.bin Ev.int (Ev.name (d := .int ((i : Nat) : Int)) rfl rfl) (Op2.powI (a := 2) (n := (i : Int)) (by omega) (by omega) (by decide))) (Op2.divI (Int.ne_of_gt (Int.pow_pos (by decide))) (PyProof.noPylong_small (by rw [Int.toNat_natCast]; exact pow4 i hi)))) Ev.int (Op2.modI (b := 2) (by decide))).w Ev.int.w OpC.eqI rfl).cast (by rw [Int.toNat_natCast]; simpa using q)) ((Ev.neg Ev.int).cast (by rw [if_neg q]))
  · show D.list ((List.range 4).filterMap _) = D.list _
    congr 1
  · rcases lookup_cons' h with ⟨rfl, rfl⟩ | ⟨-, h⟩
    · exact ⟨.head _, rfl, rfl⟩
    · rcases lookup_cons' h with ⟨rfl, rfl⟩ | ⟨-, h⟩
      · exact ⟨.tail _ (.head _), rfl, rfl⟩
      · simp at h
  · exact Ev.bin (Ev.name rfl rfl) (Ev.bin (Ev.bin (Ev.name rfl rfl) (Ev.name rfl rfl) (Op2.mulI (IntMulOk.of_left (shI_bits x)))) (Ev.name rfl rfl) (Op2.mulI (IntMulOk.of_right (sgX_small _ (wN_lt x) _ (wN_lt y) b hb)))) Op2.addI
  · exact .cons rfl (.cons rfl (.cons rfl (.cons rfl (.cons rfl .nil))))
end
end Mine
end C29

noncomputable section C30
open PySem PySem.Calls PyProof.Rows
set_option Elab.async false
set_option linter.unusedVariables false
set_option maxRecDepth 100000
namespace Mine
theorem and_nat (a b : Nat) : Builtin.bitAnd ((a : Nat) : Int) ((b : Nat) : Int) = ((a &&& b : Nat) : Int) := by
  have h : ∀ n : Nat, decide (0 ≤ ((n : Nat) : Int)) = true := fun n => decide_eq_true (by omega)
  unfold Builtin.bitAnd
  rw [h a, h b]
  simp only [Int.toNat_natCast]
theorem and15 (x : Int) : Builtin.bitAnd ((numN x : Nat) : Int) 15 = ((wN x : Nat) : Int) := by
  rw [show (15 : Int) = ((15 : Nat) : Int) from rfl, and_nat, show (15 : Nat) = 2 ^ 4 - 1 from rfl, Nat.and_two_pow_sub_one_eq_mod]
  have := wN_lt x
  unfold numN
  split <;> omega
theorem and_16 (n : Nat) : n &&& 2 ^ 4 = if n.testBit 4 then 2 ^ 4 else 0 := by
  apply Nat.eq_of_testBit_eq
  intro i
  rw [Nat.testBit_and, Nat.testBit_two_pow]
  by_cases h : 4 = i
  · subst h
    by_cases q : n.testBit 4 = true
    · rw [if_pos q, q, Nat.testBit_two_pow]; rfl
    · rw [if_neg q, Nat.zero_testBit]; simpa using q
  · rw [decide_eq_false h, Bool.and_false]
    split
    · rw [Nat.testBit_two_pow, decide_eq_false h]
    · rw [Nat.zero_testBit]
theorem and16 (x : Int) : (Builtin.bitAnd ((numN x : Nat) : Int) 16 != 0) = decide (x < 0) := by
  rw [show (16 : Int) = ((16 : Nat) : Int) from rfl, and_nat, show (16 : Nat) = 2 ^ 4 from rfl, and_16, Nat.testBit_eq_decide_div_mod_eq]
  have := wN_lt x
  by_cases h : x < 0
  · have e : numN x / 2 ^ 4 % 2 = 1 := by unfold numN; rw [if_pos h]; omega
    rw [decide_eq_true e, decide_eq_true h]; decide
  · have e : ¬ numN x / 2 ^ 4 % 2 = 1 := by unfold numN; rw [if_neg h]; omega
    rw [decide_eq_false e, decide_eq_false h]; decide
theorem shr5 (x : Int) : (((numN x : Nat) : Int)).fdiv (2 ^ (5 : Int).toNat) = ((szN x : Nat) : Int) := by
  rw [Int.fdiv_eq_ediv_of_nonneg _ (by decide)]
  have := wN_lt x
  show ((numN x : Nat) : Int) / 32 = _
  unfold numN
  split <;> omega
theorem fm_map {α : Type} (f g : α → D) (outs : D → Option D) : ∀ l : List α, (∀ x ∈ l, outs (f x) = some (g x)) → (l.map f).filterMap outs = l.map g
  | [], _ => rfl
  | x :: l, h => by
    rw [List.map_cons, List.filterMap_cons, h x (.head _), List.map_cons]
    rw [fm_map f g outs l fun y hy => h y (.tail _ hy)]
theorem readOf_eq {sd : List Int} (h : sd.length = 4) : readOf (fun i => numN (sd.getD i 0)) = sd.map fun x => ((numN x : Nat) : Int) := by
  unfold readOf
  apply List.ext_getElem
  · simp [h]
  · intro i h1 h2
    have hi : i < sd.length := by simpa using h2
    simp [List.getD_eq_getElem?_getD, List.getElem?_eq_getElem hi]
noncomputable def pj (w k : Nat) : Option Int := if (((w : Nat) : Int).fdiv (2 ^ k)).fmod 2 == 1 then some ((k : Nat) : Int) else none
theorem pj_all : ∀ w < 16, (List.range 4).filterMap (pj w) = plI w := by decide +kernel
theorem upto_sd (sd : List Int) (g : Int → D) : upto (fun i => some (g (sd.getD i 0))) sd.length = sd.map g := by
  rw [upto_some]
  apply List.ext_getElem
  · simp
  · intro i h1 h2
    have hi : i < sd.length := by simpa using h2
    simp [List.getD_eq_getElem?_getD, List.getElem?_eq_getElem hi]
theorem lay_ints : ∀ l : List Int, PyData.canLayAll0 (toPs (dI l)) = true ∧ PyData.depthAll (toPs (dI l)) = 0
  | [] => ⟨rfl, rfl⟩
  | x :: l => by
    obtain ⟨h1, h2⟩ := lay_ints l
    refine ⟨?_, ?_⟩
    · show (true && PyData.canLayAll0 (toPs (dI l))) = true
      rw [h1]; rfl
    · show max 0 (PyData.depthAll (toPs (dI l))) = 0
      rw [h2]; rfl
theorem lay_lists : ∀ l : List (List Int), PyData.canLayAll0 (toPs (l.map fun xs => D.list (dI xs))) = true ∧ PyData.depthAll (toPs (l.map fun xs => D.list (dI xs))) ≤ 1
  | [] => ⟨rfl, Nat.zero_le _⟩
  | x :: l => by
    obtain ⟨h1, h2⟩ := lay_lists l
    obtain ⟨h3, h4⟩ := lay_ints x
    refine ⟨?_, ?_⟩
    · show (PyData.canLayAll0 (toPs (dI x)) && PyData.canLayAll0 (toPs (l.map fun xs => D.list (dI xs)))) = true
      rw [h1, h3]; rfl
    · show max (PyData.depthAll (toPs (dI x)) + 1) (PyData.depthAll (toPs (l.map fun xs => D.list (dI xs)))) ≤ 1
      rw [h4]; omega

section
variable {G : Gd} {k : Nat} {mean : ExcName → Option Value} {mg mb : Str → Option Value} {F : Fm} {σ : Sg}
noncomputable def outWd : D → Option D
  | .int y => some (.list (dI (plI (Builtin.bitAnd y 15).toNat)))
  | _ => none
noncomputable def outSd : D → Option D
  | .int y => some (.int (if (Builtin.bitAnd y 16 != 0) = true then -(y.fdiv (2 ^ (5 : Int).toNat)) else y.fdiv (2 ^ (5 : Int).toNat)))
  | _ => none
theorem outSd_eq (x : Int) : outSd (.int ((numN x : Nat) : Int)) = some (.int (shI x)) := by
  unfold outSd shI
  dsimp only
  rw [and16, shr5]
  by_cases h : x < 0
  · rw [decide_eq_true h, if_pos rfl, if_neg (by omega)]
  · rw [decide_eq_false h, if_neg (by decide), if_pos (by omega)]
theorem outWd_eq (x : Int) : outWd (.int ((numN x : Nat) : Int)) = some (.list (dI (plI (wN x)))) := by
  unfold outWd
  dsimp only
  rw [and15, Int.toNat_natCast]

noncomputable def sgE2 (sd due : List Int) : Sg := [("read", .val (.list (dI (readOf fun i => numN (sd.getD i 0))))), ("due", .val (.list (dI due))), ("pairs", .val (.list (sd.map pairD))), ("octets", .val (.list (dI (octsOf sd))))]

theorem law_end (T : Top pw lo mean mg mb G.hb) (FT : FlagTab G mg "COMPILER_FLAG_NAMES" nmS 4) (hnb : NoneBooked G.hb) (h0 : 0 < G.tk) {sd due : List Int} (hsd : sd.length = 4) {far : Nat → Nat → Nat} (hf : ∀ i j, far i j ≤ 4)
    (htot : ∀ c, c < 16 → Builtin.Int.intBits (totI (sd.map shI) (signsC (sd.map wN) c 4) 4) ≤ 64)
    (hlev : ∀ i j, i < 4 → j < 4 → FnAt G mg (k + 2) "_levenshtein_distance" [.str ((((sd.map wN).map plI).map wrL).getD i default), .str ((((sd.map wN).map plI).map wrL).getD j default), .int 4] (.int (far i j : Nat)))
    (e1 : sumsC (sd.map shI) (sd.map wN) 16 = due) (e2 : outerD (sd.map shI) far 4 = due) :
    Ex G (k + 3) (rcAt 24).scope F (sgE2 sd due) ((rcAt 24).body.drop 9) (.ret (.bool true)) := by
  have hrd : dI (readOf fun i => numN (sd.getD i 0)) = sd.map fun x => D.int ((numN x : Nat) : Int) := by rw [readOf_eq hsd]; unfold dI; rw [List.map_map]; rfl
  have hrl : (dI (readOf fun i => numN (sd.getD i 0))).length = 4 := by rw [hrd, List.length_map, hsd]
  have hwords : (dI (readOf fun i => numN (sd.getD i 0))).filterMap outWd = sd.map fun x => D.list (dI (plI (wN x))) := by rw [hrd]; exact fm_map _ _ _ _ fun x _ => outWd_eq x
  have hweights : (dI (readOf fun i => numN (sd.getD i 0))).filterMap outSd = dI (sd.map shI) := by
    rw [hrd, fm_map _ (fun x => D.int (shI x)) _ _ fun x _ => outSd_eq x]; unfold dI; rw [List.map_map]; rfl
  refine Ex.cons (Ex1.comp (σ' := ([] : Sg)) (Comp.list1 (fr := []) (cf := []) outWd (Ev.name (d := .list (dI (readOf fun i => numN (sd.getD i 0)))) rfl rfl) ⟨rfl, by decide +kernel, rfl, by decide +kernel, by decide +kernel, .inl ⟨rfl, by decide +kernel⟩⟩ (fun x sl h => by simp at h) (fun x hx => nomatch hx) (.inl rfl) (fun i => .nil) (PySem.W.kdl_size (by rw [hrl]; decide)) (fun d F' hF' hd => ?_) (fun _ _ => rfl)) (.inl rfl) (fun env h => swaps_true h rfl rfl rfl (by decide +kernel))) ?_
  · rw [hrd] at hd
    obtain ⟨x, _, rfl⟩ := List.mem_map.mp hd
    refine ⟨true, EvTs.nil, (fun h => nomatch h), fun _ => ⟨_, outWd_eq x, ?_⟩⟩
    exact Ev.fn (c_places T FT hnb h0 (wN x) (wN_lt x)) T.g (.cons ((Ev.fn (c_and T ((numN x : Nat) : Int) 15) T.g (.cons (Ev.name rfl rfl) (fun _ => rfl) (.cons Ev.int (fun _ => rfl) .nil)) rfl rfl (fun _ => rfl) (fun _ => ⟨_, _, rfl⟩)).cast (by rw [and15])) (fun _ => rfl) .nil) rfl rfl (fun _ => rfl) (fun _ => ⟨_, _, rfl⟩)
  rw [hwords]
  have hl := lay_lists (sd.map fun x => plI (wN x))
  rw [List.map_map] at hl
  refine Ex.cons (Ex1.if_f (EvT.cmp (Ev.name (d := .list (sd.map fun x => D.list (dI (plI (wN x))))) rfl rfl).w (Ev.comp (σ' := ([] : Sg)) (n := (sd.map pairD).length) (bs := Out2 "word" "share" (sd.map pairD)) (outs := fun i => some (.list (dI (plI (wN (sd.getD i 0)))))) (fr := []) (cf := ["word"])
    ⟨EvI.list2 (Ev.name rfl rfl) (pairs_are sd), ⟨rfl, by decide +kernel, rfl, by decide +kernel, by decide +kernel, .inr ⟨rfl, ?_⟩⟩, (fun x sl h => by simp at h), (fun x hx => nomatch hx), (fun F' hF' => ⟨.inr ⟨rfl, by rw [hF']; exact .head _⟩, .inl rfl⟩), (fun i => .nil), (fun i hi F' hF' => ?_), (PySem.W.kdl_size (by rw [List.length_map, hsd]; decide)), (fun _ _ => rfl), ?_⟩).w (OpC.neD rfl hl.1 (Nat.le_trans (Nat.succ_le_succ hl.2) (by decide))) rfl) Ex.nil) ?_
  · intro x hx n; rw [List.mem_singleton.mp hx]; rfl
  · rw [List.length_map] at hi
    rw [out_pair hi]
    refine ⟨true, EvTs.nil, (fun h => nomatch h), fun _ => ⟨_, rfl, ?_⟩⟩
    refine (Ev.comp (σ' := ([("word", .val (.int ((wN (sd.getD i 0) : Nat) : Int)))] : Sg)) (Comp.range (n := 4) (fr := ["word"]) (cf := []) (fun k => (pj (wN (sd.getD i 0)) k).map D.int)
      (EvV.builtin T.g (b_range T).1 T.b (b_range T).2 rfl rfl) (.cons Ev.int (fun _ => rfl) .nil) ⟨rfl, by decide +kernel, rfl, by decide +kernel, by decide +kernel, .inl ⟨rfl, by decide +kernel⟩⟩ (fun x sl h => ?_) (by intro x hx; rw [List.mem_singleton.mp hx]; exact ⟨_, rfl⟩) (.inl rfl) (fun i => .cons rfl .nil) (PySem.W.kdl_size (by decide))
      (fun j F'' hF'' hj => ⟨_, EvTs.one ((EvT.cmp (Ev.bin (Ev.bin (Ev.name (d := .int ((wN (sd.getD i 0) : Nat) : Int)) rfl rfl) (Ev.bin Ev.int (Ev.name (d := .int ((j : Nat) : Int)) rfl rfl) (Op2.powI (a := 2) (n := (j : Int)) (by omega) (by omega) (by decide))) (Op2.divI (Int.ne_of_gt (Int.pow_pos (by decide))) (PyProof.noPylong_small (by rw [Int.toNat_natCast]; exact pow4 j hj)))) Ev.int (Op2.modI (b := 2) (by decide))).w Ev.int.w OpC.eqI rfl).cast (by rw [Int.toNat_natCast])), fun h => ?_, fun h => ⟨.int ((j : Nat) : Int), ?_, Ev.name rfl rfl⟩⟩)
      (fun _ => rfl) (fun _ => ⟨_, _, rfl⟩) (fun _ => rfl) (fun _ _ => rfl))).cast ?_
    · rcases lookup_cons' h with ⟨rfl, rfl⟩ | ⟨-, h⟩
      · exact ⟨.head _, rfl, rfl⟩
      · simp at h
    · unfold pj; rw [h]; rfl
    · unfold pj; rw [h]; rfl
    · rw [← List.map_filterMap, pj_all _ (wN_lt _)]; rfl
  · rw [List.length_map]; exact upto_sd sd fun x => .list (dI (plI (wN x)))
  refine Ex.cons (Ex1.comp (σ' := ([] : Sg)) (Comp.list1 (fr := []) (cf := []) outSd (Ev.name (d := .list (dI (readOf fun i => numN (sd.getD i 0)))) rfl rfl) ⟨rfl, by decide +kernel, rfl, by decide +kernel, by decide +kernel, .inl ⟨rfl, by decide +kernel⟩⟩ (fun x sl h => by simp at h) (fun x hx => nomatch hx) (.inl rfl) (fun i => .nil) (PySem.W.kdl_size (by rw [hrl]; decide)) (fun d F' hF' hd => ?_) (fun _ _ => rfl)) (.inl rfl) (fun env h => swaps_true h rfl rfl rfl (by decide +kernel))) ?_
  · rw [hrd] at hd
    obtain ⟨x, _, rfl⟩ := List.mem_map.mp hd
    refine ⟨true, EvTs.nil, (fun h => nomatch h), fun _ => ⟨_, outSd_eq x, ?_⟩⟩
    by_cases h : x < 0
    · refine Ev.ite_t ((EvT.value (Ev.fn (c_and T ((numN x : Nat) : Int) 16) T.g (.cons (Ev.name rfl rfl) (fun _ => rfl) (.cons Ev.int (fun _ => rfl) .nil)) rfl rfl (fun _ => rfl) (fun _ => ⟨_, _, rfl⟩)).w OpT.int (fun _ => rfl)).cast (by rw [and16, decide_eq_true h]))
        ((Ev.fn (c_neg T _) T.g (.cons (Ev.fn (c_rshift T ((numN x : Nat) : Int) 5 (by decide)) T.g (.cons (Ev.name rfl rfl) (fun _ => rfl) (.cons Ev.int (fun _ => rfl) .nil)) rfl rfl (fun _ => rfl) (fun _ => ⟨_, _, rfl⟩)) (fun _ => rfl) .nil) rfl rfl (fun _ => rfl) (fun _ => ⟨_, _, rfl⟩)).cast ?_)
      rw [shr5]; unfold shI; rw [if_neg (by omega)]
    · refine Ev.ite_f ((EvT.value (Ev.fn (c_and T ((numN x : Nat) : Int) 16) T.g (.cons (Ev.name rfl rfl) (fun _ => rfl) (.cons Ev.int (fun _ => rfl) .nil)) rfl rfl (fun _ => rfl) (fun _ => ⟨_, _, rfl⟩)).w OpT.int (fun _ => rfl)).cast (by rw [and16, decide_eq_false h]))
        ((Ev.fn (c_rshift T ((numN x : Nat) : Int) 5 (by decide)) T.g (.cons (Ev.name rfl rfl) (fun _ => rfl) (.cons Ev.int (fun _ => rfl) .nil)) rfl rfl (fun _ => rfl) (fun _ => ⟨_, _, rfl⟩)).cast ?_)
      rw [shr5]; unfold shI; rw [if_pos (by omega)]
  rw [hweights]
  have hdl := lay_ints due
  have hdep : (toP (.list (dI due))).depth ≤ 150 := by show PyData.depthAll (toPs (dI due)) + 1 ≤ 150; rw [hdl.2]; decide
  have hcan : (toP (.list (dI due))).canLay0 = true := hdl.1
  have hb64 : ∀ w ∈ sd.map shI, Builtin.Int.intBits w ≤ 64 := fun w hw => by obtain ⟨x, _, rfl⟩ := List.mem_map.mp hw; exact shI_bits x
  have hch : FnAt G mg (k + 3) "_law_by_choices" [.list (dI (sd.map shI)), .list (sd.map fun x => D.list (dI (plI (wN x))))] (.list (dI due)) := by
    have := c_choices (k := k) T h0 (ws := sd.map shI) (ps := sd.map wN) (by rw [List.length_map, hsd]) (by rw [List.length_map, hsd]) hb64 htot
    rw [e1, List.map_map] at this
    exact this
  have hdi : FnAt G mg (k + 3) "_law_by_distances" [.list (dI (sd.map shI)), .list (sd.map fun x => D.list (dI (plI (wN x))))] (.list (dI due)) := by
    have := c_distances (k := k) T (ws := sd.map shI) (xss := (sd.map wN).map plI) (far := far) (by rw [List.length_map, hsd]) (by rw [List.length_map, List.length_map, hsd]) (fun xs hxs => by
      obtain ⟨w, _, rfl⟩ := List.mem_map.mp hxs
      unfold plI placesOf
      rw [List.length_map]
      exact Nat.le_trans (List.length_filter_le ..) (by simp)) hb64 hf hlev
    rw [e2, List.map_map, List.map_map] at this
    exact this
  clear htot hlev e1 e2 hb64 hl hrd hrl hwords hweights
  generalize (sd.map fun x => D.list (dI (plI (wN x)))) = WD at hch hdi ⊢
  generalize sd.map shI = WS at hch hdi ⊢
  have aw : ∀ σ p1 p2, σ.lookup ("weights" : Str) = some (.val (.list (dI WS))) → σ.lookup ("words" : Str) = some (.val (.list WD)) → EvA G (k + 3) (rcAt 24).scope F σ [.Name "weights" p1, .Name "words" p2] [.list (dI WS), .list WD] := fun σ p1 p2 h1 h2 => .cons (Ev.name h1 rfl) (fun _ => rfl) (.cons (Ev.name h2 rfl) (fun _ => rfl) .nil)
  refine Ex.one (Ex1.ret (Ev.and2_t (d := .bool true) (Ev.cmp (d1 := .list (dI due)) (d2 := .list (dI due)) (Ev.fn hch T.g (aw _ _ _ rfl rfl) rfl rfl (fun _ => rfl) (fun _ => ⟨_, _, rfl⟩)).w (Ev.name rfl rfl).w (OpC.eqD rfl hcan hdep) rfl) OpT.bool
    (Ev.cmp (d1 := .list (dI due)) (d2 := .list (dI due)) (Ev.fn hdi T.g (aw _ _ _ rfl rfl) rfl rfl (fun _ => rfl) (fun _ => ⟨_, _, rfl⟩)).w (Ev.name rfl rfl).w (OpC.eqD rfl hcan hdep) rfl)))
end
end Mine
end C30

noncomputable section C31
open PySem PySem.Calls PyProof.Rows
set_option Elab.async false
set_option linter.unusedVariables false
set_option maxRecDepth 100000
namespace Mine
section
variable {G : Gd} {k : Nat} {mean : ExcName → Option Value} {mg mb : Str → Option Value}
theorem c_law (T : Top pw lo mean mg mb G.hb) (FT : FlagTab G mg "COMPILER_FLAG_NAMES" nmS 4) (hnb : NoneBooked G.hb) (h0 : 0 < G.tk) {xs : List Int} (hxs : xs.length ≤ 63) {sd : List Int} (hsd : seedsOf xs = sd) {far : Nat → Nat → Nat} (hf : ∀ i j, far i j ≤ 4)
    (htot : ∀ c, c < 16 → Builtin.Int.intBits (totI (sd.map shI) (signsC (sd.map wN) c 4) 4) ≤ 64)
    (hlev : ∀ i j, i < 4 → j < 4 → FnAt G mg (k + 2) "_levenshtein_distance" [.str ((((sd.map wN).map plI).map wrL).getD i default), .str ((((sd.map wN).map plI).map wrL).getD j default), .int 4] (.int (far i j : Nat)))
    (e1 : sumsC (sd.map shI) (sd.map wN) 16 = dueOut sd 4) (e2 : outerD (sd.map shI) far 4 = dueOut sd 4) :
    FnAt G mg (k + 4) "law" [.list (dI xs)] (.bool true) :=
  FnAt.mk T (rc := rcAt 24) (names := ["script"]) (cf := ["feed", "other", "q", "one", "p"]) (rc_mem rfl 24 rfl rfl) (fun pm code doc => bind1 fun a => rfl) rfl (by intro x hx; simp at hx; rcases hx with rfl; rfl) rfl rfl (fun n => rfl) (by decide) (by decide) rfl
    fun F hF => by
      have hsl : sd.length = 4 := by rw [← hsd]; exact seeds_length xs
      have own : ∀ x : Str, (rcAt 24).scope.names.lookup x = some .cell → x ∈ (["feed", "other", "q", "one", "p"] : List Str) → Own (rcAt 24).scope F x := fun x h1 h2 => .inr ⟨h1, by rw [hF]; exact h2⟩
      refine Ex.cons (Ex1.assign (d := .list (dI sd)) ((Ev.bin (Ev.listTo (i := 4) (Ev.name (d := .list (dI xs)) rfl rfl) Ev.int (PySem.W.kdl_size (by rw [dI_length]; omega))) (Ev.listFrom (xs := dI [27, -50, 101, 20]) (i := xs.length) (Ev.list (.cons Ev.int (fun _ => rfl) (.cons (Ev.neg Ev.int) (fun _ => rfl) (.cons Ev.int (fun _ => rfl) (.cons Ev.int (fun _ => rfl) .nil)))) (fun _ => rfl) (PySem.W.kdl_size (by decide)))
        ((Ev.callB (EvV.builtin T.g (b_len T).1 T.b (b_len T).2 rfl rfl) (.cons (Ev.name (d := .list (dI xs)) rfl rfl) (fun _ => rfl) .nil) (Cal.lenL (PySem.W.kdl_size (by rw [dI_length]; omega))) (fun _ => rfl) (fun _ => ⟨_, _, rfl⟩) (fun _ => rfl)).cast (by rw [dI_length])) (PySem.W.kdl_size (by decide))) (Op2.addL (PySem.W.kdl_size ?_))).cast ?_) (.inl rfl) (fun _ => rfl)) ?_
      · rw [List.length_take, List.length_drop, dI_length, dI_length]; show min 4 xs.length + (4 - xs.length) ≤ _; omega
      · rw [← hsd]; unfold seedsOf dI; rw [List.map_append, List.map_take, List.map_drop]
      refine Ex.cons (Ex1.assignOwn (xs := []) (EvN.list .nil (fun _ => rfl) (by simp)) rfl (fun _ => rfl)) ?_
      refine Ex.cons (σ' := sgL sd 0) (Ex1.post (Ex1.assign (d := .list (dI [])) (Ev.list .nil (fun _ => rfl) (PySem.W.kdl_size (by decide))) (.inl rfl) (fun _ => rfl)) (.cons rfl (.cons rfl (.cons rfl .nil)))) ?_
      refine Ex.cons (Ex1.for (n := (dI sd).length) (m := (dI sd).length) (σs := fun i => sgL sd i) (bs := Out1 "x" (dI sd)) (EvI.list1 (Ev.name rfl rfl)) (.inl rfl) (fun _ _ => rfl) (Nat.le_refl _) (fun i hi => ?_) (.inl ⟨rfl, Ex.nil⟩)) ?_
      · rw [dI_length, hsl] at hi
        have e : Out1 "x" (dI sd) i = ([("x", .val (.int (sd.getD i 0)))] : Sg) := by unfold Out1; rw [dI_getD (by omega)]
        rw [e]
        obtain ⟨_, _, _, _, _, q, h⟩ := law_seed (G := G) (k := k + 2) (F := F) T hsl hi
        cases q
        exact h
      rw [dI_length]
      refine Ex.freeze (x := "pairs") rfl ?_
      refine Ex.cons (σ' := sgD sd (dueOut sd 0)) (Ex1.post (Ex1.assign (d := .list (dI [0, 0, 0, 0, 0])) (Ev.list (.cons Ev.int (fun _ => rfl) (.cons Ev.int (fun _ => rfl) (.cons Ev.int (fun _ => rfl) (.cons Ev.int (fun _ => rfl) (.cons Ev.int (fun _ => rfl) .nil))))) (fun _ => rfl) (PySem.W.kdl_size (by decide))) (.inl rfl) (fun _ => rfl)) (.cons rfl (.cons ?_ (.cons ?_ .nil)))) ?_
      · show some (Slot.val (.list ((sd.take sd.length).map pairD))) = some (Slot.val (.list (sd.map pairD)))
        rw [List.take_length]
      · show some (Slot.val (.list (dI (octsOf (sd.take sd.length))))) = some (Slot.val (.list (dI (octsOf sd))))
        rw [List.take_length]
      refine Ex.cons (Ex1.for (n := (sd.map pairD).length) (m := (sd.map pairD).length) (σs := fun i => sgD sd (dueOut sd i)) (bs := Out2 "p" "one" (sd.map pairD)) (EvI.list2 (Ev.name rfl rfl) (pairs_are sd)) ⟨own _ rfl (by decide), own _ rfl (by decide)⟩ (fun _ _ => rfl) (Nat.le_refl _) (fun i hi => ?_) (.inl ⟨rfl, Ex.nil⟩)) ?_
      · rw [List.length_map] at hi
        rw [out_pair hi]
        refine ⟨_, Ex.one (Ex1.for (n := (sd.map pairD).length) (m := (sd.map pairD).length) (σs := fun j => ([("one", .val (.int (shI (sd.getD i 0)))), ("p", .val (.int ((wN (sd.getD i 0) : Nat) : Int)))] : Sg) ++ sgD sd (dueIn (sd.getD i 0) sd (dueOut sd i) j)) (bs := Out2 "q" "other" (sd.map pairD)) (EvI.list2 (Ev.name rfl rfl) (pairs_are sd)) ⟨own _ rfl (by decide), own _ rfl (by decide)⟩ (fun _ _ => rfl) (Nat.le_refl _) (fun j hj => ?_) (.inl ⟨rfl, Ex.nil⟩)), .cons ?_ (.cons rfl (.cons rfl .nil))⟩
        · rw [List.length_map] at hj
          rw [out_pair hj]
          obtain ⟨_, _, _, _, _, _, _, _, _, _, q1, q2, h⟩ := law_due (G := G) (k := k + 2) (F := F) T (sd := sd) (due := dueIn (sd.getD i 0) sd (dueOut sd i) j) (x := sd.getD i 0) (y := sd.getD j 0) (dueIn_length _ _ _ (dueOut_length sd i) j)
          cases q1
          cases q2
          exact h
        · show some (Slot.val (.list (dI (dueIn (sd.getD i 0) sd (dueOut sd i) (sd.map pairD).length)))) = some (Slot.val (.list (dI (dueOut sd (i + 1)))))
          rw [List.length_map, hsl]; rfl
      rw [List.length_map, hsl]
      obtain ⟨_, _, _, q1, q2, q3, h⟩ := ex_feed (G := G) (k := k + 3) (F := F) (σ := sgD sd (dueOut sd 4)) T (laid4 hsl) (fun i hi => c_varint T (tN_ok _).1 (num_bits _)) (by rw [hF]; exact .head _) rfl rfl (rest := (rcAt 24).body.drop 9) (out := .ret (.bool true))
        (Ex.pre (law_end (k := k) (F := F) T FT hnb h0 hsl hf htot hlev e1 e2) (.cons rfl (.cons rfl (.cons rfl (.cons rfl .nil)))))
      cases q1
      cases q2
      cases q3
      exact h
end
end Mine
end C31

noncomputable section M1
open PySem PySem.Calls PyProof.Rows
set_option Elab.async false
set_option linter.unusedVariables false
set_option maxRecDepth 100000
namespace Mine
noncomputable def lt4 (p k : Nat) : Nat := if p.testBit (k % 4) then 65 + k % 4 else 97 + k % 4
noncomputable def strOf (p : Nat) : Str := ⟨#[lt4 p 0, lt4 p 1, lt4 p 2, lt4 p 3]⟩
theorem wr_eq : ∀ p < 16, wrL (plI p) = strOf p := by decide +kernel
noncomputable def tq (p q : Nat) : Nat := ((List.range 4).find? fun k => lt4 p k != lt4 q k).getD 4
noncomputable def uq (p q : Nat) : Nat := ((List.range 4).find? fun k => lt4 p (3 - k) != lt4 q (3 - k)).getD 4
noncomputable def hamN (p q : Nat) : Nat := ((List.range 4).filter fun k => lt4 p k != lt4 q k).length
noncomputable def subS (a b : Nat) : Int := if a = b then 0 else if a % 32 = b % 32 then 1 else 2
noncomputable def L8 : List Nat := [65, 66, 67, 68, 97, 98, 99, 100]
theorem sub_eq : ∀ a ∈ L8, ∀ b ∈ L8, substC (one a) (one b) = subS a b := by decide +kernel
theorem lt4_mem (p k : Nat) : lt4 p k ∈ L8 := by
  have h : ∀ b : Bool, ∀ m < 4, (if b = true then 65 + m else 97 + m) ∈ L8 := by decide
  exact h _ _ (Nat.mod_lt _ (by decide))
noncomputable abbrev PreD (x y : Str) (i c d : Nat) : Prop := ((sFrom x i).length : Int) ≠ 0 ∧ ((sFrom y i).length : Int) ≠ 0 ∧ chAt x i = some c ∧ chAt y i = some d
noncomputable abbrev PostD (x y : Str) (j c d : Nat) : Prop := ((sUpto x j).length : Int) ≠ 0 ∧ ((sUpto y j).length : Int) ≠ 0 ∧ chAt x (-(j : Int) - 1) = some c ∧ chAt y (-(j : Int) - 1) = some d
noncomputable abbrev LevD (p q t u L : Nat) (x y X Y : Str) : Prop :=
  (x == y) = false ∧ t ≤ 40 ∧ u ≤ 40 ∧ (∀ i, i < t → PreD x y i (lt4 p i) (lt4 p i)) ∧ PreD x y t (lt4 p t) (lt4 q t) ∧ lt4 p t ≠ lt4 q t ∧
  (∀ i, i < u → PostD (sFrom x t) (sFrom y t) i (lt4 p (3 - i)) (lt4 p (3 - i))) ∧ PostD (sFrom x t) (sFrom y t) u (lt4 p (3 - u)) (lt4 q (3 - u)) ∧ lt4 p (3 - u) ≠ lt4 q (3 - u) ∧
  X.length = L ∧ Y.length = L ∧ 1 ≤ L ∧ L ≤ 40 ∧ (∀ j, j < L → chAt X (j : Int) = some (lt4 p (t + j))) ∧ (∀ i, i < L → chAt Y (i : Int) = some (lt4 q (t + i))) ∧
  (∀ i, i < L → (DP.run (fun j => subS (lt4 q (t + i)) (lt4 p (t + j))) (DP.start (outer (fun i j => subS (lt4 q (t + i)) (lt4 p (t + j))) L (row0 L) i).1 i) L).mn ≤ 4) ∧
  (outer (fun i j => subS (lt4 q (t + i)) (lt4 p (t + j))) L (row0 L) L).2 = ((hamN p q : Nat) : Int)
set_option synthInstance.maxSize 20000 in
set_option synthInstance.maxHeartbeats 400000 in
noncomputable def levD (p q : Nat) : Decidable (p = q ∨ LevD p q (tq p q) (uq p q) (4 - tq p q - uq p q) (strOf p) (strOf q) (sUpto (sFrom (strOf p) (tq p q)) (uq p q)) (sUpto (sFrom (strOf q) (tq p q)) (uq p q))) := inferInstance
noncomputable def levB (p : Nat) : Bool := (List.range 16).all fun q => @decide _ (levD p q)
theorem levB0 : levB 0 = true := by decide +kernel
theorem levB1 : levB 1 = true := by decide +kernel
theorem levB2 : levB 2 = true := by decide +kernel
theorem levB3 : levB 3 = true := by decide +kernel
theorem levB4 : levB 4 = true := by decide +kernel
theorem levB5 : levB 5 = true := by decide +kernel
theorem levB6 : levB 6 = true := by decide +kernel
theorem levB7 : levB 7 = true := by decide +kernel
theorem levB8 : levB 8 = true := by decide +kernel
theorem levB9 : levB 9 = true := by decide +kernel
theorem levB10 : levB 10 = true := by decide +kernel
theorem levB11 : levB 11 = true := by decide +kernel
theorem levB12 : levB 12 = true := by decide +kernel
theorem levB13 : levB 13 = true := by decide +kernel
theorem levB14 : levB 14 = true := by decide +kernel
theorem levB15 : levB 15 = true := by decide +kernel
theorem cons_all {P : Nat → Prop} {a : Nat} {l : List Nat} (h : P a) (r : ∀ x ∈ l, P x) : ∀ x ∈ a :: l, P x := fun x hx => by
  rcases List.mem_cons.mp hx with rfl | q
  · exact h
  · exact r x q
theorem lev_rows : ∀ p ∈ [0, 1, 2, 3, 4, 5, 6, 7, 8, 9, 10, 11, 12, 13, 14, 15], levB p = true :=
  cons_all levB0 (cons_all levB1 (cons_all levB2 (cons_all levB3 (cons_all levB4 (cons_all levB5 (cons_all levB6 (cons_all levB7 (cons_all levB8 (cons_all levB9 (cons_all levB10 (cons_all levB11 (cons_all levB12 (cons_all levB13 (cons_all levB14 (cons_all levB15 fun _ h => nomatch h)))))))))))))))
theorem lev_row (p : Nat) (hp : p < 16) : levB p = true := lev_rows p (List.mem_range.mpr hp)
theorem lev_dec (p : Nat) (hp : p < 16) : ∀ q < 16, p = q ∨ LevD p q (tq p q) (uq p q) (4 - tq p q - uq p q) (strOf p) (strOf q) (sUpto (sFrom (strOf p) (tq p q)) (uq p q)) (sUpto (sFrom (strOf q) (tq p q)) (uq p q)) :=
  fun q hq => of_decide_eq_true (inst := levD p q) (List.all_eq_true.mp (lev_row p hp) q (List.mem_range.mpr hq))
theorem ham_self : ∀ p < 16, hamN p p = 0 := by decide +kernel
theorem ham_le (p q : Nat) : hamN p q ≤ 4 := Nat.le_trans (List.length_filter_le ..) (by simp)
section
variable {G : Gd} {k : Nat} {mean : ExcName → Option Value} {mg mb : Str → Option Value}
theorem low_ok (c : Nat) : Builtin.Str.tooLong (Txt.lower (one c)).length = false := by
  have h := len_lower (one c)
  have h1 : (one c).length = 1 := rfl
  rw [h1] at h
  unfold Builtin.Str.tooLong
  rw [sizeLine_eq]
  exact decide_eq_false (by omega)
theorem lev_words (T : Top pw lo mean mg mb G.hb) {p q : Nat} (hp : p < 16) (hq : q < 16) : FnAt G mg (k + 2) "_levenshtein_distance" [.str (wrL (plI p)), .str (wrL (plI q)), .int 4] (.int ((hamN p q : Nat) : Int)) := by
  rw [wr_eq p hp, wr_eq q hq]
  rcases lev_dec p hp q hq with rfl | ⟨h1, h2, h3, h4, h5, h6, h7, h8, h9, h10, h11, h12, h13, h14, h15, h16, h17⟩
  · rw [ham_self p hp]; exact c_lev0 (k := k + 1) T _
  · have hs : (fun i j => substC (one (lt4 q (tq p q + i))) (one (lt4 p (tq p q + j)))) = fun i j => subS (lt4 q (tq p q + i)) (lt4 p (tq p q + j)) := by
      funext i j; exact sub_eq _ (lt4_mem _ _) _ (lt4_mem _ _)
    have hs1 : ∀ i, (fun j => substC (one (lt4 q (tq p q + i))) (one (lt4 p (tq p q + j)))) = fun j => subS (lt4 q (tq p q + i)) (lt4 p (tq p q + j)) := fun i => congrFun hs i
    refine c_lev T low_ok (r := ((hamN p q : Nat) : Int)) (t := tq p q) (u := uq p q) (L := 4 - tq p q - uq p q) (c := lt4 p) (d := lt4 q) (c' := fun i => lt4 p (3 - i)) (d' := fun i => lt4 q (3 - i)) (cx := fun j => lt4 p (tq p q + j)) (cy := fun i => lt4 q (tq p q + i))
      ⟨h1, by show 4 ≤ 40; decide, by show 4 ≤ 40; decide, h2, h3, fun i hi => ⟨(h4 i hi).1, (h4 i hi).2.1, (h4 i hi).2.2.1, (h4 i hi).2.2.2⟩, ⟨h5.1, h5.2.1, h5.2.2.1, h5.2.2.2⟩, h6, fun i hi => ⟨(h7 i hi).1, (h7 i hi).2.1, (h7 i hi).2.2.1, (h7 i hi).2.2.2⟩, ⟨h8.1, h8.2.1, h8.2.2.1, h8.2.2.2⟩, h9, rfl, rfl, h10, h11, h12, h13, h14, h15, fun i hi => ?_, ?_⟩
    · show (DP.run (fun j => substC (one (lt4 q (tq p q + i))) (one (lt4 p (tq p q + j)))) (DP.start (outer (fun i j => substC (one (lt4 q (tq p q + i))) (one (lt4 p (tq p q + j)))) _ _ i).1 i) _).mn ≤ 4
      rw [hs, hs1]; exact h16 i hi
    · show (outer (fun i j => substC (one (lt4 q (tq p q + i))) (one (lt4 p (tq p q + j)))) _ _ _).2 = _
      rw [hs]; exact h17
end
end Mine
end M1

noncomputable section M2
open PySem PySem.Calls PyProof.Rows
set_option Elab.async false
set_option linter.unusedVariables false
set_option maxRecDepth 100000
namespace Mine
noncomputable def kap (m p q : Nat) : Int := (prodOf (sgX p q)).getD m 0
noncomputable def quad (w0 w1 w2 w3 : Int) (p0 p1 p2 p3 : Nat) (f : Nat → Nat → Int) : Int :=
  w0 * w0 * f p0 p0 + w0 * w1 * f p0 p1 + w0 * w2 * f p0 p2 + w0 * w3 * f p0 p3 + w1 * w0 * f p1 p0 + w1 * w1 * f p1 p1 + w1 * w2 * f p1 p2 + w1 * w3 * f p1 p3 +
  w2 * w0 * f p2 p0 + w2 * w1 * f p2 p1 + w2 * w2 * f p2 p2 + w2 * w3 * f p2 p3 + w3 * w0 * f p3 p0 + w3 * w1 * f p3 p1 + w3 * w2 * f p3 p2 + w3 * w3 * f p3 p3
theorem zip_get (c : Int) (a b : List Int) (m : Nat) (ha : a.length = 5) (hb : b.length = 5) (hm : m < 5) : (List.zipWith (fun a b => a + c * b) a b).getD m 0 = a.getD m 0 + c * b.getD m 0 := by
  rw [List.getD_eq_getElem?_getD, List.getD_eq_getElem?_getD, List.getD_eq_getElem?_getD, List.getElem?_zipWith, List.getElem?_eq_getElem (by omega), List.getElem?_eq_getElem (by omega)]; rfl
theorem five_ext {a b : List Int} (ha : a.length = 5) (hb : b.length = 5) (h : ∀ m, m < 5 → a.getD m 0 = b.getD m 0) : a = b := by
  apply List.ext_getElem (by omega)
  intro i h1 h2
  have := h i (by omega)
  rw [List.getD_eq_getElem?_getD, List.getD_eq_getElem?_getD, List.getElem?_eq_getElem h1, List.getElem?_eq_getElem h2] at this
  exact this
theorem dueStep_get (due : List Int) (x y : Int) (m : Nat) (hd : due.length = 5) (hm : m < 5) : (dueStep due x y).getD m 0 = due.getD m 0 + shI x * shI y * kap m (wN x) (wN y) := zip_get _ _ _ m hd (prodX_length _ _) hm
theorem dueIn_get (x x0 x1 x2 x3 : Int) (due : List Int) (m : Nat) (hd : due.length = 5) (hm : m < 5) :
    (dueIn x [x0, x1, x2, x3] due 4).getD m 0 = due.getD m 0 + shI x * shI x0 * kap m (wN x) (wN x0) + shI x * shI x1 * kap m (wN x) (wN x1) + shI x * shI x2 * kap m (wN x) (wN x2) + shI x * shI x3 * kap m (wN x) (wN x3) := by
  have l := dueIn_length x [x0, x1, x2, x3] due hd
  rw [dueIn, dueStep_get _ _ _ _ (l 3) hm, dueIn, dueStep_get _ _ _ _ (l 2) hm, dueIn, dueStep_get _ _ _ _ (l 1) hm, dueIn, dueStep_get _ _ _ _ (l 0) hm, dueIn]
  rfl
theorem due_get (x0 x1 x2 x3 : Int) (m : Nat) (hm : m < 5) : (dueOut [x0, x1, x2, x3] 4).getD m 0 = quad (shI x0) (shI x1) (shI x2) (shI x3) (wN x0) (wN x1) (wN x2) (wN x3) (kap m) := by
  have l := dueOut_length [x0, x1, x2, x3]
  have z : (dueOut [x0, x1, x2, x3] 0).getD m 0 = 0 := by
    match m, hm with
    | 0, _ => rfl
    | 1, _ => rfl
    | 2, _ => rfl
    | 3, _ => rfl
    | 4, _ => rfl
  rw [dueOut, dueIn_get _ _ _ _ _ _ m (l 3) hm, dueOut, dueIn_get _ _ _ _ _ _ m (l 2) hm, dueOut, dueIn_get _ _ _ _ _ _ m (l 1) hm, dueOut, dueIn_get _ _ _ _ _ _ m (l 0) hm, z]
  show 0 + shI x0 * shI x0 * kap m (wN x0) (wN x0) + shI x0 * shI x1 * kap m (wN x0) (wN x1) + shI x0 * shI x2 * kap m (wN x0) (wN x2) + shI x0 * shI x3 * kap m (wN x0) (wN x3) + shI x1 * shI x0 * kap m (wN x1) (wN x0) + shI x1 * shI x1 * kap m (wN x1) (wN x1) + shI x1 * shI x2 * kap m (wN x1) (wN x2) + shI x1 * shI x3 * kap m (wN x1) (wN x3) + shI x2 * shI x0 * kap m (wN x2) (wN x0) + shI x2 * shI x1 * kap m (wN x2) (wN x1) + shI x2 * shI x2 * kap m (wN x2) (wN x2) + shI x2 * shI x3 * kap m (wN x2) (wN x3) + shI x3 * shI x0 * kap m (wN x3) (wN x0) + shI x3 * shI x1 * kap m (wN x3) (wN x1) + shI x3 * shI x2 * kap m (wN x3) (wN x2) + shI x3 * shI x3 * kap m (wN x3) (wN x3) = _
  unfold quad
  omega
-- the distances
theorem kap_signs (H : Nat → Nat → Nat) (hH : ∀ p < 16, ∀ q < 16, prodOf (signsOf (H p q)) = prodOf (sgX p q)) {p q m : Nat} (hp : p < 16) (hq : q < 16) : (prodOf (signsOf (H p q))).getD m 0 = kap m p q := by rw [hH p hp q hq]; rfl
theorem kap_symm : ∀ p < 16, ∀ q < 16, prodOf (sgX p q) = prodOf (sgX q p) := by decide +kernel
theorem distStep_get (ws : List Int) (far : Nat → Nat → Nat) (sums : List Int) (i j m : Nat) (hs : sums.length = 5) (hf : far i j ≤ 4) (hm : m < 5) : (distStep ws far sums i j).getD m 0 = sums.getD m 0 + shareOf ws i j * (prodOf (signsOf (far i j))).getD m 0 := zip_get _ _ _ m hs (prod5 _ hf) hm
theorem dist_get (w0 w1 w2 w3 : Int) (p0 p1 p2 p3 : Nat) (h0 : p0 < 16) (h1 : p1 < 16) (h2 : p2 < 16) (h3 : p3 < 16) (H : Nat → Nat → Nat) (hH : ∀ p < 16, ∀ q < 16, prodOf (signsOf (H p q)) = prodOf (sgX p q)) (hH4 : ∀ p q, H p q ≤ 4) (m : Nat) (hm : m < 5) :
    (outerD [w0, w1, w2, w3] (fun i j => H (([p0, p1, p2, p3] : List Nat).getD i 0) (([p0, p1, p2, p3] : List Nat).getD j 0)) 4).getD m 0 = quad w0 w1 w2 w3 p0 p1 p2 p3 (kap m) := by
  generalize hfar : (fun i j => H (([p0, p1, p2, p3] : List Nat).getD i 0) (([p0, p1, p2, p3] : List Nat).getD j 0)) = far
  have hf : ∀ i j, far i j ≤ 4 := fun i j => by rw [← hfar]; exact hH4 _ _
  have lo := outerD_length [w0, w1, w2, w3] far hf
  have li := fun i sums h t => innerD_length [w0, w1, w2, w3] far hf i sums h t
  have z : (outerD [w0, w1, w2, w3] far 0).getD m 0 = 0 := by
    match m, hm with
    | 0, _ => rfl
    | 1, _ => rfl
    | 2, _ => rfl
    | 3, _ => rfl
    | 4, _ => rfl
  have st : ∀ i sums t, sums.length = 5 → (innerD [w0, w1, w2, w3] far i sums (t + 1)).getD m 0 = (innerD [w0, w1, w2, w3] far i sums t).getD m 0 + shareOf [w0, w1, w2, w3] i (i + t) * (prodOf (signsOf (far i (i + t)))).getD m 0 := fun i sums t h => by
    rw [innerD]; exact distStep_get _ _ _ _ _ m (li i sums h t) (hf _ _) hm
  have e : (outerD [w0, w1, w2, w3] far 4).getD m 0 = (outerD [w0, w1, w2, w3] far 0).getD m 0
     + shareOf [w0, w1, w2, w3] 0 0 * (prodOf (signsOf (far 0 0))).getD m 0 + shareOf [w0, w1, w2, w3] 0 1 * (prodOf (signsOf (far 0 1))).getD m 0 + shareOf [w0, w1, w2, w3] 0 2 * (prodOf (signsOf (far 0 2))).getD m 0 + shareOf [w0, w1, w2, w3] 0 3 * (prodOf (signsOf (far 0 3))).getD m 0
     + shareOf [w0, w1, w2, w3] 1 1 * (prodOf (signsOf (far 1 1))).getD m 0 + shareOf [w0, w1, w2, w3] 1 2 * (prodOf (signsOf (far 1 2))).getD m 0 + shareOf [w0, w1, w2, w3] 1 3 * (prodOf (signsOf (far 1 3))).getD m 0
     + shareOf [w0, w1, w2, w3] 2 2 * (prodOf (signsOf (far 2 2))).getD m 0 + shareOf [w0, w1, w2, w3] 2 3 * (prodOf (signsOf (far 2 3))).getD m 0
     + shareOf [w0, w1, w2, w3] 3 3 * (prodOf (signsOf (far 3 3))).getD m 0 := by
    rw [show outerD [w0, w1, w2, w3] far 4 = innerD [w0, w1, w2, w3] far 3 (outerD [w0, w1, w2, w3] far 3) 1 from rfl, st 3 _ 0 (lo 3), show innerD [w0, w1, w2, w3] far 3 (outerD [w0, w1, w2, w3] far 3) 0 = innerD [w0, w1, w2, w3] far 2 (outerD [w0, w1, w2, w3] far 2) 2 from rfl,
      st 2 _ 1 (lo 2), st 2 _ 0 (lo 2), show innerD [w0, w1, w2, w3] far 2 (outerD [w0, w1, w2, w3] far 2) 0 = innerD [w0, w1, w2, w3] far 1 (outerD [w0, w1, w2, w3] far 1) 3 from rfl,
      st 1 _ 2 (lo 1), st 1 _ 1 (lo 1), st 1 _ 0 (lo 1), show innerD [w0, w1, w2, w3] far 1 (outerD [w0, w1, w2, w3] far 1) 0 = innerD [w0, w1, w2, w3] far 0 (outerD [w0, w1, w2, w3] far 0) 4 from rfl,
      st 0 _ 3 (lo 0), st 0 _ 2 (lo 0), st 0 _ 1 (lo 0), st 0 _ 0 (lo 0)]
    rfl
  rw [e, z]
  subst hfar
  have ks : ∀ {p q}, p < 16 → q < 16 → kap m q p = kap m p q := fun hp hq => by unfold kap; rw [kap_symm _ hq _ hp]
  have k00 : (prodOf (signsOf (H p0 p0))).getD m 0 = kap m p0 p0 := kap_signs H hH h0 h0
  have k01 : (prodOf (signsOf (H p0 p1))).getD m 0 = kap m p0 p1 := kap_signs H hH h0 h1
  have k02 : (prodOf (signsOf (H p0 p2))).getD m 0 = kap m p0 p2 := kap_signs H hH h0 h2
  have k03 : (prodOf (signsOf (H p0 p3))).getD m 0 = kap m p0 p3 := kap_signs H hH h0 h3
  have k11 : (prodOf (signsOf (H p1 p1))).getD m 0 = kap m p1 p1 := kap_signs H hH h1 h1
  have k12 : (prodOf (signsOf (H p1 p2))).getD m 0 = kap m p1 p2 := kap_signs H hH h1 h2
  have k13 : (prodOf (signsOf (H p1 p3))).getD m 0 = kap m p1 p3 := kap_signs H hH h1 h3
  have k22 : (prodOf (signsOf (H p2 p2))).getD m 0 = kap m p2 p2 := kap_signs H hH h2 h2
  have k23 : (prodOf (signsOf (H p2 p3))).getD m 0 = kap m p2 p3 := kap_signs H hH h2 h3
  have k33 : (prodOf (signsOf (H p3 p3))).getD m 0 = kap m p3 p3 := kap_signs H hH h3 h3
  show 0 + w0 * w0 * (prodOf (signsOf (H p0 p0))).getD m 0 + (w0 * w1 + w0 * w1) * (prodOf (signsOf (H p0 p1))).getD m 0 + (w0 * w2 + w0 * w2) * (prodOf (signsOf (H p0 p2))).getD m 0 + (w0 * w3 + w0 * w3) * (prodOf (signsOf (H p0 p3))).getD m 0
     + w1 * w1 * (prodOf (signsOf (H p1 p1))).getD m 0 + (w1 * w2 + w1 * w2) * (prodOf (signsOf (H p1 p2))).getD m 0 + (w1 * w3 + w1 * w3) * (prodOf (signsOf (H p1 p3))).getD m 0
     + w2 * w2 * (prodOf (signsOf (H p2 p2))).getD m 0 + (w2 * w3 + w2 * w3) * (prodOf (signsOf (H p2 p3))).getD m 0 + w3 * w3 * (prodOf (signsOf (H p3 p3))).getD m 0 = _
  rw [k00, k01, k02, k03, k11, k12, k13, k22, k23, k33]
  unfold quad
  rw [ks h0 h1, ks h0 h2, ks h0 h3, ks h1 h2, ks h1 h3, ks h2 h3]
  grind
-- the choices
noncomputable def chi (c p : Nat) : Int := let n := c &&& p; let a := n ^^^ (n >>> 2); let b := a ^^^ (a >>> 1); if b % 2 = 0 then 1 else -1
noncomputable def cnt' (c : Nat) : Nat := c % 2 + c / 2 % 2 + c / 4 % 2 + c / 8 % 2
theorem chi_eq : ∀ c < 16, ∀ p < 16, sgnOf (aheadOf c p) = chi c p := by decide +kernel
theorem cnt_eq' : ∀ c < 16, cntN c = cnt' c ∧ cnt' c < 5 := by decide +kernel
noncomputable def corr (m p q : Nat) : Nat → Int
  | 0 => 0
  | c + 1 => corr m p q c + if cnt' c = m then chi c p * chi c q else 0
theorem corr_kap0 : ∀ p < 16, ∀ q < 16, corr 0 p q 16 = kap 0 p q := by decide +kernel
theorem corr_kap1 : ∀ p < 16, ∀ q < 16, corr 1 p q 16 = kap 1 p q := by decide +kernel
theorem corr_kap2 : ∀ p < 16, ∀ q < 16, corr 2 p q 16 = kap 2 p q := by decide +kernel
theorem corr_kap3 : ∀ p < 16, ∀ q < 16, corr 3 p q 16 = kap 3 p q := by decide +kernel
theorem corr_kap4 : ∀ p < 16, ∀ q < 16, corr 4 p q 16 = kap 4 p q := by decide +kernel
theorem corr_kap (m : Nat) (hm : m < 5) : ∀ p < 16, ∀ q < 16, corr m p q 16 = kap m p q := match m, hm with
  | 0, _ => corr_kap0
  | 1, _ => corr_kap1
  | 2, _ => corr_kap2
  | 3, _ => corr_kap3
  | 4, _ => corr_kap4
theorem tot_eq (w0 w1 w2 w3 : Int) (p0 p1 p2 p3 c : Nat) (hc : c < 16) (h0 : p0 < 16) (h1 : p1 < 16) (h2 : p2 < 16) (h3 : p3 < 16) : totI [w0, w1, w2, w3] (signsC [p0, p1, p2, p3] c 4) 4 = w0 * chi c p0 + w1 * chi c p1 + w2 * chi c p2 + w3 * chi c p3 := by
  show 0 + w0 * sgnOf (aheadOf c p0) + w1 * sgnOf (aheadOf c p1) + w2 * sgnOf (aheadOf c p2) + w3 * sgnOf (aheadOf c p3) = _
  rw [chi_eq c hc p0 h0, chi_eq c hc p1 h1, chi_eq c hc p2 h2, chi_eq c hc p3 h3]
  omega
theorem set_get (l : List Int) (i m : Nat) (v : Int) (hi : i < l.length) : (l.set i v).getD m 0 = if i = m then v else l.getD m 0 := by
  rw [List.getD_eq_getElem?_getD, List.getElem?_set, List.getD_eq_getElem?_getD]
  by_cases h : i = m
  · rw [if_pos h, if_pos h, if_pos hi]; rfl
  · rw [if_neg h, if_neg h]
theorem quad_step (w0 w1 w2 w3 : Int) (p0 p1 p2 p3 m c : Nat) : quad w0 w1 w2 w3 p0 p1 p2 p3 (fun p q => corr m p q (c + 1)) =
    quad w0 w1 w2 w3 p0 p1 p2 p3 (fun p q => corr m p q c) + if cnt' c = m then (w0 * chi c p0 + w1 * chi c p1 + w2 * chi c p2 + w3 * chi c p3) * (w0 * chi c p0 + w1 * chi c p1 + w2 * chi c p2 + w3 * chi c p3) else 0 := by
  unfold quad
  simp only [corr]
  by_cases h : cnt' c = m
  · simp only [if_pos h]
    generalize chi c p0 = a0
    generalize chi c p1 = a1
    generalize chi c p2 = a2
    generalize chi c p3 = a3
    grind
  · simp only [if_neg h, Int.add_zero]
theorem sums_get (w0 w1 w2 w3 : Int) (p0 p1 p2 p3 : Nat) (h0 : p0 < 16) (h1 : p1 < 16) (h2 : p2 < 16) (h3 : p3 < 16) (m : Nat) (hm : m < 5) : ∀ c, c ≤ 16 → (sumsC [w0, w1, w2, w3] [p0, p1, p2, p3] c).getD m 0 = quad w0 w1 w2 w3 p0 p1 p2 p3 (fun p q => corr m p q c)
  | 0, _ => by
    have z : (sumsC [w0, w1, w2, w3] [p0, p1, p2, p3] 0).getD m 0 = 0 := by
      match m, hm with
      | 0, _ => rfl
      | 1, _ => rfl
      | 2, _ => rfl
      | 3, _ => rfl
      | 4, _ => rfl
    rw [z]
    unfold quad
    simp only [corr]
    omega
  | c + 1, hc => by
    have ih := sums_get w0 w1 w2 w3 p0 p1 p2 p3 h0 h1 h2 h3 m hm c (by omega)
    obtain ⟨e, he⟩ := cnt_eq' c (by omega)
    rw [quad_step, ← ih, sumsC, stepC, set_get _ _ _ _ (by rw [sumsC_length, e]; exact he), tot_eq _ _ _ _ _ _ _ _ c (by omega) h0 h1 h2 h3, e]
    by_cases h : cnt' c = m
    · rw [if_pos h, if_pos h, h]
    · rw [if_neg h, if_neg h, Int.add_zero]
end Mine
end M2

noncomputable section M3
open PySem PySem.Calls PyProof.Rows
set_option Elab.async false
set_option linter.unusedVariables false
set_option maxRecDepth 100000
namespace Mine
theorem ham_prod : ∀ p < 16, ∀ q < 16, prodOf (signsOf (hamN p q)) = prodOf (sgX p q) := by decide +kernel
theorem chi_pm (c p : Nat) : chi c p = 1 ∨ chi c p = -1 := by
  unfold chi
  dsimp only
  split
  · exact .inl rfl
  · exact .inr rfl
theorem shI_bound (x : Int) : -(2 ^ 60) ≤ shI x ∧ shI x ≤ 2 ^ 60 := by
  have h := shI_abs x
  have := szN_lt x
  omega
theorem tot_bits (x0 x1 x2 x3 : Int) (c : Nat) (hc : c < 16) : Builtin.Int.intBits (totI [shI x0, shI x1, shI x2, shI x3] (signsC [wN x0, wN x1, wN x2, wN x3] c 4) 4) ≤ 64 := by
  rw [tot_eq _ _ _ _ _ _ _ _ c hc (wN_lt _) (wN_lt _) (wN_lt _) (wN_lt _)]
  have key : ∀ (x : Int) p, -(2 ^ 60) ≤ shI x * chi c p ∧ shI x * chi c p ≤ 2 ^ 60 := fun x p => by
    have := shI_bound x
    rcases chi_pm c p with h | h
    · rw [h]; omega
    · rw [h]; omega
  have k0 := key x0 (wN x0)
  have k1 := key x1 (wN x1)
  have k2 := key x2 (wN x2)
  have k3 := key x3 (wN x3)
  generalize shI x0 * chi c (wN x0) = a at *
  generalize shI x1 * chi c (wN x1) = b at *
  generalize shI x2 * chi c (wN x2) = d at *
  generalize shI x3 * chi c (wN x3) = e at *
  rw [bits_abs]
  exact bits_le (by omega)
section
variable {G : Gd} {k : Nat} {mean : ExcName → Option Value} {mg mb : Str → Option Value}
theorem law_true (T : Top pw lo mean mg mb G.hb) (FT : FlagTab G mg "COMPILER_FLAG_NAMES" nmS 4) (hnb : NoneBooked G.hb) (h0 : 0 < G.tk) {xs : List Int} (hxs : xs.length ≤ 63) : FnAt G mg (k + 4) "law" [.list (dI xs)] (.bool true) := by
  obtain ⟨x0, x1, x2, x3, hsd⟩ : ∃ x0 x1 x2 x3, seedsOf xs = [x0, x1, x2, x3] := by
    have h := seeds_length xs
    match seedsOf xs, h with
    | [a, b, c, d], _ => exact ⟨a, b, c, d, rfl⟩
  have e0 : ([x0, x1, x2, x3] : List Int).map wN = [wN x0, wN x1, wN x2, wN x3] := rfl
  have hlt : ∀ i, i < 4 → ([wN x0, wN x1, wN x2, wN x3] : List Nat).getD i 0 < 16 := fun i hi => by
    match i, hi with
    | 0, _ => exact wN_lt x0
    | 1, _ => exact wN_lt x1
    | 2, _ => exact wN_lt x2
    | 3, _ => exact wN_lt x3
  refine c_law T FT hnb h0 hxs hsd (far := fun i j => hamN (([wN x0, wN x1, wN x2, wN x3] : List Nat).getD i 0) (([wN x0, wN x1, wN x2, wN x3] : List Nat).getD j 0)) (fun i j => ham_le _ _) (fun c hc => tot_bits x0 x1 x2 x3 c hc) (fun i j hi hj => ?_) ?_ ?_
  · have wg : ∀ i, i < 4 → (((([x0, x1, x2, x3] : List Int).map wN).map plI).map wrL).getD i default = wrL (plI (([wN x0, wN x1, wN x2, wN x3] : List Nat).getD i 0)) := fun i hi => by
      match i, hi with
      | 0, _ => rfl
      | 1, _ => rfl
      | 2, _ => rfl
      | 3, _ => rfl
    rw [wg i hi, wg j hj]
    exact lev_words T (hlt i hi) (hlt j hj)
  · refine five_ext (sumsC_length _ _ 16) (dueOut_length _ 4) fun m hm => ?_
    show (sumsC [shI x0, shI x1, shI x2, shI x3] [wN x0, wN x1, wN x2, wN x3] 16).getD m 0 = _
    rw [sums_get _ _ _ _ _ _ _ _ (wN_lt _) (wN_lt _) (wN_lt _) (wN_lt _) m hm 16 (Nat.le_refl _), due_get _ _ _ _ m hm]
    unfold quad
    simp only [corr_kap m hm _ (wN_lt _) _ (wN_lt _)]
  · refine five_ext (outerD_length _ _ (fun i j => ham_le _ _) 4) (dueOut_length _ 4) fun m hm => ?_
    show (outerD [shI x0, shI x1, shI x2, shI x3] _ 4).getD m 0 = _
    rw [dist_get _ _ _ _ _ _ _ _ (wN_lt _) (wN_lt _) (wN_lt _) (wN_lt _) hamN ham_prod ham_le m hm, due_get _ _ _ _ m hm]
end
end Mine
end M3

noncomputable section J0
open PySem PySem.W PySem.Calls PyProof.Rows
set_option Elab.async false
set_option linter.unusedVariables false
set_option maxRecDepth 100000
namespace Mine
noncomputable def keyOk (e : DictEntry) : Bool := match e.key with
  | .int k _ => e.hash == hashInt k
  | _ => false
noncomputable def valOk (es : Array DictEntry) (i : Nat) : Bool := match findBy Value.isInt es ((2 : Int) ^ i) with
  | some (.str x t) => x == nmS i && t != 0 && decide (t < 413)
  | _ => false
theorem flagTab_of {G : Gd} {mg : Str → Option Value} {d : Addr} {o : Obj} {es : Array DictEntry} {ep : Nat} (h1 : mg "COMPILER_FLAG_NAMES" = some (.ref d)) (h2 : (d == sysModules) = false) (ho : G.hb.get? d = some o) (he : o = ⟨.type "dict", none, .dict es ep, #[]⟩)
    (hk : es.all keyOk = true) (hv : (List.range 4).all (valOk es) = true) (ht : G.tk = 413) : FlagTab G mg "COMPILER_FLAG_NAMES" nmS 4 := by
  subst he
  refine ⟨d, fun k => findBy Value.isInt es k, h1, h2, ⟨_, es, ep, ho, ⟨rfl, rfl, rfl⟩, rfl, fun e he => ?_, fun k => rfl⟩, fun i hi => ?_⟩
  · have := Array.all_eq_true_iff_forall_mem.mp hk e he
    unfold keyOk at this
    split at this
    · rename_i k t hkey
      refine ⟨k, ?_, show e.hash = hashInt k from by simpa using this⟩
      rw [hkey]
      show Value.isInt k (.int k t) = true
      simp [Value.isInt]
    · cases this
  · have := List.all_eq_true.mp hv i (by simpa using hi)
    unfold valOk at this
    split at this
    · rename_i x t hf
      simp only [Bool.and_eq_true, beq_iff_eq, bne_iff_ne, decide_eq_true_eq] at this
      exact ⟨t, (by show findBy Value.isInt es ((2 : Int) ^ i) = _; rw [hf, this.1.1]), this.1.2, (by rw [ht]; exact this.2)⟩
    · cases this
theorem noneBooked_of {h : Heap} {o : Obj} {ep : Nat} (ho : h.get? cStatics = some o) (he : o.data = .dict #[] ep) : NoneBooked h :=
  ⟨fun n => nsFind #[] n, ⟨o, #[], ep, ho, he, fun e he => by simp at he, fun _ => rfl⟩, rfl⟩
theorem ints_rep {X : List Addr} {h : Heap} : ∀ {ws : List Value} {xs : List Int}, IntsAre ws xs → RepAll X h (dI xs) ws
  | _, _, .nil => .nil
  | _, _, .cons y t r => .cons .ofInt (ints_rep r)
theorem join_end {c : ClaimW} {cl : Str → Option Addr} {mean : ExcName → Option Value} {args : List WData} {s₁ s' : Shared} {v : Value} (g : St [] s₁ s') (r : Rep [] s'.heap (.bool true) v) (hg : s₁.gens = #[])
    (hr : ∀ cls, c.raises args cls = false) (hp : c.post args (.bool true) args = true) : GoodWG c cl mean args s₁ (.ok (.ret v)) s' := by
  obtain rfl := r.bool'
  refine ⟨.inl ⟨_, _, [], rfl, hr, ReadsW.bool true, hp, fun _ => ⟨List.nodup_nil, fun _ hm => (nomatch hm)⟩⟩, .of_keep g.keep, g.os, ?_⟩
  obtain ⟨l, e, hl⟩ := g.gens
  intro y hy
  rw [e, hg] at hy
  exact hl y (by simpa using hy)
theorem room_caller : Room 14 callerA := ⟨rfl, by decide +kernel, by decide +kernel⟩
theorem law_run {prog : Program} {w : World} {mean : ExcName → Option Value} {mg mb : Str → Option Value} {s₁ : Shared} (T : Top pw lo mean mg mb s₁.heap) (FT : FlagTab ⟨prog, w, s₁.heap, 413⟩ mg "COMPILER_FLAG_NAMES" nmS 4) (hnb : NoneBooked s₁.heap) (htk : 413 ≤ s₁.toks)
    {xs : List Int} {ws : List Value} {a fa : Addr} (hlen : xs.length ≤ 63) (hl : s₁.heap.IsList a ws.toArray) (hI : IntsAre ws xs) (hmg : mg "law" = some (.ref fa)) {Q : Value → Shared → Prop} {E : Value → Shared → Prop} (h : ∀ v s', St [] s₁ s' → Rep [] s'.heap (.bool true) v → Q v s') :
    wpAny (model prog w) callerA (call (.ref fa) [.ref a]) Q E s₁ := by
  obtain ⟨f, o, fd, h1, h2, h3, h4⟩ := law_true (G := ⟨prog, w, s₁.heap, 413⟩) (k := 10) T FT hnb (show 0 < 413 by decide) hlen
  rw [hmg] at h1
  cases h1
  refine wpAny_mono (h4 callerA [] s₁ [.ref a] noE room_caller ⟨fun _ _ e => e, htk⟩ Live.nil (.one (.ofList (fun h => nomatch h) hl ?_))) (fun v s' q => h v s' q.1 q.2) fun _ _ q => q.elim
  exact ints_rep hI
end Mine
end J0

noncomputable section J1
open PySem PySem.W PySem.W.X PySem.W.XRun PySem.W.ZRun PyProof.Rows
set_option Elab.async false
set_option maxRecDepth 100000
set_option maxHeartbeats 8000000
theorem PySem.Challenge.cw_ta0020_01_holds : PySem.Challenge.rw_ta0020_01.Holds := by
  w_on; o_law; z_head; (case hw => w_witness2)
  k_fill
  intro w s₀ s₁ mg mb G y fa o pm cd doc dV kV ho hd hcd hD hmg hg args vals as L hpre hlay hrd hwl hlo
  z_open y L KX ZH ZN ZT
  refine Ground.open G ?_
  intro T B D TE TW
  wrow_args hpre hlay hrd hwl hlo
  have htk := script_toks L ZT
  have hcf : mg "COMPILER_FLAG_NAMES" = some (.ref 22) := mg_of KX T.g (by kernel_rfl)
  have ht22 := KX 22 _ rfl
  have ht2 := KX 2 _ rfl
  clear ho hd hcd ZH KX y L hD
  have FT : Mine.FlagTab ⟨PySem.Challenge.rw_ta0020_01.row.prog, w, s₁.heap, 413⟩ mg "COMPILER_FLAG_NAMES" Mine.nmS 4 := Mine.flagTab_of hcf rfl ht22 rfl (by decide +kernel) (by decide +kernel) rfl
  have hnb : NoneBooked s₁.heap := Mine.noneBooked_of ht2 rfl
  have hI := ‹IntsAre _ _›
  have hL := ‹Heap.IsList _ _ _›
  refine Mine.law_run T FT hnb htk ?hlen hL hI hmg fun v s' g r => Mine.join_end g r hg (fun _ => rfl) ?hp
  case hlen => omega
  case hp => with_unfolding_all rfl
end J1
