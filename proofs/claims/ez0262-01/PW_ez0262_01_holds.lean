import PyProof.Rows.All
import PyProof.StrLawsTight
import PyProof.StrLawsNeg
import Wide.All
import OpenK.AllK
import Wide.FinOn
import PySem.Challenge.RW_ez0262_01
set_option maxRecDepth 100000
set_option Elab.async false
set_option linter.unusedVariables false
set_option linter.unusedSectionVars false
set_option linter.unusedSimpArgs false
section
set_option maxRecDepth 100000
set_option Elab.async false
set_option linter.unusedVariables false
namespace Mine
open PySem PySem.W PySem.Calls PyProof.Rows

/-! ## Values, stores, the worlds of addresses -/
inductive V where
  | none
  | bool (b : Bool)
  | int (i : Int)
  | str (x : Str)
  | bytes (b : Array UInt8)
  | con (v : Value)
  | ref (k : Nat)
  | tup (l : List V)
  | lst (l : List V)
  | arr (l : List V)
  | obj (C : Nat) (as : List (Str × V))
  | rng (a b : Int)
  | sli (lo hi st : Option Int)
  | bm (f : Nat) (k : Nat)

inductive O where
  | list (l : List V)
  | arr (l : List V)
  | sdict (es : List (Str × V))
  | idict (es : List (Int × V))
  | inst (C : Nat) (as : List (Str × V))
  | kdict (es : List (Str × V)) (ep : Nat)

structure Ws where
  hot : List Nat
  cs : List (Nat × Nat)
def Ws.adr (ws : Ws) : List Nat := ws.cs.flatMap fun p => [p.1, p.2]
def Fz (ws : Ws) (a : Nat) : Prop := a ∉ ws.hot ∧ a ∉ ws.adr

abbrev listObj (vs : List Value) (n : Nat) : Obj := { cls := .type "list", dict := none, data := .seq vs.toArray n, slots := #[] }
abbrev tupObj (vs : List Value) (n : Nat) : Obj := { cls := .type "tuple", dict := none, data := .seq vs.toArray n, slots := #[] }

mutual
inductive RV (P : Params) (ws : Ws) (h : Heap) : V → Value → Prop
  | none : RV P ws h .none .none
  | bool (b : Bool) : RV P ws h (.bool b) (.bool b)
  | int (i : Int) (t : Tok) : RV P ws h (.int i) (.int i t)
  | str (x : Str) (t : Tok) : RV P ws h (.str x) (.str x t)
  | bytes (b : Array UInt8) (t : Tok) : RV P ws h (.bytes b) (.bytes b t)
  | con (v : Value) : RV P ws h (.con v) v
  | ref (k : Nat) (p : Nat × Nat) : ws.cs[k]? = some p → RV P ws h (.ref k) (.ref p.1)
  | tup (l : List V) (a : Nat) (vs : List Value) (n : Nat) : Fz ws a → h.get? a = some (tupObj vs n) → RVs P ws h l vs → RV P ws h (.tup l) (.ref a)
  | lst (l : List V) (a : Nat) (vs : List Value) (n : Nat) : Fz ws a → h.get? a = some (listObj vs n) → RVs P ws h l vs → RV P ws h (.lst l) (.ref a)
  | arr (l : List V) (a : Nat) (vs : List Value) : Fz ws a → h.IsList a vs.toArray → RVs P ws h l vs → RV P ws h (.arr l) (.ref a)
  | obj (C : Nat) (as : List (Str × V)) (a d : Nat) (des : List DictEntry) (n : Nat) : Fz ws a → Fz ws d → h.get? a = some (instObj C d) → h.get? d = some (dictOf des n) → RAs P ws h as des → RV P ws h (.obj C as) (.ref a)
  | rng (a b : Int) (r : Nat) (t u v : Tok) : Fz ws r → IsRange h r a b 1 t u v → RV P ws h (.rng a b) (.ref r)
  | sli (l u s : Option (Int × Tok)) (a : Nat) : Fz ws a → h.IsSlice a l u s → RV P ws h (.sli (l.map (·.1)) (u.map (·.1)) (s.map (·.1))) (.ref a)
  | bm (f k : Nat) (p : Nat × Nat) (q : Nat) : ws.cs[k]? = some p → Fz ws q → h.get? q = some (methodObj (.ref f) (.ref p.1)) → RV P ws h (.bm f k) (.ref q)
inductive RVs (P : Params) (ws : Ws) (h : Heap) : List V → List Value → Prop
  | nil : RVs P ws h [] []
  | cons (v : V) (x : Value) (l : List V) (xs : List Value) : RV P ws h v x → RVs P ws h l xs → RVs P ws h (v :: l) (x :: xs)
inductive RAs (P : Params) (ws : Ws) (h : Heap) : List (Str × V) → List DictEntry → Prop
  | nil : RAs P ws h [] []
  | cons (x : Str) (t : Tok) (v : V) (y : Value) (l : List (Str × V)) (es : List DictEntry) : RV P ws h v y → RAs P ws h l es → RAs P ws h ((x, v) :: l) (⟨PyData.keyHash P x, .str x t, y⟩ :: es)
end

structure Step (ws : Ws) (h : Heap) (ws' : Ws) (h' : Heap) : Prop where
  kept : ∀ a o, h.get? a = some o → Fz ws a → h'.get? a = some o ∧ Fz ws' a
  cs : ∀ (k : Nat) (p : Nat × Nat), ws.cs[k]? = some p → ws'.cs[k]? = some p

section
variable {P : Params} {ws ws' : Ws} {h h' : Heap}
mutual
theorem RV.mono (S : Step ws h ws' h') : ∀ {v : V} {x : Value}, RV P ws h v x → RV P ws' h' v x
  | _, _, .none => .none
  | _, _, .bool b => .bool b
  | _, _, .int i t => .int i t
  | _, _, .str x t => .str x t
  | _, _, .bytes b t => .bytes b t
  | _, _, .con v => .con v
  | _, _, .ref k p e => .ref k p (S.cs k p e)
  | _, _, .tup l a vs n f e r => .tup l a vs n (S.kept _ _ e f).2 (S.kept _ _ e f).1 (RVs.mono S r)
  | _, _, .lst l a vs n f e r => .lst l a vs n (S.kept _ _ e f).2 (S.kept _ _ e f).1 (RVs.mono S r)
  | _, _, .arr l a vs f e r => let ⟨o, e1, e2⟩ := e; .arr l a vs (S.kept _ _ e1 f).2 ⟨o, (S.kept _ _ e1 f).1, e2⟩ (RVs.mono S r)
  | _, _, .obj C as a d des n f g e i r => .obj C as a d des n (S.kept _ _ e f).2 (S.kept _ _ i g).2 (S.kept _ _ e f).1 (S.kept _ _ i g).1 (RAs.mono S r)
  | _, _, .rng a b r t u v f e => .rng a b r t u v (S.kept _ _ e f).2 (S.kept _ _ e f).1
  | _, _, .sli l u s a f e => let ⟨o, e1, e2⟩ := e; .sli l u s a (S.kept _ _ e1 f).2 ⟨o, (S.kept _ _ e1 f).1, e2⟩
  | _, _, .bm f k p q e g i => .bm f k p q (S.cs k p e) (S.kept _ _ i g).2 (S.kept _ _ i g).1
theorem RVs.mono (S : Step ws h ws' h') : ∀ {l : List V} {xs : List Value}, RVs P ws h l xs → RVs P ws' h' l xs
  | _, _, .nil => .nil
  | _, _, .cons v x l xs a r => .cons v x l xs (RV.mono S a) (RVs.mono S r)
theorem RAs.mono (S : Step ws h ws' h') : ∀ {l : List (Str × V)} {es : List DictEntry}, RAs P ws h l es → RAs P ws' h' l es
  | _, _, .nil => .nil
  | _, _, .cons x t v y l es a r => .cons x t v y l es (RV.mono S a) (RAs.mono S r)
end

theorem RVs.length : ∀ {l : List V} {xs : List Value}, RVs P ws h l xs → l.length = xs.length
  | _, _, .nil => rfl
  | _, _, .cons _ _ _ _ _ r => congrArg (· + 1) r.length
theorem RVs.get : ∀ {l : List V} {xs : List Value}, RVs P ws h l xs → ∀ {i : Nat} {v : V}, l[i]? = some v → ∃ x, xs[i]? = some x ∧ RV P ws h v x
  | _, _, .nil, i, v, e => by simp at e
  | _, _, .cons v x l xs a r, 0, w, e => by cases e; exact ⟨x, rfl, a⟩
  | _, _, .cons v x l xs a r, i + 1, w, e => r.get (i := i) (by simpa using e)
theorem RVs.append : ∀ {l : List V} {xs : List Value}, RVs P ws h l xs → ∀ {l' : List V} {xs' : List Value}, RVs P ws h l' xs' → RVs P ws h (l ++ l') (xs ++ xs')
  | _, _, .nil, _, _, r => r
  | _, _, .cons v x l xs a r, _, _, r' => .cons v x _ _ a (r.append r')
theorem RVs.set : ∀ {l : List V} {xs : List Value}, RVs P ws h l xs → ∀ (i : Nat) {v : V} {x : Value}, RV P ws h v x → RVs P ws h (l.set i v) (xs.set i x)
  | _, _, .nil, _, _, _, _ => .nil
  | _, _, .cons v x l xs a r, 0, w, y, b => .cons w y _ _ b r
  | _, _, .cons v x l xs a r, i + 1, w, y, b => .cons v x _ _ a (r.set i b)
end

theorem Step.refl (ws : Ws) (h : Heap) : Step ws h ws h := ⟨fun _ _ e f => ⟨e, f⟩, fun _ _ e => e⟩
theorem Step.trans {a b c : Ws} {h₁ h₂ h₃ : Heap} (x : Step a h₁ b h₂) (y : Step b h₂ c h₃) : Step a h₁ c h₃ :=
  ⟨fun p o e f => let ⟨e', f'⟩ := x.kept p o e f; y.kept p o e' f', fun k p e => y.cs k p (x.cs k p e)⟩

/-- what a piece of code leaves: it may turn `own` and the store's cells, nothing else; new cells are new -/
structure Ext (own : List Nat) (ws : Ws) (h : Heap) (ws' : Ws) (h' : Heap) : Prop where
  hot : ws'.hot = ws.hot
  cs : ∃ more, ws'.cs = ws.cs ++ more ∧ ∀ p ∈ more, h.get? p.1 = none ∧ h.get? p.2 = none
  keep : ∀ (a : Nat) o, h.get? a = some o → a ∉ own → a ∉ ws.adr → h'.get? a = some o
  there : ∀ (a : Nat) o, h.get? a = some o → ∃ o', h'.get? a = some o'

theorem Ext.refl (own : List Nat) (ws : Ws) (h : Heap) : Ext own ws h ws h := ⟨rfl, ⟨[], by simp, by simp⟩, fun _ _ e _ _ => e, fun _ o e => ⟨o, e⟩⟩
theorem Ws.mem_adr {ws : Ws} {a : Nat} : a ∈ ws.adr ↔ ∃ p ∈ ws.cs, a = p.1 ∨ a = p.2 := by
  simp [Ws.adr, List.mem_flatMap]
theorem Ext.adr {own : List Nat} {ws ws' : Ws} {h h' : Heap} (x : Ext own ws h ws' h') {a : Nat} {o : Obj} (e : h.get? a = some o) : a ∈ ws'.adr ↔ a ∈ ws.adr := by
  obtain ⟨more, e', m⟩ := x.cs
  rw [Ws.mem_adr, Ws.mem_adr, e']
  constructor
  · rintro ⟨p, hp, q⟩
    rcases List.mem_append.mp hp with hp | hp
    · exact ⟨p, hp, q⟩
    · have := m p hp
      rcases q with rfl | rfl
      · rw [this.1] at e; cases e
      · rw [this.2] at e; cases e
  · rintro ⟨p, hp, q⟩
    exact ⟨p, List.mem_append_left _ hp, q⟩
theorem Ext.gone {own : List Nat} {ws ws' : Ws} {h h' : Heap} (x : Ext own ws h ws' h') {a : Nat} (e : h'.get? a = none) : h.get? a = none := by
  cases q : h.get? a with
  | none => rfl
  | some o => obtain ⟨o', e'⟩ := x.there a o q; rw [e] at e'; cases e'
theorem Ext.trans {own : List Nat} {ws₁ ws₂ ws₃ : Ws} {h₁ h₂ h₃ : Heap} (x : Ext own ws₁ h₁ ws₂ h₂) (y : Ext own ws₂ h₂ ws₃ h₃) : Ext own ws₁ h₁ ws₃ h₃ := by
  refine ⟨y.hot.trans x.hot, ?_, fun a o e no na => ?_, fun a o e => ?_⟩
  · obtain ⟨m1, e1, b1⟩ := x.cs
    obtain ⟨m2, e2, b2⟩ := y.cs
    refine ⟨m1 ++ m2, by rw [e2, e1, List.append_assoc], fun p hp => ?_⟩
    rcases List.mem_append.mp hp with hp | hp
    · exact b1 p hp
    · have := b2 p hp
      exact ⟨x.gone this.1, x.gone this.2⟩
  · exact y.keep a o (x.keep a o e no na) no fun q => na ((x.adr e).mp q)
  · obtain ⟨o', e'⟩ := x.there a o e
    exact y.there a o' e'
theorem Ext.mono {own own' : List Nat} {ws ws' : Ws} {h h' : Heap} (x : Ext own ws h ws' h') (s : ∀ a ∈ own, a ∈ own') : Ext own' ws h ws' h' :=
  ⟨x.hot, x.cs, fun a o e no na => x.keep a o e (fun q => no (s a q)) na, x.there⟩
theorem Ext.step {own : List Nat} {ws ws' : Ws} {h h' : Heap} (x : Ext own ws h ws' h') (s : ∀ a ∈ own, a ∈ ws.hot) : Step ws h ws' h' := by
  refine ⟨fun a o e f => ⟨x.keep a o e (fun q => f.1 (s a q)) f.2, by rw [x.hot]; exact f.1, fun q => f.2 ((x.adr e).mp q)⟩, fun k p e => ?_⟩
  obtain ⟨more, e', _⟩ := x.cs
  rw [e', List.getElem?_append_left (List.getElem?_eq_some_iff.mp e).1]; exact e

/-- the constants of a walk -/
structure Cx where
  prog : Program
  w : World
  h₀ : Heap
  K : Frag
  os : OsState
abbrev Cx.P (c : Cx) : Params := c.w.params

def RKs {κ : Type} (P : Params) (ws : Ws) (h : Heap) : List (κ × V) → List (κ × Value) → Prop
  | [], [] => True
  | (k, v) :: l, (k', x) :: l' => k = k' ∧ RV P ws h v x ∧ RKs P ws h l l'
  | _, _ => False
theorem RKs.mono {κ : Type} {P : Params} {ws ws' : Ws} {h h' : Heap} (S : Step ws h ws' h') : ∀ {l : List (κ × V)} {es : List (κ × Value)}, RKs P ws h l es → RKs P ws' h' l es
  | [], [], _ => trivial
  | _ :: _, _ :: _, ⟨a, b, r⟩ => ⟨a, b.mono S, RKs.mono S r⟩

def RO (c : Cx) (ws : Ws) (h : Heap) (p : Nat × Nat) : O → Prop
  | .list l => ∃ vs n, h.get? p.1 = some (listObj vs n) ∧ p.2 = p.1 ∧ RVs c.P ws h l vs
  | .arr l => ∃ vs, h.IsList p.1 vs.toArray ∧ p.2 = p.1 ∧ RVs c.P ws h l vs
  | .sdict es => ∃ kvs, h.DictOf (strKind c.prog c.w) p.1 kvs ∧ p.2 = p.1 ∧ RKs c.P ws h es kvs
  | .idict es => ∃ kvs, h.DictOf (intKind c.prog c.w) p.1 kvs ∧ p.2 = p.1 ∧ RKs c.P ws h es kvs
  | .kdict es ep => ∃ kvs, h.DictAt (strKind c.prog c.w) p.1 kvs ep ∧ p.2 = p.1 ∧ RKs c.P ws h es kvs
  | .inst C as => ∃ des n, h.get? p.1 = some (instObj C p.2) ∧ h.get? p.2 = some (dictOf des n) ∧ RAs c.P ws h as des

structure Rel (c : Cx) (ws : Ws) (σ : List O) (s : Shared) : Prop where
  base : ∀ a o, c.h₀.get? a = some o → s.heap.get? a = some o
  gens : s.gens = #[]
  os : s.os = c.os
  len : σ.length = ws.cs.length
  objs : ∀ (k : Nat) (o : O) (p : Nat × Nat), σ[k]? = some o → ws.cs[k]? = some p → RO c ws s.heap p o
  there : ∀ a, a ∈ ws.hot ∨ a ∈ ws.adr → ∃ o, s.heap.get? a = some o
  fresh : ∀ a, a ∈ ws.hot ∨ a ∈ ws.adr → c.h₀.get? a = none
  apart : ∀ a ∈ ws.hot, a ∉ ws.adr
  dist : ws.cs.Pairwise fun p q => p.1 ≠ q.1 ∧ p.1 ≠ q.2 ∧ p.2 ≠ q.1 ∧ p.2 ≠ q.2
  mods : ∀ p ∈ ws.cs, p.1 ≠ sysModules
end Mine
end
section
set_option maxRecDepth 100000
set_option Elab.async false
set_option linter.unusedVariables false
namespace Mine
open PySem PySem.W PySem.Calls PyProof.Rows

theorem ofString_inj {a b : String} (h : Str.ofString a = Str.ofString b) : a = b := by
  rw [Str.ofString_eq_toList, Str.ofString_eq_toList] at h
  have h1 : (a.toList.map Char.toNat).toArray = (b.toList.map Char.toNat).toArray := congrArg Str.cps h
  have h2 : a.toList.map Char.toNat = b.toList.map Char.toNat := by simpa using congrArg Array.toList h1
  have h3 : a.toList = b.toList := by
    have inj : ∀ (l l' : List Char), l.map Char.toNat = l'.map Char.toNat → l = l' := by
      intro l
      induction l with
      | nil => intro l' e; cases l' with
        | nil => rfl
        | cons _ _ => simp at e
      | cons x l ih => intro l' e; cases l' with
        | nil => simp at e
        | cons y l' =>
          simp only [List.map_cons, List.cons.injEq] at e
          rw [ih l' e.2]
          have : x = y := by
            apply Char.ext
            apply UInt32.toNat_inj.mp
            exact e.1
          rw [this]
    exact inj _ _ h2
  exact String.toList_inj.mp h3

/-! ## The relation under the turns of a state -/
section
variable {c : Cx} {ws : Ws} {σ : List O} {s : Shared}

theorem Ws.at_adr {ws : Ws} {k : Nat} {p : Nat × Nat} (e : ws.cs[k]? = some p) : p.1 ∈ ws.adr ∧ p.2 ∈ ws.adr :=
  ⟨Ws.mem_adr.mpr ⟨p, List.mem_of_getElem? e, .inl rfl⟩, Ws.mem_adr.mpr ⟨p, List.mem_of_getElem? e, .inr rfl⟩⟩

/-- only tokens turn -/
theorem Rel.tok (R : Rel c ws σ s) (t : Nat) : Rel c ws σ { s with toks := t } := ⟨R.base, R.gens, R.os, R.len, R.objs, R.there, R.fresh, R.apart, R.dist, R.mods⟩
theorem RO.same {ws ws' : Ws} {h h' : Heap} {p : Nat × Nat} (S : Step ws h ws' h') (same : ∀ (a : Nat) o, a = p.1 ∨ a = p.2 → h.get? a = some o → h'.get? a = some o) : ∀ {o : O}, RO c ws h p o → RO c ws' h' p o
  | .list l, ⟨vs, n, a, b, r⟩ => ⟨vs, n, same _ _ (.inl rfl) a, b, r.mono S⟩
  | .arr l, ⟨vs, ⟨o, a, d⟩, b, r⟩ => ⟨vs, ⟨o, same _ _ (.inl rfl) a, d⟩, b, r.mono S⟩
  | .sdict es, ⟨kvs, ⟨o, es', ep, a, d⟩, b, r⟩ => ⟨kvs, ⟨o, es', ep, same _ _ (.inl rfl) a, d⟩, b, r.mono S⟩
  | .idict es, ⟨kvs, ⟨o, es', ep, a, d⟩, b, r⟩ => ⟨kvs, ⟨o, es', ep, same _ _ (.inl rfl) a, d⟩, b, r.mono S⟩
  | .kdict es ep, ⟨kvs, ⟨o, es', a, d⟩, b, r⟩ => ⟨kvs, ⟨o, es', same _ _ (.inl rfl) a, d⟩, b, r.mono S⟩
  | .inst C as, ⟨des, n, a, b, r⟩ => ⟨des, n, same _ _ (.inl rfl) a, same _ _ (.inr rfl) b, r.mono S⟩

/-- a turn of what is hot alone (a frame, a cell, an iterator), and new objects -/
theorem Rel.turn (R : Rel c ws σ s) {h' : Heap} (t : Nat) (own : List Nat) (sub : ∀ a ∈ own, a ∈ ws.hot) (keep : ∀ (a : Nat) o, s.heap.get? a = some o → a ∉ own → h'.get? a = some o) (there : ∀ (a : Nat) o, s.heap.get? a = some o → ∃ o', h'.get? a = some o') :
    Rel c ws σ { s with heap := h', toks := t } := by
  have S : Step ws s.heap ws h' := ⟨fun a o e f => ⟨keep a o e fun q => f.1 (sub a q), f⟩, fun _ _ e => e⟩
  refine ⟨fun a o e => keep a o (R.base a o e) fun q => ?_, R.gens, R.os, R.len, fun k o p h1 h2 => ?_, fun a h => let ⟨o, e⟩ := R.there a h; there a o e, R.fresh, R.apart, R.dist, R.mods⟩
  · have := R.fresh a (.inl (sub a q)); rw [e] at this; cases this
  · have m := Ws.at_adr h2
    exact (R.objs k o p h1 h2).same S fun a o q e => keep a o e fun w => R.apart a (sub a w) (by rcases q with q | q <;> subst q; exact m.1; exact m.2)

theorem Rel.push (R : Rel c ws σ s) (o : Obj) (t : Nat) : Rel c ws σ { s with heap := s.heap.push o, toks := t } :=
  R.turn t [] (by simp) (fun a o' e _ => Heap.get?_push_of_some o e) (fun a o' e => ⟨o', Heap.get?_push_of_some o e⟩)
theorem Ext.push (own : List Nat) (ws : Ws) (h : Heap) (o : Obj) : Ext own ws h ws (h.push o) :=
  ⟨rfl, ⟨[], by simp, by simp⟩, fun a o' e _ _ => Heap.get?_push_of_some o e, fun a o' e => ⟨o', Heap.get?_push_of_some o e⟩⟩
/-- new objects, nothing turned -/
theorem Rel.more (R : Rel c ws σ s) {h' : Heap} (t : Nat) (keep : ∀ (a : Nat) o, s.heap.get? a = some o → h'.get? a = some o) : Rel c ws σ { s with heap := h', toks := t } :=
  R.turn t [] (by simp) (fun a o' e _ => keep a o' e) (fun a o' e => ⟨o', keep a o' e⟩)
theorem Ext.more (own : List Nat) (ws : Ws) {h h' : Heap} (keep : ∀ (a : Nat) o, h.get? a = some o → h'.get? a = some o) : Ext own ws h ws h' :=
  ⟨rfl, ⟨[], by simp, by simp⟩, fun a o' e _ _ => keep a o' e, fun a o' e => ⟨o', keep a o' e⟩⟩
theorem get_size (h : Heap) : h.get? h.objs.size = none := by
  cases q : h.get? h.objs.size with
  | none => rfl
  | some o => exact absurd (Heap.lt_size q) (Nat.lt_irrefl _)
theorem Rel.fz (R : Rel c ws σ s) {a : Nat} (h : s.heap.get? a = none) : Fz ws a :=
  ⟨fun m => (by obtain ⟨o, e⟩ := R.there a (.inl m); rw [h] at e; cases e), fun m => (by obtain ⟨o, e⟩ := R.there a (.inr m); rw [h] at e; cases e)⟩
theorem Rel.none₀ (R : Rel c ws σ s) {a : Nat} (h : s.heap.get? a = none) : c.h₀.get? a = none := by
  cases q : c.h₀.get? a with
  | none => rfl
  | some o => have := R.base _ o q; rw [h] at this; cases this

/-- a new cell of the store -/
def Ws.grow (ws : Ws) (p : Nat × Nat) : Ws := ⟨ws.hot, ws.cs ++ [p]⟩
theorem Ws.grow_adr {ws : Ws} {p : Nat × Nat} {a : Nat} : a ∈ (ws.grow p).adr ↔ a ∈ ws.adr ∨ a = p.1 ∨ a = p.2 := by
  simp [Ws.adr, Ws.grow, List.flatMap_append]
theorem Rel.newCell (R : Rel c ws σ s) {h' : Heap} {p : Nat × Nat} {o : O} (keep : ∀ (a : Nat) o, s.heap.get? a = some o → h'.get? a = some o) (g1 : s.heap.get? p.1 = none) (g2 : s.heap.get? p.2 = none)
    (l1 : ∃ o, h'.get? p.1 = some o) (l2 : ∃ o, h'.get? p.2 = some o) (m1 : p.1 ≠ sysModules)
    (ro : Ext [] ws s.heap (ws.grow p) h' → RO c (ws.grow p) h' p o) (t : Nat) :
    Rel c (ws.grow p) (σ ++ [o]) { s with heap := h', toks := t } ∧ Ext [] ws s.heap (ws.grow p) h' := by
  have E : Ext [] ws s.heap (ws.grow p) h' := ⟨rfl, ⟨[p], rfl, by simpa using ⟨g1, g2⟩⟩, fun a o e _ _ => keep a o e, fun a o e => ⟨o, keep a o e⟩⟩
  have S := E.step (by simp)
  refine ⟨⟨fun a o e => keep a o (R.base a o e), R.gens, R.os, by simp [Ws.grow, R.len], fun k o' q h1 h2 => ?_, fun a h => ?_, fun a h => ?_, fun a h m => ?_, ?_, fun q hq => ?_⟩, E⟩
  · by_cases hk : k < σ.length
    · have h1' : σ[k]? = some o' := by rwa [List.getElem?_append_left hk] at h1
      have h2' : ws.cs[k]? = some q := by
        have : (ws.cs ++ [p])[k]? = some q := h2
        rwa [List.getElem?_append_left (by rw [← R.len]; exact hk)] at this
      exact (R.objs k o' q h1' h2').same S fun a o _ e => keep a o e
    · have hk2 : k = σ.length := by
        have := (List.getElem?_eq_some_iff.mp h1).1
        simp at this; omega
      subst hk2
      have h1' : o = o' := by simpa using h1
      have h2' : p = q := by
        have : (ws.cs ++ [p])[σ.length]? = some q := h2
        rw [R.len] at this
        simpa using this
      subst h1' h2'
      exact ro E
  · show ∃ o, h'.get? a = some o
    rcases h with h | h
    · obtain ⟨o, e⟩ := R.there a (.inl h); exact ⟨o, keep a o e⟩
    · rcases Ws.grow_adr.mp h with h | h | h
      · obtain ⟨o, e⟩ := R.there a (.inr h); exact ⟨o, keep a o e⟩
      · subst h; exact l1
      · subst h; exact l2
  · rcases h with h | h
    · exact R.fresh a (.inl h)
    · rcases Ws.grow_adr.mp h with h | h | h
      · exact R.fresh a (.inr h)
      · subst h; exact R.none₀ g1
      · subst h; exact R.none₀ g2
  · obtain ⟨o, e⟩ := R.there a (.inl h)
    rcases Ws.grow_adr.mp m with m | m | m
    · exact R.apart a h m
    · subst m; rw [g1] at e; cases e
    · subst m; rw [g2] at e; cases e
  · refine List.pairwise_append.mpr ⟨R.dist, by simp, fun q hq q' hq' => ?_⟩
    rw [List.mem_singleton.mp hq']
    obtain ⟨o1, e1⟩ := R.there q.1 (.inr (Ws.mem_adr.mpr ⟨q, hq, .inl rfl⟩))
    obtain ⟨o2, e2⟩ := R.there q.2 (.inr (Ws.mem_adr.mpr ⟨q, hq, .inr rfl⟩))
    have ne : ∀ {a b : Nat} {o : Obj}, s.heap.get? a = some o → s.heap.get? b = none → a ≠ b := fun e n q => by subst q; rw [n] at e; cases e
    exact ⟨ne e1 g1, ne e1 g2, ne e2 g1, ne e2 g2⟩
  · rcases List.mem_append.mp hq with w | w
    · exact R.mods q w
    · rw [List.mem_singleton.mp w]; exact m1

theorem Rel.newList (R : Rel c ws σ s) {l : List V} {vs : List Value} (r : RVs c.P ws s.heap l vs) (t : Nat) (hm : s.heap.objs.size ≠ sysModules) :
    Rel c (ws.grow (s.heap.objs.size, s.heap.objs.size)) (σ ++ [.list l]) { s with heap := s.heap.push (listObj vs 0), toks := t } ∧
    Ext [] ws s.heap (ws.grow (s.heap.objs.size, s.heap.objs.size)) (s.heap.push (listObj vs 0)) :=
  R.newCell (p := (s.heap.objs.size, s.heap.objs.size)) (o := .list l) (h' := s.heap.push (listObj vs 0)) (fun a o e => Heap.get?_push_of_some _ e) (get_size _) (get_size _)
    ⟨_, Heap.get?_push_size _ rfl⟩ ⟨_, Heap.get?_push_size _ rfl⟩ hm (fun E => ⟨vs, 0, Heap.get?_push_size _ rfl, rfl, r.mono (E.step (by simp))⟩) t

/-- a cell of the store turns -/
theorem Rel.cellTurn (R : Rel c ws σ s) {k : Nat} {p : Nat × Nat} {o' : O} {h' : Heap} (hk : ws.cs[k]? = some p) (keep : ∀ (a : Nat) o, s.heap.get? a = some o → a ≠ p.1 → a ≠ p.2 → h'.get? a = some o)
    (there : ∀ (a : Nat) o, s.heap.get? a = some o → ∃ o', h'.get? a = some o')
    (ro : Step ws s.heap ws h' → RO c ws h' p o') (t : Nat) : Rel c ws (σ.set k o') { s with heap := h', toks := t } ∧ Ext [] ws s.heap ws h' := by
  have m := Ws.at_adr hk
  have E : Ext [] ws s.heap ws h' := ⟨rfl, ⟨[], by simp, by simp⟩, fun a o e _ na => keep a o e (fun q => na (q ▸ m.1)) (fun q => na (q ▸ m.2)), there⟩
  have S := E.step (by simp)
  refine ⟨⟨fun a o e => ?_, R.gens, R.os, by simp [R.len], fun j o q h1 h2 => ?_, fun a h => let ⟨o, e⟩ := R.there a h; there a o e, R.fresh, R.apart, R.dist, R.mods⟩, E⟩
  · refine keep a o (R.base a o e) (fun q => ?_) fun q => ?_
    · have := R.fresh a (.inr (q ▸ m.1)); rw [e] at this; cases this
    · have := R.fresh a (.inr (q ▸ m.2)); rw [e] at this; cases this
  · by_cases hj : j = k
    · subst hj
      rw [hk] at h2; cases h2
      have : j < σ.length := by rw [R.len]; exact (List.getElem?_eq_some_iff.mp hk).1
      rw [List.getElem?_set_self this] at h1
      cases h1
      exact ro S
    · rw [List.getElem?_set_ne (Ne.symm hj)] at h1
      have dist : q.1 ≠ p.1 ∧ q.1 ≠ p.2 ∧ q.2 ≠ p.1 ∧ q.2 ≠ p.2 := by
        obtain ⟨lj, ej⟩ := List.getElem?_eq_some_iff.mp h2
        obtain ⟨lk, ek⟩ := List.getElem?_eq_some_iff.mp hk
        have pw := List.pairwise_iff_getElem.mp R.dist
        rcases Nat.lt_or_gt_of_ne hj with l | l
        · have := pw j k lj lk l; rw [ej, ek] at this; exact this
        · have := pw k j lk lj l; rw [ej, ek] at this; exact ⟨this.1.symm, this.2.2.1.symm, this.2.1.symm, this.2.2.2.symm⟩
      refine (R.objs j o q h1 h2).same S fun a o w e => ?_
      rcases w with w | w
      · subst w; exact keep _ o e dist.1 dist.2.1
      · subst w; exact keep _ o e dist.2.2.1 dist.2.2.2

/-- more that is hot -/
def Ws.heat (ws : Ws) (a : Nat) : Ws := ⟨a :: ws.hot, ws.cs⟩
theorem Ws.heat_adr (ws : Ws) (a : Nat) : (ws.heat a).adr = ws.adr := rfl
theorem heat_step {h h' : Heap} (ws : Ws) {a : Nat} (ha : h.get? a = none) (keep : ∀ (b : Nat) o, h.get? b = some o → h'.get? b = some o) : Step ws h (ws.heat a) h' :=
  ⟨fun b o e f => ⟨keep b o e, fun m => by
    rcases List.mem_cons.mp m with m | m
    · subst m; rw [ha] at e; cases e
    · exact f.1 m, f.2⟩, fun _ _ e => e⟩
theorem cool_step (ws : Ws) (a : Nat) (h : Heap) : Step (ws.heat a) h ws h := ⟨fun b o e f => ⟨e, fun m => f.1 (.tail _ m), f.2⟩, fun _ _ e => e⟩
theorem Rel.heat (R : Rel c ws σ s) {h' : Heap} {a : Nat} (g : s.heap.get? a = none) (l : ∃ o, h'.get? a = some o) (keep : ∀ (b : Nat) o, s.heap.get? b = some o → h'.get? b = some o) (t : Nat) :
    Rel c (ws.heat a) σ { s with heap := h', toks := t } := by
  have R' := R.more t keep
  refine ⟨R'.base, R'.gens, R'.os, R'.len, fun k o p h1 h2 => (R.objs k o p h1 h2).same (heat_step ws g keep) fun a o _ e => keep a o e, fun b h => ?_, fun b h => ?_, fun b h => ?_, R'.dist, R'.mods⟩
  · rcases h with h | h
    · rcases List.mem_cons.mp h with h | h
      · subst h; exact l
      · exact R'.there b (.inl h)
    · exact R'.there b (.inr h)
  · rcases h with h | h
    · rcases List.mem_cons.mp h with h | h
      · subst h; exact R.none₀ g
      · exact R'.fresh b (.inl h)
    · exact R'.fresh b (.inr h)
  · intro m
    rcases List.mem_cons.mp h with h | h
    · subst h
      obtain ⟨o, e⟩ := R.there b (.inr m)
      rw [g] at e; cases e
    · exact R'.apart b h m
theorem Rel.cool {a : Nat} (R : Rel c (ws.heat a) σ s) : Rel c ws σ s := by
  refine ⟨R.base, R.gens, R.os, R.len, fun k o p h1 h2 => (R.objs k o p h1 h2).same (cool_step ws a s.heap) fun _ _ _ e => e, fun b h => R.there b (h.imp (fun x => .tail _ x) id), fun b h => R.fresh b (h.imp (fun x => .tail _ x) id), fun b h => R.apart b (.tail _ h), R.dist, R.mods⟩
theorem Ext.cool {own : List Nat} {ws ws' : Ws} {h h₁ h' : Heap} {a : Nat} (ha : h.get? a = none) (keep : ∀ (b : Nat) o, h.get? b = some o → h₁.get? b = some o) (E : Ext (a :: own) (ws.heat a) h₁ ws' h') :
    ws' = (⟨ws.hot, ws'.cs⟩ : Ws).heat a ∧ Ext own ws h ⟨ws.hot, ws'.cs⟩ h' := by
  have E' := E
  obtain ⟨e1, ⟨more, e2, m⟩, k, l⟩ := E
  have back : ∀ b, h₁.get? b = none → h.get? b = none := fun b e => by
    cases q : h.get? b with
    | none => rfl
    | some o => have := keep b o q; rw [e] at this; cases this
  refine ⟨by cases ws'; simp only [Ws.heat] at e1 ⊢; rw [e1], rfl, ⟨more, e2, fun p hp => ?_⟩, fun b o e no na => k b o (keep b o e) (fun q => ?_) na, fun b o e => l b o (keep b o e)⟩
  · have := m p hp; exact ⟨back _ this.1, back _ this.2⟩
  · rcases List.mem_cons.mp q with q | q
    · subst q; rw [ha] at e; cases e
    · exact no q
end

/-! ## What holds no reference to the store's last cells outlives them -/
mutual
def V.und (n : Nat) : V → Bool
  | .ref k => decide (k < n)
  | .tup l => unds n l
  | .lst l => unds n l
  | .arr l => unds n l
  | .obj _ as => undAs n as
  | .none => true
  | .bool _ => true
  | .int _ => true
  | .str _ => true
  | .bytes _ => true
  | .con _ => true
  | .rng _ _ => true
  | .sli _ _ _ => true
  | .bm _ k => decide (k < n)
def unds (n : Nat) : List V → Bool
  | [] => true
  | v :: l => v.und n && unds n l
def undAs (n : Nat) : List (Str × V) → Bool
  | [] => true
  | (_, v) :: l => v.und n && undAs n l
end
structure Shr (n : Nat) (ws : Ws) (h : Heap) (ws' : Ws) (h' : Heap) : Prop where
  kept : ∀ a o, h.get? a = some o → Fz ws a → h'.get? a = some o ∧ Fz ws' a
  cs : ∀ (k : Nat) (p : Nat × Nat), k < n → ws.cs[k]? = some p → ws'.cs[k]? = some p
section
variable {P : Params} {ws ws' : Ws} {h h' : Heap} {n : Nat}
mutual
theorem RV.shr (S : Shr n ws h ws' h') : ∀ {v : V} {x : Value}, RV P ws h v x → v.und n = true → RV P ws' h' v x
  | _, _, .none, _ => .none
  | _, _, .bool b, _ => .bool b
  | _, _, .int i t, _ => .int i t
  | _, _, .str x t, _ => .str x t
  | _, _, .bytes b t, _ => .bytes b t
  | _, _, .con v, _ => .con v
  | _, _, .ref k p e, q => .ref k p (S.cs k p (by simpa [V.und] using q) e)
  | _, _, .tup l a vs n f e r, q => .tup l a vs n (S.kept _ _ e f).2 (S.kept _ _ e f).1 (RVs.shr S r (by simpa [V.und] using q))
  | _, _, .lst l a vs n f e r, q => .lst l a vs n (S.kept _ _ e f).2 (S.kept _ _ e f).1 (RVs.shr S r (by simpa [V.und] using q))
  | _, _, .arr l a vs f e r, q => let ⟨o, e1, e2⟩ := e; .arr l a vs (S.kept _ _ e1 f).2 ⟨o, (S.kept _ _ e1 f).1, e2⟩ (RVs.shr S r (by simpa [V.und] using q))
  | _, _, .obj C as a d des n f g e i r, q => .obj C as a d des n (S.kept _ _ e f).2 (S.kept _ _ i g).2 (S.kept _ _ e f).1 (S.kept _ _ i g).1 (RAs.shr S r (by simpa [V.und] using q))
  | _, _, .rng a b r t u v f e, _ => .rng a b r t u v (S.kept _ _ e f).2 (S.kept _ _ e f).1
  | _, _, .sli l u s a f e, _ => let ⟨o, e1, e2⟩ := e; .sli l u s a (S.kept _ _ e1 f).2 ⟨o, (S.kept _ _ e1 f).1, e2⟩
  | _, _, .bm f k p w e g i, q => .bm f k p w (S.cs k p (by simpa [V.und] using q) e) (S.kept _ _ i g).2 (S.kept _ _ i g).1
theorem RVs.shr (S : Shr n ws h ws' h') : ∀ {l : List V} {xs : List Value}, RVs P ws h l xs → unds n l = true → RVs P ws' h' l xs
  | _, _, .nil, _ => .nil
  | _, _, .cons v x l xs a r, q => by
    have q' : v.und n = true ∧ unds n l = true := by simpa [unds] using q
    exact .cons v x l xs (RV.shr S a q'.1) (RVs.shr S r q'.2)
theorem RAs.shr (S : Shr n ws h ws' h') : ∀ {l : List (Str × V)} {es : List DictEntry}, RAs P ws h l es → undAs n l = true → RAs P ws' h' l es
  | _, _, .nil, _ => .nil
  | _, _, .cons x t v y l es a r, q => by
    have q' : v.und n = true ∧ undAs n l = true := by simpa [undAs] using q
    exact .cons x t v y l es (RV.shr S a q'.1) (RAs.shr S r q'.2)
end
end
theorem drop_shr (ws : Ws) (p : Nat × Nat) (h : Heap) : Shr ws.cs.length (ws.grow p) h ws h :=
  ⟨fun a o e f => ⟨e, f.1, fun m => f.2 (Ws.grow_adr.mpr (.inl m))⟩, fun k q l e => by
    have e' : (ws.cs ++ [p])[k]? = some q := e
    rwa [List.getElem?_append_left l] at e'⟩
def undEs {κ : Type} (n : Nat) (es : List (κ × V)) : Bool := es.all fun x => x.2.und n
def O.und (n : Nat) : O → Bool
  | .list l => unds n l
  | .arr l => unds n l
  | .sdict es => undEs n es
  | .idict es => undEs n es
  | .inst _ as => undAs n as
  | .kdict es _ => undEs n es
section
variable {c : Cx} {ws : Ws} {σ : List O} {s : Shared}
theorem RKs.shr {κ : Type} {n : Nat} {P : Params} {ws ws' : Ws} {h h' : Heap} (S : Shr n ws h ws' h') : ∀ {l : List (κ × V)} {es : List (κ × Value)}, RKs P ws h l es → undEs n l = true → RKs P ws' h' l es
  | [], [], _, _ => trivial
  | (k, v) :: l, (k', x) :: es, ⟨a, b, r⟩, q => by
    have q' : v.und n = true ∧ undEs n l = true := by simpa [undEs] using q
    exact ⟨a, b.shr S q'.1, RKs.shr S r q'.2⟩
theorem RO.shr {n : Nat} {ws ws' : Ws} {h : Heap} {p : Nat × Nat} (S : Shr n ws h ws' h) : ∀ {o : O}, RO c ws h p o → o.und n = true → RO c ws' h p o
  | .list l, ⟨vs, n, a, b, r⟩, q => ⟨vs, n, a, b, r.shr S q⟩
  | .arr l, ⟨vs, a, b, r⟩, q => ⟨vs, a, b, r.shr S q⟩
  | .sdict es, ⟨kvs, a, b, r⟩, q => ⟨kvs, a, b, r.shr S q⟩
  | .idict es, ⟨kvs, a, b, r⟩, q => ⟨kvs, a, b, r.shr S q⟩
  | .kdict es ep, ⟨kvs, a, b, r⟩, q => ⟨kvs, a, b, r.shr S q⟩
  | .inst C as, ⟨des, n, a, b, r⟩, q => ⟨des, n, a, b, r.shr S q⟩
def closed (σ : List O) : Bool := σ.all fun o => o.und σ.length
/-- the last cell is forgotten -/
theorem Rel.drop {p : Nat × Nat} {o : O} (R : Rel c (ws.grow p) (σ ++ [o]) s) (fl : closed σ = true) : Rel c ws σ s ∧ Fz ws p.1 ∧ Fz ws p.2 := by
  have hl : σ.length = ws.cs.length := by
    have := R.len
    simp [Ws.grow] at this
    exact this
  refine ⟨⟨R.base, R.gens, R.os, hl, fun k o' q h1 h2 => ?_, fun a h => R.there a (h.imp id fun x => Ws.grow_adr.mpr (.inl x)), fun a h => R.fresh a (h.imp id fun x => Ws.grow_adr.mpr (.inl x)), fun a h m => R.apart a h (Ws.grow_adr.mpr (.inl m)), (List.pairwise_append.mp R.dist).1, fun q hq => R.mods q (List.mem_append_left _ hq)⟩, ?_, ?_⟩
  · have h1' : (σ ++ [o])[k]? = some o' := by rw [List.getElem?_append_left (List.getElem?_eq_some_iff.mp h1).1]; exact h1
    have h2' : (ws.grow p).cs[k]? = some q := by
      show (ws.cs ++ [p])[k]? = some q
      rw [List.getElem?_append_left (List.getElem?_eq_some_iff.mp h2).1]; exact h2
    have b : o'.und ws.cs.length = true := by
      rw [← hl]
      exact List.all_eq_true.mp fl o' (List.mem_of_getElem? h1)
    exact RO.shr (drop_shr ws p s.heap) (R.objs k o' q h1' h2') b
  all_goals
    refine ⟨fun m => R.apart _ m (Ws.grow_adr.mpr (.inr (by simp))), fun m => ?_⟩
    obtain ⟨q, hq, e⟩ := Ws.mem_adr.mp m
    have d := (List.pairwise_append.mp R.dist).2.2 q hq p (by simp)
    rcases e with e | e
    · first | exact d.1 e.symm | exact d.2.1 e.symm
    · first | exact d.2.2.1 e.symm | exact d.2.2.2 e.symm
end

/-! ## Frames and judgements -/
structure Fm where
  env : Env
  own : List Nat
abbrev Ρ := List (String × V)
structure Loc (c : Cx) (fm : Fm) (ws : Ws) (ρ : Ρ) (h : Heap) : Prop where
  kind : fm.env.scope.kind = .function
  glob : fm.env.globals = mainGlobals
  blt : fm.env.builtins = builtinsNs
  mem : fm.env.locals ∈ fm.own
  sub : ∀ a ∈ fm.own, a ∈ ws.hot
  ns : ∃ m, h.Ns fm.env.locals m ∧ ∀ (x : String) v, ρ.lookup x = some v → fm.env.kindOf (Str.ofString x) = some .local → ∃ val, m (Str.ofString x) = some val ∧ RV c.P ws h v val
  cel : ∀ (x : String) v, ρ.lookup x = some v → fm.env.kindOf (Str.ofString x) = some .local ∨
    ((fm.env.kindOf (Str.ofString x) = some .cell ∨ fm.env.kindOf (Str.ofString x) = some .free) ∧ ∃ ca val, fm.env.cells.lookup (Str.ofString x) = some ca ∧ h.IsCell ca (some val) ∧ RV c.P ws h v val)
  cells : ∀ x ca, fm.env.cells.lookup x = some ca → ca ∈ ws.hot ∧ ca ≠ fm.env.locals ∧ ∃ v, h.IsCell ca v
  cne : ∀ x y ca, fm.env.cells.lookup x = some ca → fm.env.cells.lookup y = some ca → x = y

theorem Loc.mono {c : Cx} {fm : Fm} {ws ws' : Ws} {ρ : Ρ} {h h' : Heap} (L : Loc c fm ws ρ h) (S : Step ws h ws' h') (hot : ∀ a ∈ ws.hot, a ∈ ws'.hot) (keep : ∀ a o, h.get? a = some o → a = fm.env.locals ∨ (∃ x, fm.env.cells.lookup x = some a) → h'.get? a = some o) : Loc c fm ws' ρ h' := by
  obtain ⟨m, hn, hm⟩ := L.ns
  have cell : ∀ x ca v, fm.env.cells.lookup x = some ca → h.IsCell ca v → h'.IsCell ca v := fun x ca v e ⟨o, ho, hd⟩ => ⟨o, keep _ _ ho (.inr ⟨x, e⟩), hd⟩
  refine ⟨L.kind, L.glob, L.blt, L.mem, fun a h => hot a (L.sub a h), ⟨m, ?_, fun x v e k => let ⟨val, e', r⟩ := hm x v e k; ⟨val, e', r.mono S⟩⟩, fun x v e => ?_, fun x ca e => ?_, L.cne⟩
  · obtain ⟨o, es, ep, ho, r⟩ := hn
    exact ⟨o, es, ep, keep _ _ ho (.inl rfl), r⟩
  · rcases L.cel x v e with k | ⟨k, ca, val, e1, e2, r⟩
    · exact .inl k
    · exact .inr ⟨k, ca, val, e1, cell _ _ _ e1 e2, r.mono S⟩
  · obtain ⟨a, b, v, hv⟩ := L.cells x ca e
    exact ⟨hot _ a, b, v, cell _ _ _ e hv⟩
/-- what a callee leaves of its caller's frame -/
theorem Loc.ext {c : Cx} {fm : Fm} {ws ws' : Ws} {ρ : Ρ} {h' : Heap} {σ : List O} {s : Shared} (L : Loc c fm ws ρ s.heap) (R : Rel c ws σ s) (E : Ext [] ws s.heap ws' h') : Loc c fm ws' ρ h' := by
  refine L.mono (E.step (by simp)) (fun a m => E.hot ▸ m) fun a o e q => E.keep a o e (by simp) fun m => ?_
  rcases q with q | ⟨x, q⟩
  · subst q; exact R.apart _ (L.sub _ L.mem) m
  · exact R.apart _ (L.cells x a q).1 m

structure AOk (A : Around) (n : Nat) : Prop where
  handled : A.handled = none
  depth : A.depth + n ≤ 900
  units : A.units + 10 * n ≤ 9000
theorem AOk.le {A : Around} {n m : Nat} (a : AOk A n) (h : m ≤ n) : AOk A m := ⟨a.handled, by have := a.depth; omega, by have := a.units; omega⟩
theorem AOk.in1 {A : Around} {n : Nat} (a : AOk A (n + 1)) : AOk A.in1 n := ⟨a.handled, by have := a.depth; simp; omega, by have := a.units; simp; omega⟩
theorem AOk.deeper {A : Around} {n : Nat} {env : Env} (a : AOk A (n + 1)) : AOk (A.deeper env) n := ⟨a.handled, by have := a.depth; simp [Around.deeper]; omega, by have := a.units; simp; omega⟩
theorem AOk.room {A : Around} {n : Nat} (a : AOk A n) : A.depth < recursionLimit := by have := a.depth; unfold recursionLimit; omega
theorem AOk.croom {A : Around} {n : Nat} (a : AOk A n) : A.units < cLine := by have := a.units; unfold cLine; omega

def NoE : Value → Shared → Prop := fun _ _ => False
/-- an expression's tree -/
def Ev (c : Cx) (fm : Fm) (A : Around) (t : Sem Value) (ρ : Ρ) (σ : List O) (K : V → List O → Prop) : Prop :=
  ∀ ws s (Q : Value → Shared → Prop), Rel c ws σ s → Loc c fm ws ρ s.heap →
    (∀ ws' s' v val σ', K v σ' → Ext [] ws s.heap ws' s'.heap → Rel c ws' σ' s' → Loc c fm ws' ρ s'.heap → RV c.P ws' s'.heap v val → Q val s') → wpAny (model c.prog c.w) A t Q NoE s
/-- several values -/
def Evs (c : Cx) (fm : Fm) (A : Around) (t : Sem (List Value)) (ρ : Ρ) (σ : List O) (K : List V → List O → Prop) : Prop :=
  ∀ ws s (Q : List Value → Shared → Prop), Rel c ws σ s → Loc c fm ws ρ s.heap →
    (∀ ws' s' vs vals σ', K vs σ' → Ext [] ws s.heap ws' s'.heap → Rel c ws' σ' s' → Loc c fm ws' ρ s'.heap → RVs c.P ws' s'.heap vs vals → Q vals s') → wpAny (model c.prog c.w) A t Q NoE s
/-- a test's tree -/
def Et (c : Cx) (fm : Fm) (A : Around) (t : Sem Bool) (ρ : Ρ) (σ : List O) (K : Bool → List O → Prop) : Prop :=
  ∀ ws s (Q : Bool → Shared → Prop), Rel c ws σ s → Loc c fm ws ρ s.heap →
    (∀ ws' s' b σ', K b σ' → Ext [] ws s.heap ws' s'.heap → Rel c ws' σ' s' → Loc c fm ws' ρ s'.heap → Q b s') → wpAny (model c.prog c.w) A t Q NoE s
inductive FV where
  | next | brk | cont
  | ret (v : V)
inductive RF (P : Params) (ws : Ws) (h : Heap) : FV → Flow → Prop
  | next : RF P ws h .next .next
  | brk : RF P ws h .brk .brk
  | cont : RF P ws h .cont .cont
  | ret (v : V) (x : Value) : RV P ws h v x → RF P ws h (.ret v) (.ret x)
/-- a statement's tree -/
def Ex (c : Cx) (fm : Fm) (A : Around) (t : Sem Flow) (ρ : Ρ) (σ : List O) (K : FV → Ρ → List O → Prop) : Prop :=
  ∀ ws s (Q : Flow → Shared → Prop), Rel c ws σ s → Loc c fm ws ρ s.heap →
    (∀ ws' s' f fl ρ' σ', K f ρ' σ' → Ext fm.own ws s.heap ws' s'.heap → Rel c ws' σ' s' → Loc c fm ws' ρ' s'.heap → RF c.P ws' s'.heap f fl → Q fl s') → wpAny (model c.prog c.w) A t Q NoE s
/-- an operation upon values, no frame in sight -/
def Op (c : Cx) (A : Around) (f : List Value → Sem Value) (vs : List V) (σ : List O) (K : V → List O → Prop) : Prop :=
  ∀ ws s vals (Q : Value → Shared → Prop), Rel c ws σ s → RVs c.P ws s.heap vs vals →
    (∀ ws' s' v val σ', K v σ' → Ext [] ws s.heap ws' s'.heap → Rel c ws' σ' s' → RV c.P ws' s'.heap v val → Q val s') → wpAny (model c.prog c.w) A (f vals) Q NoE s
end Mine
end
section
set_option maxRecDepth 100000
set_option Elab.async false
set_option linter.unusedVariables false
namespace Mine
open PySem PySem.W PySem.Calls PyProof.Rows

section
variable {c : Cx} {fm : Fm} {A : Around} {ρ : Ρ} {σ : List O} {K : V → List O → Prop}

theorem Ext.nil {own : List Nat} {ws ws' : Ws} {h h' : Heap} (x : Ext [] ws h ws' h') : Ext own ws h ws' h' := x.mono (by simp)
theorem Ext.st {ws ws' : Ws} {h h' : Heap} (x : Ext [] ws h ws' h') : Step ws h ws' h' := x.step (by simp)

/-! ## The frame of a walk: facts of the module's names -/
structure Gr (c : Cx) (mg mb : Str → Option Value) : Prop where
  g : c.h₀.Ns mainGlobals mg
  b : c.h₀.Ns builtinsNs mb
  nolimit : c.h₀.NoLimit
  builtins : ∀ x : Str, x ≠ "__name__" → mb x = bootBuiltins x
  X : c.K.In c.h₀
theorem Rel.keeps {ws : Ws} {s : Shared} (R : Rel c ws σ s) : ∀ b o, c.h₀.get? b = some o → s.heap.get? b = some o := R.base

theorem Ev.mono {t : Sem Value} {K' : V → List O → Prop} (h : Ev c fm A t ρ σ K) (k : ∀ v σ, K v σ → K' v σ) : Ev c fm A t ρ σ K' :=
  fun ws s Q R L q => h ws s Q R L fun ws' s' v val σ' kk => q ws' s' v val σ' (k _ _ kk)
theorem Et.mono {t : Sem Bool} {K K' : Bool → List O → Prop} (h : Et c fm A t ρ σ K) (k : ∀ v σ, K v σ → K' v σ) : Et c fm A t ρ σ K' :=
  fun ws s Q R L q => h ws s Q R L fun ws' s' v σ' kk => q ws' s' v σ' (k _ _ kk)

/-- a value at hand -/
theorem Ev.here {t : Sem Value} {v : V} (kv : K v σ) (h : ∀ ws s (Q : Value → Shared → Prop), Rel c ws σ s → Loc c fm ws ρ s.heap → (∀ val, RV c.P ws s.heap v val → ∀ tk, Q val { s with toks := tk }) → wpAny (model c.prog c.w) A t Q NoE s) : Ev c fm A t ρ σ K :=
  fun ws s Q R L q => h ws s Q R L fun val r tk => q ws { s with toks := tk } v val σ kv (.refl ..) (R.tok tk) L r

theorem Ev.name {x : String} {pos : Pos} {v : V} (e : ρ.lookup x = some v) (k : K v σ) (hd : (Str.ofString x == ("__debug__" : Str)) = false := by decide) (hn : (Str.ofString x == ("__classdict__" : Str)) = false := by decide) :
    Ev c fm A (eval (.Name (Str.ofString x) pos) fm.env) ρ σ K := by
  refine Ev.here k fun ws s Q R L q => wpAny_Name ?_ hd
  rcases L.cel x v e with hk | ⟨hk, ca, val, e1, e2, r⟩
  · obtain ⟨m, hn, hm⟩ := L.ns
    obtain ⟨val, e', r⟩ := hm x v e hk
    exact wpAny_loadName_local L.kind hk hn e' (q val r s.toks)
  · rcases hk with hk | hk
    · exact wpAny_loadName_cell L.kind hk e1 e2 (q val r s.toks)
    · exact wpAny_loadName_free L.kind hk e1 e2 (q val r s.toks) hn
theorem Ev.glob {x : Str} {pos : Pos} {w : Value} {mg mb : Str → Option Value} (G : Gr c mg mb) (hk : fm.env.kindOf x = some .globalImplicit) (e : mg x = some w) (k : K (.con w) σ) (hd : (x == ("__debug__" : Str)) = false := by decide) :
    Ev c fm A (eval (.Name x pos) fm.env) ρ σ K := by
  refine Ev.here k fun ws s Q R L q => ?_
  exact Name_function_global L.kind hk (loadGlobal_global (by rw [L.glob]; exact G.g.keeps R.keeps) e (q w (.con w) s.toks)) hd
theorem Ev.blt {x : Str} {pos : Pos} {w : Value} {mg mb : Str → Option Value} (G : Gr c mg mb) (hk : fm.env.kindOf x = some .globalImplicit) (e : mg x = none) (e' : bootBuiltins x = some w) (k : K (.con w) σ)
    (hd : (x == ("__debug__" : Str)) = false := by decide) (hn : x ≠ "__name__" := by decide) : Ev c fm A (eval (.Name x pos) fm.env) ρ σ K := by
  refine Ev.here k fun ws s Q R L q => ?_
  exact Name_function_global L.kind hk (loadGlobal_builtin (by rw [L.glob]; exact G.g.keeps R.keeps) e (by rw [L.blt]; exact G.b.keeps R.keeps) ((G.builtins x hn).trans e') (q w (.con w) s.toks)) hd

theorem Ev.int {i : Int} {k pos} (h : K (.int i) σ) : Ev c fm A (eval (.Constant (.int i) k pos) fm.env) ρ σ K :=
  Ev.here h fun ws s Q R L q => wpAny_Constant_int (q _ (.int i _) _)
theorem Ev.str {x : Str} {k pos} (h : K (.str x) σ) : Ev c fm A (eval (.Constant (.str x) k pos) fm.env) ρ σ K :=
  Ev.here h fun ws s Q R L q => wpAny_Constant_str (q _ (.str x _) _)
theorem Ev.bool {b : Bool} {k pos} (h : K (.bool b) σ) : Ev c fm A (eval (.Constant (.bool b) k pos) fm.env) ρ σ K :=
  Ev.here h fun ws s Q R L q => wpAny_Constant_bool (q _ (.bool b) s.toks)
theorem Ev.none {k pos} (h : K .none σ) : Ev c fm A (eval (.Constant .none k pos) fm.env) ρ σ K :=
  Ev.here h fun ws s Q R L q => wpAny_Constant_none (q _ .none s.toks)

/-! ## Operations upon values -/
def Op1 (c : Cx) (A : Around) (f : Value → Sem Value) (a : V) (σ : List O) (K : V → List O → Prop) : Prop :=
  ∀ ws s va (Q : Value → Shared → Prop), Rel c ws σ s → RV c.P ws s.heap a va →
    (∀ ws' s' v val σ', K v σ' → Ext [] ws s.heap ws' s'.heap → Rel c ws' σ' s' → RV c.P ws' s'.heap v val → Q val s') → wpAny (model c.prog c.w) A (f va) Q NoE s
def Op2 (c : Cx) (A : Around) (f : Value → Value → Sem Value) (a b : V) (σ : List O) (K : V → List O → Prop) : Prop :=
  ∀ ws s va vb (Q : Value → Shared → Prop), Rel c ws σ s → RV c.P ws s.heap a va → RV c.P ws s.heap b vb →
    (∀ ws' s' v val σ', K v σ' → Ext [] ws s.heap ws' s'.heap → Rel c ws' σ' s' → RV c.P ws' s'.heap v val → Q val s') → wpAny (model c.prog c.w) A (f va vb) Q NoE s
/-- a value's truth -/
def Ot1 (c : Cx) (A : Around) (a : V) (σ : List O) (K : Bool → List O → Prop) : Prop :=
  ∀ ws s va (Q : Bool → Shared → Prop), Rel c ws σ s → RV c.P ws s.heap a va → (∀ s' b, K b σ → s'.heap = s.heap → Rel c ws σ s' → Q b s') → wpAny (model c.prog c.w) A (truthy va) Q NoE s

theorem Op1.mono {f : Value → Sem Value} {a : V} {K' : V → List O → Prop} (h : Op1 c A f a σ K) (k : ∀ v σ, K v σ → K' v σ) : Op1 c A f a σ K' :=
  fun ws s va Q R r q => h ws s va Q R r fun ws' s' v val σ' kk => q ws' s' v val σ' (k _ _ kk)
theorem Op2.mono {f : Value → Value → Sem Value} {a b : V} {K' : V → List O → Prop} (h : Op2 c A f a b σ K) (k : ∀ v σ, K v σ → K' v σ) : Op2 c A f a b σ K' :=
  fun ws s va vb Q R r r' q => h ws s va vb Q R r r' fun ws' s' v val σ' kk => q ws' s' v val σ' (k _ _ kk)

theorem Ev.op1 {t : Sem Value} {f : Value → Sem Value} {t' : Sem Value} (h : Ev c fm A t ρ σ fun a σ₁ => Op1 c A f a σ₁ K)
    (e : ∀ s (Q : Value → Shared → Prop), wpAny (model c.prog c.w) A t (fun a s₁ => wpAny (model c.prog c.w) A (f a) Q NoE s₁) NoE s → wpAny (model c.prog c.w) A t' Q NoE s) : Ev c fm A t' ρ σ K := by
  intro ws s Q R L q
  refine e s Q (h ws s _ R L fun ws₁ s₁ a va σ₁ k₁ E₁ R₁ L₁ r₁ => ?_)
  exact k₁ ws₁ s₁ va Q R₁ r₁ fun ws' s' v val σ' k E R' r => q ws' s' v val σ' k (E₁.trans E) R' (L₁.ext R₁ E) r
theorem Ev.op2 {t u : Sem Value} {f : Value → Value → Sem Value} {t' : Sem Value} (h : Ev c fm A t ρ σ fun a σ₁ => Ev c fm A u ρ σ₁ fun b σ₂ => Op2 c A f a b σ₂ K)
    (e : ∀ s (Q : Value → Shared → Prop), wpAny (model c.prog c.w) A t (fun a s₁ => wpAny (model c.prog c.w) A u (fun b s₂ => wpAny (model c.prog c.w) A (f a b) Q NoE s₂) NoE s₁) NoE s → wpAny (model c.prog c.w) A t' Q NoE s) : Ev c fm A t' ρ σ K := by
  intro ws s Q R L q
  refine e s Q (h ws s _ R L fun ws₁ s₁ a va σ₁ k₁ E₁ R₁ L₁ r₁ => ?_)
  refine k₁ ws₁ s₁ _ R₁ L₁ fun ws₂ s₂ b vb σ₂ k₂ E₂ R₂ L₂ r₂ => ?_
  exact k₂ ws₂ s₂ va vb Q R₂ (r₁.mono E₂.st) r₂ fun ws' s' v val σ' k E R' r => q ws' s' v val σ' k ((E₁.trans E₂).trans E) R' (L₂.ext R₂ E) r

theorem Ev.bin {l r : Expr} {op : Operator} {pos : Pos} (h : Ev c fm A (eval l fm.env) ρ σ fun a σ₁ => Ev c fm A (eval r fm.env) ρ σ₁ fun b σ₂ => Op2 c A (binaryOp op) a b σ₂ K) :
    Ev c fm A (eval (.BinOp l op r pos) fm.env) ρ σ K := Ev.op2 h fun s Q x => wpAny_BinOp x
theorem Ev.cmp {l r : Expr} {op : CmpOp} {pos : Pos} (h : Ev c fm A (eval l fm.env) ρ σ fun a σ₁ => Ev c fm A (eval r fm.env) ρ σ₁ fun b σ₂ => Op2 c A (compareOp op) a b σ₂ K)
    (hm : behindInMarks op r = false := by with_unfolding_all rfl) : Ev c fm A (eval (.Compare l [op] [r] pos) fm.env) ρ σ K := Ev.op2 h fun s Q x => wpAny_Compare1 x hm
theorem Ev.un {x : Expr} {op : UnaryOp} {pos : Pos} (h : Ev c fm A (eval x fm.env) ρ σ fun a σ₁ => Op1 c A (unaryOp op) a σ₁ K) : Ev c fm A (eval (.UnaryOp op x pos) fm.env) ρ σ K := Ev.op1 h fun s Q x => wpAny_UnaryOp x
theorem Ev.ifexp {t b o : Expr} {pos : Pos} (h : Et c fm A (isTrue t fm.env (eval t fm.env)) ρ σ fun x σ₁ => if x then Ev c fm A (eval b fm.env) ρ σ₁ K else Ev c fm A (eval o fm.env) ρ σ₁ K) :
    Ev c fm A (eval (.IfExp t b o pos) fm.env) ρ σ K := by
  intro ws s Q R L q
  refine wpAny_IfExp (h ws s _ R L fun ws₁ s₁ x σ₁ k₁ E₁ R₁ L₁ => ?_)
  cases x with
  | true => exact k₁ ws₁ s₁ Q R₁ L₁ fun ws' s' v val σ' k E R' L' r => q ws' s' v val σ' k (E₁.trans E) R' L' r
  | false => exact k₁ ws₁ s₁ Q R₁ L₁ fun ws' s' v val σ' k E R' L' r => q ws' s' v val σ' k (E₁.trans E) R' L' r

/-! ## Tests -/
variable {KB : Bool → List O → Prop}
theorem Et.cmp {l r : Expr} {op : CmpOp} {pos : Pos} {whole : Sem Value} (h : Ev c fm A (eval l fm.env) ρ σ fun a σ₁ => Ev c fm A (eval r fm.env) ρ σ₁ fun b σ₂ => Op2 c A (compareOp op) a b σ₂ fun v σ₃ => Ot1 c A v σ₃ KB)
    (hm : behindInMarks op r = false := by with_unfolding_all rfl) : Et c fm A (isTrue (.Compare l [op] [r] pos) fm.env whole) ρ σ KB := by
  intro ws s Q R L q
  refine wpAny_isTrue_Compare1 (h ws s _ R L fun ws₁ s₁ a va σ₁ k₁ E₁ R₁ L₁ r₁ => ?_) hm
  refine k₁ ws₁ s₁ _ R₁ L₁ fun ws₂ s₂ b vb σ₂ k₂ E₂ R₂ L₂ r₂ => ?_
  refine k₂ ws₂ s₂ va vb _ R₂ (r₁.mono E₂.st) r₂ fun ws₃ s₃ v val σ₃ k₃ E₃ R₃ r₃ => ?_
  refine k₃ ws₃ s₃ val Q R₃ r₃ fun s' x kx e R' => ?_
  have E : Ext [] ws s.heap ws₃ s'.heap := by rw [e]; exact (E₁.trans E₂).trans E₃
  exact q ws₃ s' x σ₃ kx E R' (by rw [e]; exact L₂.ext R₂ E₃)
theorem Et.val {e : Expr} {whole : Sem Value} (h : Ev c fm A whole ρ σ fun v σ₃ => Ot1 c A v σ₃ KB)
    (he : isTrue e fm.env whole = (do let v ← whole; standAt e.pos; holding [v] (truthy v)) := by rfl) : Et c fm A (isTrue e fm.env whole) ρ σ KB := by
  intro ws s Q R L q
  refine isTrue_plain (h ws s _ R L fun ws₁ s₁ v val σ₁ k₁ E₁ R₁ L₁ r₁ => ?_) he
  refine k₁ ws₁ s₁ val Q R₁ r₁ fun s' x kx e R' => ?_
  exact q ws₁ s' x σ₁ kx (by rw [e]; exact E₁) R' (by rw [e]; exact L₁)
theorem Et.not {x : Expr} {pos : Pos} {whole : Sem Value} (h : Et c fm A (isTrue x fm.env (eval x fm.env)) ρ σ fun b σ₁ => KB (!b) σ₁) : Et c fm A (isTrue (.UnaryOp .Not x pos) fm.env whole) ρ σ KB := by
  intro ws s Q R L q
  exact isTrue_not (h ws s _ R L fun ws₁ s₁ b σ₁ k₁ E₁ R₁ L₁ => q ws₁ s₁ (!b) σ₁ k₁ E₁ R₁ L₁)
theorem Et.and2 {x y : Expr} {pos : Pos} {whole : Sem Value} (h : Et c fm A (isTrue x fm.env (eval x fm.env)) ρ σ fun b σ₁ => if b then Et c fm A (isTrue y fm.env (eval y fm.env)) ρ σ₁ KB else KB false σ₁) :
    Et c fm A (isTrue (.BoolOp .And [x, y] pos) fm.env whole) ρ σ KB := by
  intro ws s Q R L q
  refine isTrue_and (h ws s _ R L fun ws₁ s₁ b σ₁ k₁ E₁ R₁ L₁ => ?_)
  cases b with
  | false => exact q ws₁ s₁ false σ₁ k₁ E₁ R₁ L₁
  | true =>
    refine isTrue_and (k₁ ws₁ s₁ _ R₁ L₁ fun ws₂ s₂ b σ₂ k₂ E₂ R₂ L₂ => ?_)
    cases b with
    | false => exact q ws₂ s₂ false σ₂ k₂ (E₁.trans E₂) R₂ L₂
    | true => exact isTrue_and_nil (q ws₂ s₂ true σ₂ k₂ (E₁.trans E₂) R₂ L₂)
theorem Et.or2 {x y : Expr} {pos : Pos} {whole : Sem Value} (h : Et c fm A (isTrue x fm.env (eval x fm.env)) ρ σ fun b σ₁ => if b then KB true σ₁ else Et c fm A (isTrue y fm.env (eval y fm.env)) ρ σ₁ KB) :
    Et c fm A (isTrue (.BoolOp .Or [x, y] pos) fm.env whole) ρ σ KB := by
  intro ws s Q R L q
  refine isTrue_or (h ws s _ R L fun ws₁ s₁ b σ₁ k₁ E₁ R₁ L₁ => ?_)
  cases b with
  | true => exact q ws₁ s₁ true σ₁ k₁ E₁ R₁ L₁
  | false =>
    refine isTrue_or (k₁ ws₁ s₁ _ R₁ L₁ fun ws₂ s₂ b σ₂ k₂ E₂ R₂ L₂ => ?_)
    cases b with
    | true => exact q ws₂ s₂ true σ₂ k₂ (E₁.trans E₂) R₂ L₂
    | false => exact isTrue_or_nil (q ws₂ s₂ false σ₂ k₂ (E₁.trans E₂) R₂ L₂)

/-! ## Displays -/
variable {KS : List V → List O → Prop}
theorem Evs.nil {pos : Pos} (h : KS [] σ) : Evs c fm A (spliced (backTo pos (starEach [] fm.env))) ρ σ KS :=
  fun ws s Q R L q => wpAny_items_nil (q ws s [] [] σ h (.refl ..) R L .nil)
theorem Evs.cons {pos : Pos} {e : Expr} {rest : List Expr} (h : Ev c fm A (eval e fm.env) ρ σ fun v σ₁ => Evs c fm A (spliced (backTo pos (starEach rest fm.env))) ρ σ₁ fun vs σ₂ => KS (v :: vs) σ₂)
    (he : starEach (e :: rest) fm.env = (false, eval e fm.env) :: starEach rest fm.env := by rfl) : Evs c fm A (spliced (backTo pos (starEach (e :: rest) fm.env))) ρ σ KS := by
  intro ws s Q R L q
  refine wpAny_items_cons (h ws s _ R L fun ws₁ s₁ v val σ₁ k₁ E₁ R₁ L₁ r₁ => ?_) he
  refine k₁ ws₁ s₁ _ R₁ L₁ fun ws₂ s₂ vs vals σ₂ k₂ E₂ R₂ L₂ r₂ => ?_
  exact q ws₂ s₂ (v :: vs) (val :: vals) σ₂ k₂ (E₁.trans E₂) R₂ L₂ (.cons _ _ _ _ (r₁.mono E₂.st) r₂)
theorem Rel.newTup {ws : Ws} {s : Shared} (R : Rel c ws σ s) {l : List V} {vs : List Value} (r : RVs c.P ws s.heap l vs) :
    RV c.P ws (s.heap.push (tupObj vs 0)) (.tup l) (.ref s.heap.objs.size) :=
  .tup l _ vs 0 (R.fz (get_size _)) (Heap.get?_push_size _ rfl) (r.mono (Ext.push [] ws s.heap _).st)
theorem Rel.newLst {ws : Ws} {s : Shared} (R : Rel c ws σ s) {l : List V} {vs : List Value} (r : RVs c.P ws s.heap l vs) :
    RV c.P ws (s.heap.push (listObj vs 0)) (.lst l) (.ref s.heap.objs.size) :=
  .lst l _ vs 0 (R.fz (get_size _)) (Heap.get?_push_size _ rfl) (r.mono (Ext.push [] ws s.heap _).st)
theorem Ev.tup {elts : List Expr} {k : Nat} {pos : Pos} (h : Evs c fm A (spliced (backTo pos (starEach elts fm.env))) ρ σ fun vs σ₁ => vs.length ≤ 1000000 ∧ K (.tup vs) σ₁) :
    Ev c fm A (eval (.Tuple elts k pos) fm.env) ρ σ K := by
  intro ws s Q R L q
  refine wpAny_Tuple (h ws s _ R L fun ws₁ s₁ vs vals σ₁ k₁ E₁ R₁ L₁ r₁ => ⟨by rw [← r₁.length, sizeLine_eq]; have := k₁.1; omega, ?_⟩)
  have P := Ext.push [] ws₁ s₁.heap (tupObj vals 0)
  exact q ws₁ _ (.tup vs) _ σ₁ k₁.2 (E₁.trans P) (R₁.push _ _) (L₁.ext R₁ P) (R₁.newTup r₁)
/-- a list that is never turned again -/
theorem Ev.lst {elts : List Expr} {pos : Pos} (h : Evs c fm A (spliced (backTo pos (starEach elts fm.env))) ρ σ fun vs σ₁ => vs.length ≤ 1000000 ∧ K (.lst vs) σ₁) :
    Ev c fm A (eval (.List elts pos) fm.env) ρ σ K := by
  intro ws s Q R L q
  refine wpAny_List (h ws s _ R L fun ws₁ s₁ vs vals σ₁ k₁ E₁ R₁ L₁ r₁ => ⟨by rw [← r₁.length, sizeLine_eq]; have := k₁.1; omega, ?_⟩)
  have P := Ext.push [] ws₁ s₁.heap (listObj vals 0)
  exact q ws₁ _ (.lst vs) _ σ₁ k₁.2 (E₁.trans P) (R₁.push _ _) (L₁.ext R₁ P) (R₁.newLst r₁)
/-- a list that is to be turned -/
theorem Rel.size_ne {mg mb : Str → Option Value} (G : Gr c mg mb) {ws : Ws} {s : Shared} (R : Rel c ws σ s) : s.heap.objs.size ≠ sysModules := by
  have := modules_low (G.nolimit.keeps R.base)
  exact Nat.ne_of_gt this
theorem Ev.list {mg mb : Str → Option Value} (G : Gr c mg mb) {elts : List Expr} {pos : Pos} (h : Evs c fm A (spliced (backTo pos (starEach elts fm.env))) ρ σ fun vs σ₁ => vs.length ≤ 1000000 ∧ K (.ref σ₁.length) (σ₁ ++ [.list vs])) :
    Ev c fm A (eval (.List elts pos) fm.env) ρ σ K := by
  intro ws s Q R L q
  refine wpAny_List (h ws s _ R L fun ws₁ s₁ vs vals σ₁ k₁ E₁ R₁ L₁ r₁ => ⟨by rw [← r₁.length, sizeLine_eq]; have := k₁.1; omega, ?_⟩)
  obtain ⟨R', E'⟩ := R₁.newList r₁ s₁.toks (R₁.size_ne G)
  refine q _ _ (.ref σ₁.length) _ _ k₁.2 (E₁.trans E') R' (L₁.ext R₁ E') ?_
  exact .ref σ₁.length (s₁.heap.objs.size, s₁.heap.objs.size) (by rw [R₁.len]; simp [Ws.grow])
end
end Mine
end
section
set_option maxRecDepth 100000
set_option Elab.async false
set_option linter.unusedVariables false
namespace Mine
open PySem PySem.W PySem.Calls PyProof.Rows

/-! ## Locals -/
def put : Ρ → String → V → Ρ
  | [], x, v => [(x, v)]
  | (y, w) :: r, x, v => if y = x then (x, v) :: r else (y, w) :: put r x v
theorem put_lookup (x : String) (v : V) (y : String) : ∀ ρ : Ρ, (put ρ x v).lookup y = if y = x then some v else ρ.lookup y
  | [] => by
    by_cases h : y = x
    · subst h; simp [put, List.lookup]
    · have : (y == x) = false := beq_eq_false_iff_ne.mpr h
      simp [put, List.lookup, h, this]
  | (z, w) :: r => by
    unfold put
    by_cases hz : z = x
    · subst hz
      rw [if_pos rfl]
      by_cases h : y = z
      · subst h; simp [List.lookup]
      · have : (y == z) = false := beq_eq_false_iff_ne.mpr h
        simp [List.lookup, h, this]
    · rw [if_neg hz]
      by_cases h : y = x
      · subst h
        have : (y == z) = false := beq_eq_false_iff_ne.mpr (Ne.symm hz)
        simp only [List.lookup, this, put_lookup _ _ _ r]
      · by_cases q : y = z
        · subst q; simp [List.lookup, h]
        · have : (y == z) = false := beq_eq_false_iff_ne.mpr q
          simp only [List.lookup, this, put_lookup _ _ _ r, if_neg h]

section
variable {c : Cx} {fm : Fm} {A : Around} {ρ : Ρ} {σ : List O}

def Eu (c : Cx) (fm : Fm) (A : Around) (t : Sem Unit) (ρ : Ρ) (σ : List O) (K : Ρ → List O → Prop) : Prop :=
  ∀ ws s (Q : Unit → Shared → Prop), Rel c ws σ s → Loc c fm ws ρ s.heap →
    (∀ ws' s' ρ' σ', K ρ' σ' → Ext fm.own ws s.heap ws' s'.heap → Rel c ws' σ' s' → Loc c fm ws' ρ' s'.heap → Q () s') → wpAny (model c.prog c.w) A t Q NoE s
/-- a value is stored at a target -/
def As (c : Cx) (fm : Fm) (A : Around) (t : Value → Sem Unit) (v : V) (ρ : Ρ) (σ : List O) (K : Ρ → List O → Prop) : Prop :=
  ∀ ws s val (Q : Unit → Shared → Prop), Rel c ws σ s → Loc c fm ws ρ s.heap → RV c.P ws s.heap v val →
    (∀ ws' s' ρ' σ', K ρ' σ' → Ext fm.own ws s.heap ws' s'.heap → Rel c ws' σ' s' → Loc c fm ws' ρ' s'.heap → Q () s') → wpAny (model c.prog c.w) A (t val) Q NoE s
def Ass (c : Cx) (fm : Fm) (A : Around) (ts : List (Value → Sem Unit)) (vs : List V) (ρ : Ρ) (σ : List O) (K : Ρ → List O → Prop) : Prop :=
  ∀ ws s vals (Q : Unit → Shared → Prop), Rel c ws σ s → Loc c fm ws ρ s.heap → RVs c.P ws s.heap vs vals →
    (∀ ws' s' ρ' σ', K ρ' σ' → Ext fm.own ws s.heap ws' s'.heap → Rel c ws' σ' s' → Loc c fm ws' ρ' s'.heap → Q () s') → wpAny (model c.prog c.w) A (assignInOrder ts vals) Q NoE s

theorem Loc.kindOf (L : Loc c fm ws ρ h) (hk : fm.env.scope.kind = .function) : (fm.env.scope.kind == .class || (fm.env.scope.kind == .module && fm.env.locals != fm.env.globals)) = false := by rw [hk]; rfl

theorem store_local {x : String} {v : V} {KR : Ρ → List O → Prop} (hk : fm.env.kindOf (Str.ofString x) = some .local) (k : KR (put ρ x v) σ) : As c fm A (storeName fm.env (Str.ofString x)) v ρ σ KR := by
  intro ws s val Q R L r q
  obtain ⟨m, hn, hm⟩ := L.ns
  refine wpAny_storeName_local hk hn (fun h' hn' hs => ?_) (by rw [L.kind]; rfl)
  have keep : ∀ (a : Nat) o, s.heap.get? a = some o → a ∉ fm.own → h'.get? a = some o := fun a o e no => (hs.2 a fun q => no (q ▸ L.mem)).trans e
  have there : ∀ (a : Nat) o, s.heap.get? a = some o → ∃ o', h'.get? a = some o' := fun a o e => by
    by_cases q : a = fm.env.locals
    · subst q; obtain ⟨o', _, _, e', _⟩ := hn'; exact ⟨o', e'⟩
    · exact ⟨o, (hs.2 a q).trans e⟩
  have E : Ext fm.own ws s.heap ws h' := ⟨rfl, ⟨[], by simp, by simp⟩, fun a o e no _ => keep a o e no, there⟩
  have S := E.step L.sub
  have cell : ∀ x ca v, fm.env.cells.lookup x = some ca → s.heap.IsCell ca v → h'.IsCell ca v := fun x ca v e ⟨o, ho, hd⟩ => ⟨o, (hs.2 ca (L.cells x ca e).2.1).trans ho, hd⟩
  refine q ws _ _ _ k E (R.turn _ fm.own L.sub keep there) ?_
  refine ⟨L.kind, L.glob, L.blt, L.mem, L.sub, ⟨_, hn', fun y w e ky => ?_⟩, fun y w e => ?_, fun y ca e => ?_, L.cne⟩
  · rw [put_lookup] at e
    by_cases hy : y = x
    · subst hy
      rw [if_pos rfl] at e; cases e
      exact ⟨val, if_pos rfl, r.mono S⟩
    · rw [if_neg hy] at e
      obtain ⟨val', e', r'⟩ := hm y w e ky
      exact ⟨val', by rw [if_neg fun q => hy (ofString_inj q)]; exact e', r'.mono S⟩
  · rw [put_lookup] at e
    by_cases hy : y = x
    · subst hy; exact .inl hk
    · rw [if_neg hy] at e
      rcases L.cel y w e with h | ⟨h, ca, val', e1, e2, r'⟩
      · exact .inl h
      · exact .inr ⟨h, ca, val', e1, cell _ _ _ e1 e2, r'.mono S⟩
  · obtain ⟨a, b, v', h⟩ := L.cells y ca e
    exact ⟨a, b, v', cell _ _ _ e h⟩

theorem store_cell {x : String} {v : V} {ca : Nat} {KR : Ρ → List O → Prop} (hk : fm.env.kindOf (Str.ofString x) = some .cell) (hc : fm.env.cells.lookup (Str.ofString x) = some ca) (ho : ca ∈ fm.own) (k : KR (put ρ x v) σ) :
    As c fm A (storeName fm.env (Str.ofString x)) v ρ σ KR := by
  intro ws s val Q R L r q
  obtain ⟨m, hn, hm⟩ := L.ns
  obtain ⟨v₀, hv₀⟩ := (L.cells _ ca hc).2.2
  refine wpAny_storeName_cell L.kind hk hc hv₀ fun h' hn' hs => ?_
  have keep : ∀ (a : Nat) o, s.heap.get? a = some o → a ∉ fm.own → h'.get? a = some o := fun a o e no => (hs.2 a fun q => no (q ▸ ho)).trans e
  have there : ∀ (a : Nat) o, s.heap.get? a = some o → ∃ o', h'.get? a = some o' := fun a o e => by
    by_cases q : a = ca
    · subst q; obtain ⟨o', e', _⟩ := hn'; exact ⟨o', e'⟩
    · exact ⟨o, (hs.2 a q).trans e⟩
  have E : Ext fm.own ws s.heap ws h' := ⟨rfl, ⟨[], by simp, by simp⟩, fun a o e no _ => keep a o e no, there⟩
  have S := E.step L.sub
  have ne : fm.env.locals ≠ ca := fun q => (L.cells _ ca hc).2.1 q.symm
  refine q ws _ _ _ k E (R.turn _ fm.own L.sub keep there) ?_
  refine ⟨L.kind, L.glob, L.blt, L.mem, L.sub, ⟨m, ?_, fun y w e ky => ?_⟩, fun y w e => ?_, fun y cb e => ?_, L.cne⟩
  · obtain ⟨o, es, ep, ho, r⟩ := hn
    exact ⟨o, es, ep, (hs.2 _ ne).trans ho, r⟩
  · rw [put_lookup] at e
    by_cases hy : y = x
    · subst hy; rw [hk] at ky; cases ky
    · rw [if_neg hy] at e
      obtain ⟨val', e', r'⟩ := hm y w e ky
      exact ⟨val', e', r'.mono S⟩
  · rw [put_lookup] at e
    by_cases hy : y = x
    · subst hy
      rw [if_pos rfl] at e; cases e
      exact .inr ⟨.inl hk, ca, val, hc, hn', r.mono S⟩
    · rw [if_neg hy] at e
      rcases L.cel y w e with h | ⟨h, cb, val', e1, e2, r'⟩
      · exact .inl h
      · refine .inr ⟨h, cb, val', e1, ?_, r'.mono S⟩
        obtain ⟨o, ho, hd⟩ := e2
        refine ⟨o, (hs.2 cb fun q => ?_).trans ho, hd⟩
        subst q
        exact hy (ofString_inj (L.cne _ _ _ e1 hc))
  · obtain ⟨a, b, v', h⟩ := L.cells y cb e
    refine ⟨a, b, ?_⟩
    by_cases q : cb = ca
    · subst q; exact ⟨_, hn'⟩
    · obtain ⟨o, ho, hd⟩ := h
      exact ⟨v', o, (hs.2 cb q).trans ho, hd⟩

theorem As.name {x : String} {pos : Pos} {v : V} {KR : Ρ → List O → Prop} (h : As c fm A (storeName fm.env (Str.ofString x)) v ρ σ KR) : As c fm A (assign (.Name (Str.ofString x) pos) fm.env) v ρ σ KR :=
  fun ws s val Q R L r q => PyProof.Rows.assign_Name (h ws s val Q R L r q)
theorem As.bind {x : String} {v : V} {KR : Ρ → List O → Prop} (h : As c fm A (storeName fm.env (Str.ofString x)) v ρ σ KR) : As c fm A (bindName fm.env (Str.ofString x)) v ρ σ KR :=
  fun ws s val Q R L r q => wpAny_bindName (h ws s val Q R L r q)
theorem Ass.nil {KR : Ρ → List O → Prop} (h : KR ρ σ) : Ass c fm A [] [] ρ σ KR :=
  fun ws s vals Q R L r q => by cases r; exact assignInOrder_nil (q ws s ρ σ h (.refl ..) R L)
theorem Ass.cons {t : Value → Sem Unit} {ts : List (Value → Sem Unit)} {v : V} {vs : List V} {KR : Ρ → List O → Prop} (h : As c fm A t v ρ σ fun ρ' σ' => Ass c fm A ts vs ρ' σ' KR) : Ass c fm A (t :: ts) (v :: vs) ρ σ KR := by
  intro ws s vals Q R L r q
  cases r with
  | cons _ x _ xs r rs =>
    refine assignInOrder_cons (h ws s x _ R L r fun ws' s' ρ' σ' k E R' L' => ?_)
    exact k ws' s' xs Q R' L' (rs.mono (E.step L.sub)) fun ws'' s'' ρ'' σ'' k' E' R'' L'' => q ws'' s'' ρ'' σ'' k' (E.trans E') R'' L''
theorem As.tup {n : Nat} {elts : List Expr} {k : Nat} {pos : Pos} {vs : List V} {KR : Ρ → List O → Prop} (a : AOk A n) (h : Ass c fm A ((assignEach elts fm.env).map (·.2)) vs ρ σ KR) (hn : (assignEach elts fm.env).length = vs.length) (hstar : (assignEach elts fm.env).findIdx? (·.1) = none := by rfl) :
    As c fm A (assign (.Tuple elts k pos) fm.env) (.tup vs) ρ σ KR := by
  intro ws s val Q R L r q
  cases r with
  | tup _ t xs n f e rs =>
    refine assign_Tuple_tuple a.handled ⟨_, e, rfl, _, rfl⟩ (by rw [hn, rs.length]; simp) hstar fun h' he => ?_
    have keep : ∀ (a : Nat) o, s.heap.get? a = some o → h'.get? a = some o := fun a o e => he a o (Nat.ne_of_lt (Heap.lt_size e)) e
    have E : Ext [] ws s.heap ws h' := Ext.more [] ws keep
    have := h ws { s with heap := h' } xs Q (R.more s.toks keep) (L.ext R E) (rs.mono E.st) fun ws' s' ρ' σ' k E' R' L' => q ws' s' ρ' σ' k (E.nil.trans E') R' L'
    simpa using this

/-! ## Statements -/
variable {K : FV → Ρ → List O → Prop}
theorem Ex.nil (k : K .next ρ σ) : Ex c fm A (execs [] fm.env) ρ σ K :=
  fun ws s Q R L q => wpAny_execs_nil (q ws s .next .next ρ σ k (.refl ..) R L .next)
theorem Ex.cons {st : Stmt} {rest : List Stmt} (h : Ex c fm A (exec st fm.env) ρ σ fun f ρ' σ' => match f with | .next => Ex c fm A (execs rest fm.env) ρ' σ' K | f => K f ρ' σ') :
    Ex c fm A (execs (st :: rest) fm.env) ρ σ K := by
  intro ws s Q R L q
  refine wpAny_execs_cons (h ws s _ R L fun ws' s' f fl ρ' σ' k E R' L' r => ?_)
  cases r with
  | next => exact k ws' s' Q R' L' fun ws'' s'' f fl ρ'' σ'' k' E' R'' L'' r' => q ws'' s'' f fl ρ'' σ'' k' (E.trans E') R'' L'' r'
  | brk => exact q ws' s' .brk .brk ρ' σ' k E R' L' .brk
  | cont => exact q ws' s' .cont .cont ρ' σ' k E R' L' .cont
  | ret v x r => exact q ws' s' (.ret v) (.ret x) ρ' σ' k E R' L' (.ret v x r)
theorem Ex.ret {e : Expr} {pos : Pos} (h : Ev c fm A (eval e fm.env) ρ σ fun v σ' => K (.ret v) ρ σ') : Ex c fm A (exec (.Return (some e) pos) fm.env) ρ σ K :=
  fun ws s Q R L q => wpAny_Return_some (h ws s _ R L fun ws' s' v val σ' k E R' L' r => q ws' s' (.ret v) (.ret val) ρ σ' k E.nil R' L' (.ret v val r))
theorem Ex.cont {pos : Pos} (k : K .cont ρ σ) : Ex c fm A (exec (.Continue pos) fm.env) ρ σ K :=
  fun ws s Q R L q => wpAny_Continue (q ws s .cont .cont ρ σ k (.refl ..) R L .cont)
theorem Ex.brk {pos : Pos} (k : K .brk ρ σ) : Ex c fm A (exec (.Break pos) fm.env) ρ σ K :=
  fun ws s Q R L q => wpAny_Break (q ws s .brk .brk ρ σ k (.refl ..) R L .brk)
theorem Ex.if {t : Expr} {b o : List Stmt} {pos : Pos} (h : Et c fm A (isTrue t fm.env (eval t fm.env)) ρ σ fun x σ' => if x then Ex c fm A (execs b fm.env) ρ σ' K else Ex c fm A (execs o fm.env) ρ σ' K) :
    Ex c fm A (exec (.If t b o pos) fm.env) ρ σ K := by
  intro ws s Q R L q
  refine wpAny_If (h ws s _ R L fun ws' s' x σ' k E R' L' => ?_)
  cases x with
  | true => exact k ws' s' Q R' L' fun ws'' s'' f fl ρ'' σ'' k' E' R'' L'' r' => q ws'' s'' f fl ρ'' σ'' k' (E.nil.trans E') R'' L'' r'
  | false => exact k ws' s' Q R' L' fun ws'' s'' f fl ρ'' σ'' k' E' R'' L'' r' => q ws'' s'' f fl ρ'' σ'' k' (E.nil.trans E') R'' L'' r'
/-- an expression for what it does; its value is dropped -/
theorem Ex.expr {e : Expr} {pos : Pos} (h : Ev c fm A (eval e fm.env) ρ σ fun v σ' => v = .none ∧ K .next ρ σ')
    (hs : swapsWith e none pos.line fm.env = pure false := by rfl) : Ex c fm A (exec (.Expr e pos) fm.env) ρ σ K :=
  fun ws s Q R L q => wpAny_Expr (h ws s _ R L fun ws' s' v val σ' k E R' L' r => by
    obtain ⟨rfl, k⟩ := k
    cases r
    exact q ws' s' .next .next ρ σ' k E.nil R' L' .next) (by unfold interactive; rw [L.kind]; rfl) hs
theorem Ex.set {x : String} {pos' : Pos} {e : Expr} {pos : Pos} (h : Ev c fm A (eval e fm.env) ρ σ fun v σ' => As c fm A (storeName fm.env (Str.ofString x)) v ρ σ' fun ρ' σ'' => K .next ρ' σ'')
    (hs : swapsWith e (some (.Name (Str.ofString x) pos')) pos.line fm.env = pure false := by rfl) : Ex c fm A (exec (.Assign [.Name (Str.ofString x) pos'] e pos) fm.env) ρ σ K := by
  intro ws s Q R L q
  refine wpAny_Assign_Name (h ws s _ R L fun ws' s' v val σ' k E R' L' r => ?_) hs
  exact k ws' s' val (fun _ => Q .next) R' L' r fun ws'' s'' ρ'' σ'' k' E' R'' L'' => q ws'' s'' .next .next ρ'' σ'' k' (E.nil.trans E') R'' L'' .next
theorem Ex.setTup {elts : List Expr} {k : Nat} {tpos : Pos} {e : Expr} {pos : Pos} (h : Ev c fm A (eval e fm.env) ρ σ fun v σ' => As c fm A (assign (.Tuple elts k tpos) fm.env) v ρ σ' fun ρ' σ'' => K .next ρ' σ'')
    (hs : swapsWithSole [.Tuple elts k tpos] e pos.line fm.env = pure false := by rfl) (hw : swappedStores [.Tuple elts k tpos] e fm.env = pure none := by rfl) : Ex c fm A (exec (.Assign [.Tuple elts k tpos] e pos) fm.env) ρ σ K := by
  intro ws s Q R L q
  refine Assign_Tuple (h ws s _ R L fun ws' s' v val σ' k E R' L' r => ?_) hs hw
  exact k ws' s' val (fun _ => Q .next) R' L' r fun ws'' s'' ρ'' σ'' k' E' R'' L'' => q ws'' s'' .next .next ρ'' σ'' k' (E.nil.trans E') R'' L'' .next
theorem RVs.reverse {P : Params} {ws : Ws} {h : Heap} {l : List V} {xs : List Value} (r : RVs P ws h l xs) : RVs P ws h l.reverse xs.reverse := by
  induction l generalizing xs with
  | nil => cases r; exact .nil
  | cons v l ih =>
    cases r with
    | cons _ x _ xs a r =>
      rw [List.reverse_cons, List.reverse_cons]
      exact (ih r).append (.cons _ _ _ _ a .nil)
theorem Ex.setSwap {n : Nat} {elts : List Expr} {k : Nat} {tpos : Pos} {e : Expr} {pos : Pos} {names : List Str} (a : AOk A n)
    (h : Ev c fm A (eval e fm.env) ρ σ fun v σ' => ∃ vs, v = .tup vs ∧ vs.length = names.length ∧ Ass c fm A (names.reverse.map fun n => bindName fm.env n) vs.reverse ρ σ' fun ρ' σ'' => K .next ρ' σ'')
    (hs : swapsWithSole [.Tuple elts k tpos] e pos.line fm.env = pure false := by rfl) (hw : swappedStores [.Tuple elts k tpos] e fm.env = pure (some names) := by rfl) : Ex c fm A (exec (.Assign [.Tuple elts k tpos] e pos) fm.env) ρ σ K := by
  intro ws s Q R L q
  refine Assign_Tuple_swapped (h ws s _ R L fun ws' s' v val σ' k E R' L' r => ?_) hs hw
  obtain ⟨vs, rfl, hl, k⟩ := k
  cases r with
  | tup _ t xs n f e rs =>
    have : names.length = xs.toArray.size := by rw [← hl, rs.length]; simp
    rw [this]
    refine unpackItems_tuple a.handled ⟨_, e, rfl, _, rfl⟩ fun h' he => ?_
    have keep : ∀ (a : Nat) o, s'.heap.get? a = some o → h'.get? a = some o := fun a o e => he a o (Nat.ne_of_lt (Heap.lt_size e)) e
    have E' : Ext [] ws' s'.heap ws' h' := Ext.more [] ws' keep
    have := k ws' { s' with heap := h' } xs.reverse (fun _ => Q .next) (R'.more s'.toks keep) (L'.ext R' E') (rs.mono E'.st).reverse fun ws'' s'' ρ'' σ'' k' E'' R'' L'' => q ws'' s'' .next .next ρ'' σ'' k' ((E.trans E').nil.trans E'') R'' L'' .next
    simpa using this
/-- setItem(o, i, v) -/
def Op3 (c : Cx) (A : Around) (f : Value → Value → Value → Sem Unit) (a b d : V) (σ : List O) (K : List O → Prop) : Prop :=
  ∀ ws s va vb vd (Q : Unit → Shared → Prop), Rel c ws σ s → RV c.P ws s.heap a va → RV c.P ws s.heap b vb → RV c.P ws s.heap d vd →
    (∀ ws' s' σ', K σ' → Ext [] ws s.heap ws' s'.heap → Rel c ws' σ' s' → Q () s') → wpAny (model c.prog c.w) A (f va vb vd) Q NoE s
theorem Ex.setSub {o i : Expr} {pos' : Pos} {e : Expr} {pos : Pos} (h : Ev c fm A (eval e fm.env) ρ σ fun v σ₁ => Ev c fm A (eval o fm.env) ρ σ₁ fun ov σ₂ => Ev c fm A (eval i fm.env) ρ σ₂ fun iv σ₃ => Op3 c A setItem ov iv v σ₃ fun σ₄ => K .next ρ σ₄)
    (hs : swapsWith e (some (.Subscript o i pos')) pos.line fm.env = pure false := by rfl) : Ex c fm A (exec (.Assign [.Subscript o i pos'] e pos) fm.env) ρ σ K := by
  intro ws s Q R L q
  refine wpAny_Assign_Subscript (h ws s _ R L fun ws₁ s₁ v val σ₁ k₁ E₁ R₁ L₁ r₁ => ?_) hs
  refine k₁ ws₁ s₁ _ R₁ L₁ fun ws₂ s₂ ov oval σ₂ k₂ E₂ R₂ L₂ r₂ => ?_
  refine k₂ ws₂ s₂ _ R₂ L₂ fun ws₃ s₃ iv ival σ₃ k₃ E₃ R₃ L₃ r₃ => ?_
  exact k₃ ws₃ s₃ oval ival val (fun _ => Q .next) R₃ (r₂.mono E₃.st) r₃ (r₁.mono (E₂.trans E₃).st) fun ws' s' σ' k E R' => q ws' s' .next .next ρ σ' k (((E₁.trans E₂).trans E₃).trans E).nil R' (L₃.ext R₃ E) .next
/-- the same as a target of several -/
theorem As.sub {o i : Expr} {pos : Pos} {v : V} {KR : Ρ → List O → Prop} (h : Ev c fm A (eval o fm.env) ρ σ fun ov σ₂ => Ev c fm A (eval i fm.env) ρ σ₂ fun iv σ₃ => Op3 c A setItem ov iv v σ₃ fun σ₄ => KR ρ σ₄)
    (he : ∀ val, PySem.assign (.Subscript o i pos) fm.env val = (do
      let ov ← holding [val] (eval o fm.env)
      let iv ← holding [val, ov] (eval i fm.env)
      standAt pos
      holding [val, ov, iv] (setItem ov iv val)
      release [val, ov, iv] []) := by intros; rfl) :
    As c fm A (assign (.Subscript o i pos) fm.env) v ρ σ KR := by
  intro ws s val Q R L r q
  rw [he]
  refine wpAny_bind (wpAny_holding (h ws s _ R L fun ws₂ s₂ ov oval σ₂ k₂ E₂ R₂ L₂ r₂ => ?_))
  refine wpAny_bind (wpAny_holding (k₂ ws₂ s₂ _ R₂ L₂ fun ws₃ s₃ iv ival σ₃ k₃ E₃ R₃ L₃ r₃ => ?_))
  refine wpAny_bind (wpAny_standAt (wpAny_bind (wpAny_holding ?_)))
  refine k₃ ws₃ s₃ oval ival val _ R₃ (r₂.mono E₃.st) r₃ (r.mono (E₂.trans E₃).st) fun ws' s' σ' k E R' => ?_
  exact wpAny_release (q ws' s' ρ σ' k ((E₂.trans E₃).trans E).nil R' (L₃.ext R₃ E))
theorem Ex.setAttr' {o : Expr} {attr : Str} {pos' : Pos} {e : Expr} {pos : Pos} (h : Ev c fm A (eval e fm.env) ρ σ fun v σ₁ => Ev c fm A (eval o fm.env) ρ σ₁ fun ov σ₂ => Op3 c A (fun x _ v => setAttr x attr v) ov .none v σ₂ fun σ₄ => K .next ρ σ₄)
    (hs : swapsWith e (some (.Attribute o attr pos')) pos.line fm.env = pure false := by rfl) : Ex c fm A (exec (.Assign [.Attribute o attr pos'] e pos) fm.env) ρ σ K := by
  intro ws s Q R L q
  refine plainObj_wpAny_Assign_Attribute (h ws s _ R L fun ws₁ s₁ v val σ₁ k₁ E₁ R₁ L₁ r₁ => ?_) hs
  refine k₁ ws₁ s₁ _ R₁ L₁ fun ws₂ s₂ ov oval σ₂ k₂ E₂ R₂ L₂ r₂ => ?_
  exact k₂ ws₂ s₂ oval .none val (fun _ => Q .next) R₂ r₂ .none (r₁.mono E₂.st) fun ws' s' σ' k E R' => q ws' s' .next .next ρ σ' k ((E₁.trans E₂).trans E).nil R' (L₂.ext R₂ E) .next
/-- self.x += e -/
theorem Ex.augAttr {o : Expr} {attr : Str} {tpos : Pos} {op : Operator} {e : Expr} {pos : Pos}
    (h : Ev c fm A (eval o fm.env) ρ σ fun ov σ₁ => Op1 c A (fun x => getAttr x attr true) ov σ₁ fun old σ₂ => Ev c fm A (eval e fm.env) ρ σ₂ fun v σ₃ => Op2 c A (inplaceOp op) old v σ₃ fun new σ₄ =>
      Op3 c A (fun x _ v => setAttr x attr v) ov .none new σ₄ fun σ₅ => K .next ρ σ₅) : Ex c fm A (exec (.AugAssign (.Attribute o attr tpos) op e pos) fm.env) ρ σ K := by
  intro ws s Q R L q
  refine wpAny_AugAssign_AttributeAny (h ws s _ R L fun ws₁ s₁ ov oval σ₁ k₁ E₁ R₁ L₁ r₁ => ?_)
  refine k₁ ws₁ s₁ oval _ R₁ r₁ fun ws₂ s₂ old oldv σ₂ k₂ E₂ R₂ r₂ => ?_
  have L₂ := L₁.ext R₁ E₂
  refine k₂ ws₂ s₂ _ R₂ L₂ fun ws₃ s₃ v val σ₃ k₃ E₃ R₃ L₃ r₃ => ?_
  refine k₃ ws₃ s₃ oldv val _ R₃ (r₂.mono E₃.st) r₃ fun ws₄ s₄ new newv σ₄ k₄ E₄ R₄ r₄ => ?_
  have L₄ := L₃.ext R₃ E₄
  exact k₄ ws₄ s₄ oval .none newv (fun _ => Q .next) R₄ (((r₁.mono E₂.st).mono E₃.st).mono E₄.st) .none r₄ fun ws' s' σ' k E R' => q ws' s' .next .next ρ σ' k ((((E₁.trans E₂).trans E₃).trans E₄).trans E).nil R' (L₄.ext R₄ E) .next
end
end Mine
end
section
set_option maxRecDepth 100000
set_option Elab.async false
set_option linter.unusedVariables false
namespace Mine
open PySem PySem.W PySem.Calls PyProof.Rows

/-! ## Calls of the text's own defs -/
section
variable {c : Cx} {A : Around} {σ : List O} {K : V → List O → Prop}

/-- a call's tree -/
def Cl (c : Cx) (A : Around) (f : Value) (args : List V) (σ : List O) (K : V → List O → Prop) : Prop :=
  ∀ ws s vals (Q : Value → Shared → Prop), Rel c ws σ s → RVs c.P ws s.heap args vals →
    (∀ ws' s' v val σ', K v σ' → Ext [] ws s.heap ws' s'.heap → Rel c ws' σ' s' → RV c.P ws' s'.heap v val → Q val s') → wpAny (model c.prog c.w) A (call f vals) Q NoE s
theorem Cl.mono {f : Value} {args : List V} {K' : V → List O → Prop} (h : Cl c A f args σ K) (k : ∀ v σ, K v σ → K' v σ) : Cl c A f args σ K' :=
  fun ws s vals Q R r q => h ws s vals Q R r fun ws' s' v val σ' kk => q ws' s' v val σ' (k _ _ kk)

theorem lookup_rev_none {l : List (Str × Value)} {x : Str} (h : x ∉ l.map (·.1)) : l.reverse.lookup x = none := by
  induction l with
  | nil => rfl
  | cons p l ih =>
    obtain ⟨k, v⟩ := p
    simp only [List.map_cons, List.mem_cons, not_or] at h
    rw [List.reverse_cons, List.lookup_append, ih h.2]
    have : (x == k) = false := beq_eq_false_iff_ne.mpr h.1
    simp [List.lookup, this]
theorem zip_lookup {P : Params} {ws : Ws} {h : Heap} : ∀ {xs : List String} {args : List V} {vals : List Value}, RVs P ws h args vals → xs.Nodup → ∀ {x : String} {v : V}, (xs.zip args).lookup x = some v →
    ∃ val, (((xs.map Str.ofString).zip vals).reverse).lookup (Str.ofString x) = some val ∧ RV P ws h v val
  | [], _, _, _, _, x, v, e => by simp at e
  | y :: xs, [], _, _, _, x, v, e => by simp at e
  | y :: xs, a :: args, _, .cons _ b _ vals r rs, nd, x, v, e => by
    have nd' := List.nodup_cons.mp nd
    simp only [List.map_cons, List.zip_cons_cons, List.reverse_cons, List.lookup_append]
    by_cases hx : x = y
    · subst hx
      have e' : a = v := by simpa [List.lookup] using e
      subst e'
      refine ⟨b, ?_, r⟩
      rw [lookup_rev_none]
      · simp [List.lookup]
      · intro m
        obtain ⟨p, hp, q⟩ := List.mem_map.mp m
        have := (List.of_mem_zip hp).1
        rw [q] at this
        obtain ⟨z, hz, e⟩ := List.mem_map.mp this
        exact nd'.1 (ofString_inj e ▸ hz)
    · have hb : (x == y) = false := beq_eq_false_iff_ne.mpr hx
      have e' : (xs.zip args).lookup x = some v := by simpa [List.lookup, hb] using e
      obtain ⟨val, h1, h2⟩ := zip_lookup rs nd'.2 e'
      exact ⟨val, by rw [h1]; rfl, h2⟩
theorem zip_mem : ∀ {xs : List String} {args : List V} {x : String} {v : V}, (xs.zip args).lookup x = some v → x ∈ xs
  | [], _, x, v, e => by simp at e
  | y :: xs, [], x, v, e => by simp at e
  | y :: xs, a :: args, x, v, e => by
    by_cases hx : x = y
    · subst hx; exact .head _
    · have hb : (x == y) = false := beq_eq_false_iff_ne.mpr hx
      exact .tail _ (zip_mem (by simpa [List.lookup, hb] using e))

theorem callEnv_locals (fd : FuncData) (L a : Nat) : (callEnv fd L a).locals = L := rfl
theorem callEnv_cells (fd : FuncData) (L a : Nat) : (callEnv fd L a).cells = fd.closure := rfl
/-- what the walk of a def's body must bring -/
def back (K : V → List O → Prop) : FV → Ρ → List O → Prop
  | .ret v, _, σ => K v σ
  | .next, _, σ => K .none σ
  | _, _, _ => False

structure Def (c : Cx) (fa : Nat) (fd : FuncData) (body : List Stmt) (xs : List String) : Prop where
  obj : ∃ o, c.h₀.get? fa = some o ∧ o.data = .func fd
  code : c.h₀.CodeRec fd.code fd.qualname
  body : fd.body = .stmts body
  closure : fd.closure = []
  glob : fd.globals = mainGlobals
  blt : fd.builtins = builtinsNs
  bind : ∀ s (vals : List Value), vals.length = xs.length → BindsTo s fd ⟨vals, []⟩ ((xs.map Str.ofString).zip vals)
  nodup : xs.Nodup
  co : fd.scope.isCoroutine = false
  gen : fd.scope.isGenerator = false
  kind : fd.scope.kind = .function

theorem Cl.def {n : Nat} {fa : Nat} {fd : FuncData} {body : List Stmt} {xs : List String} {args : List V} {mg mb : Str → Option Value} (G : Gr c mg mb) (D : Def c fa fd body xs) (a : AOk A (n + 1)) (hl : args.length = xs.length)
    (hcell : ∀ x ∈ fd.scope.names, x.2 ≠ .cell) (hloc : ∀ x ∈ xs, fd.scope.names.lookup (Str.ofString x) = some .local)
    (h : ∀ (fm : Fm) (A' : Around), fm.env.scope = fd.scope → AOk A' n → Ex c fm A' (execs body fm.env) (xs.zip args) σ (back K)) :
    Cl c A (.ref fa) args σ K := by
  intro ws s vals Q R r q
  obtain ⟨o, ho, hd⟩ := D.obj
  refine wpAny_call (codeAny_call_def (binds := (xs.map Str.ofString).zip vals) a.room (R.base _ _ ho) hd (G.nolimit.keeps R.base) (D.code.keeps R.base) D.body (D.bind _ _ (by rw [← r.length, hl])) hcell (fun x hx => ?_) (fun h₁ hns hk₁ => ?_) D.co D.gen D.kind)
  · obtain ⟨y, hy, e⟩ := List.mem_map.mp (List.of_mem_zip hx).1
    rw [← e]; exact hloc y hy
  · have g : s.heap.get? s.heap.objs.size = none := get_size _
    have tL : ∃ o, h₁.get? s.heap.objs.size = some o := by obtain ⟨o, _, _, e, _⟩ := hns; exact ⟨o, e⟩
    have R₁ := R.heat g tL hk₁ (s.toks + ((xs.map Str.ofString).zip vals).length)
    have S₁ := heat_step ws g hk₁
    have kl : ∀ x ∈ xs, (callEnv fd s.heap.objs.size fa).kindOf (Str.ofString x) = some .local := hloc
    have L₁ : Loc c ⟨callEnv fd s.heap.objs.size fa, [s.heap.objs.size]⟩ (ws.heat s.heap.objs.size) (xs.zip args) h₁ := by
      refine ⟨D.kind, D.glob, D.blt, List.mem_singleton.mpr rfl, by simp [Ws.heat], ⟨_, hns, fun x v e _ => ?_⟩, fun x v e => .inl (kl x (zip_mem e)), fun x ca e => ?_, fun x y ca e => ?_⟩
      · obtain ⟨val, h1, h2⟩ := zip_lookup r D.nodup e
        exact ⟨val, h1, h2.mono S₁⟩
      · have e' : fd.closure.lookup x = some ca := e
        rw [D.closure] at e'; cases e'
      · have e' : fd.closure.lookup x = some ca := e
        rw [D.closure] at e'; cases e'
    have fin : ∀ ws' s' v val σ', K v σ' → Ext [s.heap.objs.size] (ws.heat s.heap.objs.size) h₁ ws' s'.heap → Rel c ws' σ' s' → RV c.P ws' s'.heap v val → Q val s' := by
      intro ws' s' v val σ' k E R' r'
      obtain ⟨e, E'⟩ := Ext.cool g hk₁ E
      rw [e] at R' r'
      exact q _ s' v val σ' k E' R'.cool (r'.mono (cool_step _ _ _))
    refine wpAny_mono (h ⟨callEnv fd s.heap.objs.size fa, [s.heap.objs.size]⟩ (A.deeper (callEnv fd s.heap.objs.size fa)) rfl a.deeper _ _ (fun f s' => match f with | .ret v => Q v s' | _ => Q .none s') R₁ L₁ fun ws' s' f fl ρ' σ' k E R' L' rf => ?_) (fun f s' hq => ?_) fun e s' hq => hq.elim
    · cases rf with
      | ret v x rv => exact fin ws' s' v x σ' k E R' rv
      | next => exact fin ws' s' .none .none σ' k E R' .none
      | brk => exact k.elim
      | cont => exact k.elim
    · cases f <;> exact hq

theorem Def.mk' {mg mb : Str → Option Value} (G : Gr c mg mb) {fa : Nat} {oc : Value} {od : Option Addr} {osl : Array (Option Value)} {name qual : Str} {params : Arguments} {body : List Stmt} {scope : Scope} {dV kV doc pm cdv ct : Value} {an : Option Addr} {xs : List String}
    (ho : c.K.lookup fa = some ⟨oc, od, .func (fnOf name qual params body scope dV kV doc pm an cdv ct), osl⟩) (hcd : codeIn c.K cdv qual = true)
    (hbind : ∀ (vals : List Value), vals.length = xs.length → bindArgs (fnOf name qual params body scope dV kV doc pm an cdv ct) ⟨vals, []⟩ = pure ((xs.map Str.ofString).zip vals))
    (hnd : xs.Nodup) (hco : scope.isCoroutine = false := by rfl) (hgen : scope.isGenerator = false := by rfl) (hk : scope.kind = .function := by rfl) :
    Def c fa (fnOf name qual params body scope dV kV doc pm an cdv ct) body xs :=
  ⟨⟨_, G.X _ _ ho, rfl⟩, codeRec_of G.X hcd, rfl, rfl, rfl, rfl, fun s vals hl => .of_eq (hbind vals hl), hnd, hco, hgen, hk⟩
end
end Mine
end
section
set_option maxRecDepth 100000
set_option Elab.async false
set_option linter.unusedVariables false
namespace Mine
open PySem PySem.W PySem.Calls PyProof.Rows

theorem evalArgs_all {M : Model} {A : Around} {E : Value → Shared → Prop} {s : Shared} {f : Value} {args : List (Bool × Sem Value)} {Q : Args → Shared → Prop} (hp : args.any (·.1) = false) (h : wpAny M A (spliced args) (fun vs s' => Q ⟨vs, []⟩ s') E s) :
    wpAny M A (evalArgs f true args []) Q E s := by
  cases args with
  | nil =>
    unfold evalArgs
    show wpAny M A (spliced [] >>= _) Q E s
    refine wpAny_bind (wpAny_mono h (fun vs s' h' => ?_) fun _ _ x => x)
    refine wpAny_bind (wpAny_pure ?_)
    refine wpAny_holding ?_
    exact wpAny_bind (wpAny_pure (wpAny_bind (wpAny_pure (wpAny_pure h'))))
  | cons x rest =>
    obtain ⟨b, t⟩ := x
    have hb : b = false := by simp at hp; exact hp.1
    subst hb
    exact evalArgs_plain h

section
variable {c : Cx} {fm : Fm} {A : Around} {ρ : Ρ} {σ : List O} {K : V → List O → Prop}

/-! ## Call expressions -/
/-- what the machine asks of a callee ahead of a call -/
def Kp (c : Cx) (f : Value) : Prop := ∀ h : Heap, (∀ b o, c.h₀.get? b = some o → h.get? b = some o) → ∃ k, (k = Keeper.frame ∨ k = Keeper.machine ∨ k = Keeper.boundFrame) ∧ Looks (model c.prog c.w) h (keeperOf f) k
theorem Kp.builtin (id : String) : Kp c (.builtin id) := fun h _ => ⟨.machine, .inr (.inl rfl), .now⟩
theorem Kp.type (T : String) : Kp c (.type T) := fun h _ => ⟨.machine, .inr (.inl rfl), .now⟩
theorem Kp.of {mg mb : Str → Option Value} (G : Gr c mg mb) {f : Value} (e : keepIn c.K f = true) : Kp c f := fun h k => keeps_K e h (G.X.keeps k)
theorem Kp.def {fa : Nat} {fd : FuncData} {body : List Stmt} {xs : List String} (D : Def c fa fd body xs) : Kp c (.ref fa) := fun h k => by
  obtain ⟨o, ho, hd⟩ := D.obj
  refine ⟨.frame, .inl rfl, (Looks.ld (part := none) (k _ _ ho)).andThen ?_⟩
  rw [hd]; exact .now

/-- the arguments, then the call -/
theorem callWith_S {pos : Pos} {f : Value} {first : List Value} {fargs : List V} {args : List Expr} (kp : Kp c f) (hp : (backTo pos (starEach args fm.env)).any (·.1) = false)
    (h : Evs c fm A (spliced (backTo pos (starEach args fm.env))) ρ σ fun vs σ₂ => Cl c A f (fargs ++ vs) σ₂ K)
    {ws : Ws} {s : Shared} {Q : Value → Shared → Prop} (R : Rel c ws σ s) (L : Loc c fm ws ρ s.heap) (rf : RVs c.P ws s.heap fargs first)
    (q : ∀ ws' s' v val σ', K v σ' → Ext [] ws s.heap ws' s'.heap → Rel c ws' σ' s' → Loc c fm ws' ρ s'.heap → RV c.P ws' s'.heap v val → Q val s') :
    wpAny (model c.prog c.w) A (callWith pos f first (backTo pos (starEach args fm.env)) []) Q NoE s := by
  refine callWith_of (P := fun h => ∀ b o, c.h₀.get? b = some o → h.get? b = some o) (by rw [hp]; rfl) kp (evalArgs_all hp (h ws s _ R L fun ws₂ s₂ vs vals σ₂ k₂ E₂ R₂ L₂ r₂ => ⟨R₂.base, ?_⟩))
  exact k₂ ws₂ s₂ (first ++ vals) Q R₂ ((rf.mono E₂.st).append r₂) fun ws' s' v val σ' k E R' r => q ws' s' v val σ' k (E₂.trans E) R' (L₂.ext R₂ E) r
theorem Ev.call {x : Str} {p pos : Pos} {args : List Expr} (h : Ev c fm A (eval (.Name x p) fm.env) ρ σ fun w σ₁ => ∃ f, w = .con f ∧ Kp c f ∧ Evs c fm A (spliced (backTo pos (starEach args fm.env))) ρ σ₁ fun vs σ₂ => Cl c A f vs σ₂ K)
    (hp : (backTo pos (starEach args fm.env)).any (·.1) = false := by rfl) : Ev c fm A (eval (.Call (.Name x p) args [] pos) fm.env) ρ σ K := by
  intro ws s Q R L q
  refine Call_Name rfl (h ws s _ R L fun ws₁ s₁ w val σ₁ k₁ E₁ R₁ L₁ r₁ => ?_)
  obtain ⟨f, rfl, kp, k⟩ := k₁
  cases r₁
  exact callWith_S (fargs := []) kp hp k R₁ L₁ .nil fun ws' s' v val σ' k E R' L' r => q ws' s' v val σ' k (E₁.trans E) R' L' r

/-- a method is found: the callee, and the object ahead of the arguments -/
def Mt (c : Cx) (ov : V) (σ : List O) (name : Str) (f : Value) : Prop :=
  ∀ (A : Around) ws s val (pl : Sem Bool) (Q : Value × List Value → Shared → Prop), Rel c ws σ s → RV c.P ws s.heap ov val → (∀ tk, Q (f, [val]) { s with toks := tk }) → wpAny (model c.prog c.w) A (getMethod val name pl) Q NoE s
theorem Ev.meth {o : Expr} {name : Str} {apos pos : Pos} {args : List Expr} {pl : Sem Bool} (h : Ev c fm A (eval o fm.env) ρ σ fun ov σ₁ => ∃ f, Mt c ov σ₁ name f ∧ Kp c f ∧ Evs c fm A (spliced (backTo pos (starEach args fm.env))) ρ σ₁ fun vs σ₂ => Cl c A f (ov :: vs) σ₂ K)
    (hp : (backTo pos (starEach args fm.env)).any (·.1) = false := by rfl)
    (he : eval (.Call (.Attribute o name apos) args [] pos) fm.env = (do
      let ov ← eval o fm.env
      standAt apos.atName
      let (f, first) ← holding [ov] (getMethod ov name pl)
      callWith pos f first (backTo pos (starEach args fm.env)) []) := by rfl) : Ev c fm A (eval (.Call (.Attribute o name apos) args [] pos) fm.env) ρ σ K := by
  intro ws s Q R L q
  refine MethodCall_ (h ws s _ R L fun ws₁ s₁ ov val σ₁ k₁ E₁ R₁ L₁ r₁ => ?_) he
  obtain ⟨f, mt, kp, k⟩ := k₁
  refine mt A ws₁ s₁ val pl _ R₁ r₁ fun tk => ?_
  exact callWith_S (fargs := [ov]) kp hp k (R₁.tok tk) L₁ (.cons _ _ _ _ r₁ .nil) fun ws' s' v val σ' k E R' L' r => q ws' s' v val σ' k (E₁.trans E) R' L' r
theorem Ev.attr {o : Expr} {name : Str} {pos : Pos} (h : Ev c fm A (eval o fm.env) ρ σ fun ov σ₁ => Op1 c A (fun x => getAttr x name true) ov σ₁ K)
    (he : eval (.Attribute o name pos) fm.env = (do
      let ov ← eval o fm.env
      standAt pos.atName
      let r ← holding [ov] (getAttr ov name true)
      letTemporaryGo o ov r
      pure r) := by with_unfolding_all rfl) : Ev c fm A (eval (.Attribute o name pos) fm.env) ρ σ K := Ev.op1 h fun s Q x => Attribute_any_ x he
theorem Ev.sub {value slice : Expr} {pos : Pos} (h : Ev c fm A (eval value fm.env) ρ σ fun a σ₁ => Ev c fm A (eval slice fm.env) ρ σ₁ fun b σ₂ => Op2 c A (subscriptTail value slice) a b σ₂ K) :
    Ev c fm A (eval (.Subscript value slice pos) fm.env) ρ σ K := Ev.op2 h fun s Q x => Subscript_ x

/-! ## Operations upon ints -/
theorem Op2.here {f : Value → Value → Sem Value} {a b v : V} (k : K v σ) (h : ∀ (P : Params) ws s va vb (Q : Value → Shared → Prop), RV P ws s.heap a va → RV P ws s.heap b vb → (∀ val tk, RV P ws s.heap v val → Q val { s with toks := tk }) → wpAny (model c.prog c.w) A (f va vb) Q NoE s) : Op2 c A f a b σ K :=
  fun ws s va vb Q R r r' q => h c.P ws s va vb Q r r' fun val tk rv => q ws { s with toks := tk } v val σ k (.refl ..) (R.tok tk) rv
theorem Op1.here {f : Value → Sem Value} {a v : V} (k : K v σ) (h : ∀ (P : Params) ws s va (Q : Value → Shared → Prop), RV P ws s.heap a va → (∀ val tk, RV P ws s.heap v val → Q val { s with toks := tk }) → wpAny (model c.prog c.w) A (f va) Q NoE s) : Op1 c A f a σ K :=
  fun ws s va Q R r q => h c.P ws s va Q r fun val tk rv => q ws { s with toks := tk } v val σ k (.refl ..) (R.tok tk) rv
theorem I.add {a b : Int} (k : K (.int (a + b)) σ) : Op2 c A (binaryOp .Add) (.int a) (.int b) σ K := .here k fun P ws s va vb Q r r' q => by cases r; cases r'; exact wpAny_add_int (q _ _ (.int _ _))
theorem I.iadd {a b : Int} (k : K (.int (a + b)) σ) : Op2 c A (inplaceOp .Add) (.int a) (.int b) σ K := .here k fun P ws s va vb Q r r' q => by cases r; cases r'; exact wpAny_iadd_int (q _ _ (.int _ _))
theorem I.sub {a b : Int} (k : K (.int (a - b)) σ) : Op2 c A (binaryOp .Sub) (.int a) (.int b) σ K := .here k fun P ws s va vb Q r r' q => by cases r; cases r'; exact PyProof.Rows.sub_int (q _ _ (.int _ _))
theorem I.mul {a b : Int} (hm : IntMulOk a b) (k : K (.int (a * b)) σ) : Op2 c A (binaryOp .Mult) (.int a) (.int b) σ K := .here k fun P ws s va vb Q r r' q => by cases r; cases r'; exact PySem.P.mul_int (q _ _ (.int _ _)) hm
theorem I.mod {a b : Int} (hb : b ≠ 0) (k : K (.int (a.fmod b)) σ) : Op2 c A (binaryOp .Mod) (.int a) (.int b) σ K := .here k fun P ws s va vb Q r r' q => by cases r; cases r'; exact PyProof.Rows.mod_int hb (q _ _ (.int _ _))
theorem I.div {a b : Int} (hb : b ≠ 0) (hs : b.natAbs < 1073741824) (k : K (.int (a.fdiv b)) σ) : Op2 c A (binaryOp .FloorDiv) (.int a) (.int b) σ K := .here k fun P ws s va vb Q r r' q => by cases r; cases r'; exact PyProof.Rows.floordiv_int hb (q _ _ (.int _ _)) (.inl (PyProof.noPylong_small hs))
theorem I.pow {a n : Int} (hn : 0 ≤ n) (hsz : (Builtin.Int.intBits a : Int) * n ≤ 2 ^ 27) (k : K (.int (a ^ n.toNat)) σ) : Op2 c A (binaryOp .Pow) (.int a) (.int n) σ K := .here k fun P ws s va vb Q r r' q => by cases r; cases r'; exact PyProof.Rows.pow_int hn hsz (q _ _ (.int _ _))
theorem I.shl {a n : Int} (hn : 0 ≤ n) (hsz : (Builtin.Int.intBits a : Int) + n ≤ 2 ^ 27) (k : K (.int (a * 2 ^ n.toNat)) σ) : Op2 c A (binaryOp .LShift) (.int a) (.int n) σ K := .here k fun P ws s va vb Q r r' q => by cases r; cases r'; exact PyProof.Rows.lshift_int hn hsz (q _ _ (.int _ _))
theorem I.shr {a n : Int} (hn : 0 ≤ n) (k : K (.int (a.fdiv (2 ^ n.toNat))) σ) : Op2 c A (binaryOp .RShift) (.int a) (.int n) σ K := .here k fun P ws s va vb Q r r' q => by cases r; cases r'; exact PyProof.Rows.rshift_int hn (q _ _ (.int _ _))
theorem I.and {a b : Int} (k : K (.int (Builtin.bitAnd a b)) σ) : Op2 c A (binaryOp .BitAnd) (.int a) (.int b) σ K := .here k fun P ws s va vb Q r r' q => by cases r; cases r'; exact PyProof.Rows.and_int (q _ _ (.int _ _))
theorem I.or {a b : Int} (k : K (.int (Builtin.bitOr a b)) σ) : Op2 c A (binaryOp .BitOr) (.int a) (.int b) σ K := .here k fun P ws s va vb Q r r' q => by cases r; cases r'; exact PyProof.Rows.or_int (q _ _ (.int _ _))
theorem I.eq {a b : Int} (k : K (.bool (a == b)) σ) : Op2 c A (compareOp .Eq) (.int a) (.int b) σ K := .here k fun P ws s va vb Q r r' q => by cases r; cases r'; exact PyProof.Rows.eq_int (q _ s.toks (.bool _))
theorem I.ne {a b : Int} (k : K (.bool (a != b)) σ) : Op2 c A (compareOp .NotEq) (.int a) (.int b) σ K := .here k fun P ws s va vb Q r r' q => by cases r; cases r'; exact PyProof.Rows.ne_int (q _ s.toks (.bool _))
theorem I.lt {a b : Int} (k : K (.bool (decide (a < b))) σ) : Op2 c A (compareOp .Lt) (.int a) (.int b) σ K := .here k fun P ws s va vb Q r r' q => by cases r; cases r'; exact wpAny_lt_int (q _ s.toks (.bool _))
theorem I.gt {a b : Int} (k : K (.bool (decide (a > b))) σ) : Op2 c A (compareOp .Gt) (.int a) (.int b) σ K := .here k fun P ws s va vb Q r r' q => by cases r; cases r'; exact PySem.P.gt_int (q _ s.toks (.bool _))
theorem I.ge {a b : Int} (k : K (.bool (decide (a ≥ b))) σ) : Op2 c A (compareOp .GtE) (.int a) (.int b) σ K := .here k fun P ws s va vb Q r r' q => by cases r; cases r'; exact PySem.P.ge_int (q _ s.toks (.bool _))
theorem I.neg {a : Int} (k : K (.int (-a)) σ) : Op1 c A (unaryOp .USub) (.int a) σ K := .here k fun P ws s va Q r q => by cases r; exact PySem.P.neg_int (q _ _ (.int _ _))
theorem T.bool {b : Bool} {KB : Bool → List O → Prop} (k : KB b σ) : Ot1 c A (.bool b) σ KB := fun ws s va Q R r q => by cases r; exact wpAny_truthy_bool (q s b k rfl R)
theorem T.int {a : Int} {KB : Bool → List O → Prop} (k : KB (a != 0) σ) : Ot1 c A (.int a) σ KB := fun ws s va Q R r q => by cases r; exact PySem.P.truthy_int (q s _ k rfl R)
end
end Mine
end
section
set_option maxRecDepth 100000
set_option Elab.async false
set_option linter.unusedVariables false
namespace Mine
open PySem PySem.W PySem.Calls PyProof.Rows

section
variable {c : Cx} {fm : Fm} {A : Around} {ρ : Ρ} {σ : List O} {K : V → List O → Prop}

/-! ## Lists and tuples read -/
/-- a list or tuple that can be read: its items -/
inductive Sq (σ : List O) : V → List V → Prop
  | lst (l : List V) : Sq σ (.lst l) l
  | tup (l : List V) : Sq σ (.tup l) l
  | arr (l : List V) : Sq σ (.arr l) l
  | list (k : Nat) (l : List V) : σ[k]? = some (.list l) → Sq σ (.ref k) l
  | larr (k : Nat) (l : List V) : σ[k]? = some (.arr l) → Sq σ (.ref k) l
theorem Rel.at {ws : Ws} {s : Shared} (R : Rel c ws σ s) {k : Nat} {p : Nat × Nat} {o : O} (e : σ[k]? = some o) (e' : ws.cs[k]? = some p) : RO c ws s.heap p o := R.objs k o p e e'
/-- as it lies in the heap -/
theorem Sq.in {ws : Ws} {s : Shared} (R : Rel c ws σ s) {v : V} {l : List V} {val : Value} (q : Sq σ v l) (r : RV c.P ws s.heap v val) :
    ∃ a vs, val = .ref a ∧ (s.heap.IsList a vs.toArray ∨ IsTup s.heap a vs.toArray) ∧ RVs c.P ws s.heap l vs := by
  cases q with
  | lst l => cases r with | lst _ a vs n f e rs => exact ⟨a, vs, rfl, .inl ⟨_, e, rfl, _, rfl⟩, rs⟩
  | tup l => cases r with | tup _ a vs n f e rs => exact ⟨a, vs, rfl, .inr ⟨_, e, rfl, _, rfl⟩, rs⟩
  | arr l => cases r with | arr _ a vs f e rs => exact ⟨a, vs, rfl, .inl e, rs⟩
  | list k l e =>
    cases r with
    | ref _ p e' =>
      obtain ⟨vs, n, h1, _, rs⟩ := R.at e e'
      exact ⟨p.1, vs, rfl, .inl ⟨_, h1, rfl, _, rfl⟩, rs⟩
  | larr k l e =>
    cases r with
    | ref _ p e' =>
      obtain ⟨vs, h1, _, rs⟩ := R.at e e'
      exact ⟨p.1, vs, rfl, .inl h1, rs⟩
theorem L.item {value slice : Expr} {v w : V} {l : List V} {i : Int} (q : Sq σ v l) (h0 : 0 ≤ i) (hi : i < 2 ^ 63) (e : l[i.toNat]? = some w) (k : K w σ)
    (hs : ∀ o i, subscripted slice false o i = operate [o, i] (getItem o i) := by intros; with_unfolding_all rfl) : Op2 c A (subscriptTail value slice) v (.int i) σ K := by
  intro ws s va vb Q R r r' qq
  obtain ⟨a, vs, rfl, ha, rs⟩ := q.in R r
  obtain ⟨x, hx, rx⟩ := rs.get e
  cases r'
  have fin : Q x s := qq ws s w x σ k (.refl ..) R rx
  rcases ha with ha | ha
  · exact tail_any ha.typeIs slot_list_getitem.lookup (wpAny_getItem_list ha h0 hi (by simpa using hx) fin) (hs _ _)
  · have hlen : i.toNat < vs.length := (List.getElem?_eq_some_iff.mp hx).1
    refine item_tupleT ha (by omega) hi (j := i.toNat) ?_ hx fin (hs _ _)
    unfold seqIndex?
    have h1 : ¬ i < 0 := by omega
    have h2 : i < (vs.length : Int) := by omega
    simp [h1, h0, h2]
/-- an item of a list is stored -/
theorem L.set {k : Nat} {l : List V} {i : Int} {v : V} {KO : List O → Prop} (e : σ[k]? = some (.list l) ∨ σ[k]? = some (.arr l)) (h0 : 0 ≤ i) (hi : i < 2 ^ 63) (hn : i < l.length) (kk : KO (σ.set k (.arr (l.set i.toNat v)))) :
    Op3 c A setItem (.ref k) (.int i) v σ KO := by
  intro ws s va vb vd Q R ra rb rd q
  cases ra with
  | ref _ p e' =>
    cases rb
    obtain ⟨vs, hl, e2, rs⟩ : ∃ vs, s.heap.IsList p.1 vs.toArray ∧ p.2 = p.1 ∧ RVs c.P ws s.heap l vs := by
      rcases e with e | e
      · obtain ⟨vs, n, h1, h2, rs⟩ := R.at e e'; exact ⟨vs, ⟨_, h1, rfl, _, rfl⟩, h2, rs⟩
      · obtain ⟨vs, h1, h2, rs⟩ := R.at e e'; exact ⟨vs, h1, h2, rs⟩
    refine wpAny_setItem_list hl h0 hi (by rw [List.size_toArray, ← rs.length]; exact hn) fun h' hl' hs' => ?_
    have there : ∀ (a : Nat) o, s.heap.get? a = some o → ∃ o', h'.get? a = some o' := fun a o ea => by
      by_cases qa : a = p.1
      · subst qa; obtain ⟨o', eo, _⟩ := hl'; exact ⟨o', eo⟩
      · exact ⟨o, (hs'.2 a qa).trans ea⟩
    obtain ⟨R', E'⟩ := R.cellTurn (o' := .arr (l.set i.toNat v)) e' (fun a o ea n1 _ => (hs'.2 a n1).trans ea) there (fun S => ⟨vs.set i.toNat vd, by simpa using hl', e2, (rs.mono S).set _ (rd.mono S)⟩) s.toks
    exact q ws _ _ kk E' R'

theorem L.len {v : V} {l : List V} (q : Sq σ v l) (hl : l.length < 1000000000) (k : K (.int l.length) σ) : Cl c A (.builtin "len") [v] σ K := by
  intro ws s vals Q R r qq
  cases r with
  | cons _ x _ xs r rs =>
    cases rs
    obtain ⟨a, vs, rfl, ha, rs⟩ := q.in R r
    have e : (vs.toArray.size : Int) = l.length := by rw [List.size_toArray, rs.length]
    rcases ha with ha | ha
    · exact call_len_list ha (by rw [e]; omega) (qq ws { s with toks := s.toks + 1 + 1 } _ _ σ k (.refl ..) (R.tok _) (by rw [e]; exact .int _ _))
    · exact len_tuple ha (by rw [e]; omega) (qq ws { s with toks := s.toks + 1 + 1 } _ _ σ k (.refl ..) (R.tok _) (by rw [e]; exact .int _ _))

theorem Sq.at {σ₀ : List O} {k : Nat} {l : List V} (hk : k < σ₀.length) : Sq (σ₀.set k (.arr l)) (.ref k) l := .larr k l (List.getElem?_set_self hk)
/-- an item of the list in hand -/
theorem L.setAt {σ₀ : List O} {k : Nat} {l : List V} {i : Int} {v : V} {KO : List O → Prop} (hk : k < σ₀.length) (h0 : 0 ≤ i) (hi : i < 2 ^ 63) (hn : i < l.length) (kk : KO (σ₀.set k (.arr (l.set i.toNat v)))) :
    Op3 c A setItem (.ref k) (.int i) v (σ₀.set k (.arr l)) KO := L.set (.inr (List.getElem?_set_self hk)) h0 hi hn (by rw [List.set_set]; exact kk)
theorem ifb {b : Bool} {P Q : Prop} (t : b = true → P) (f : b = false → Q) : if b = true then P else Q := by
  cases b
  · exact f rfl
  · exact t rfl
/-- append to a list of the store -/
theorem L.append {k : Nat} {l : List V} {v : V} (e : σ[k]? = some (.list l)) (hl : l.length < 1000000) (kk : K .none (σ.set k (.list (l ++ [v])))) : Cl c A (.builtin "list.append") [.ref k, v] σ K := by
  intro ws s vals Q R r q
  cases r with
  | cons _ x _ xs r rs =>
    cases rs with
    | cons _ y _ ys ry rs =>
      cases rs
      cases r with
      | ref _ p e' =>
        obtain ⟨vs, n, h1, h2, rs⟩ := R.at e e'
        have hz : vs.toArray.size ≤ sizeLine := by rw [List.size_toArray, ← rs.length, sizeLine_eq]; omega
        have hT : s.TypeIs (.ref p.1) "list" := ⟨_, h1, rfl⟩
        refine wpAny_call_entry slot_list_append hT entry_list_append ?_ (args_list_append _ _)
        show wpAny _ _ (updateSeq p.1 (·.push y) >>= fun _ => PySem.ret .none) _ _ s
        refine wpAny_bind (wpAny_updateSeq h1 rfl (wpAny_pure ⟨.none, rfl, ?_⟩) hz (by rw [Array.size_push]; omega))
        have hself : (s.heap.update p.1 (Obj.mapSeq (·.push y))).get? p.1 = some (listObj (vs ++ [y]) (n + 1)) := by
          rw [Heap.get?_update_self _ h1 (by rfl)]
          simp [Obj.mapSeq]
        have sb := Heap.SameBut.update s.heap p.1 (Obj.mapSeq (·.push y))
        obtain ⟨R', E'⟩ := R.cellTurn (h' := s.heap.update p.1 (Obj.mapSeq (·.push y))) (o' := .list (l ++ [v])) e' (fun a o ea n1 _ => (sb.2 a n1).trans ea)
          (fun a o ea => by
            by_cases qa : a = p.1
            · subst qa; exact ⟨_, hself⟩
            · exact ⟨o, (sb.2 a qa).trans ea⟩)
          (fun S => ⟨vs ++ [y], n + 1, hself, h2, (rs.mono S).append (.cons _ _ _ _ (ry.mono S) .nil)⟩) s.toks
        exact q ws _ .none .none _ kk E' R' .none
theorem Mt.append {k : Nat} {l : List V} (e : σ[k]? = some (.list l)) : Mt c (.ref k) σ "append" (.builtin "list.append") := by
  intro A ws s val pl Q R r q
  cases r with
  | ref _ p e' =>
    obtain ⟨vs, n, h1, h2, rs⟩ := R.at e e'
    exact getMethod_list_append h1 rfl rfl (q s.toks)
end
end Mine
end
section
set_option maxRecDepth 100000
set_option Elab.async false
set_option linter.unusedVariables false
namespace Mine
open PySem PySem.W PySem.Calls PyProof.Rows

section
variable {c : Cx} {fm : Fm} {A : Around} {ρ : Ρ} {σ : List O} {K : FV → Ρ → List O → Prop}

/-! ## Joins -/
def Sub (ρ₂ ρ₁ : Ρ) : Prop := ∀ (x : String) v, ρ₂.lookup x = some v → ρ₁.lookup x = some v
theorem Sub.nil (ρ : Ρ) : Sub [] ρ := fun _ _ e => by cases e
theorem Sub.cons {x : String} {v : V} {ρ₂ ρ₁ : Ρ} (e : ρ₁.lookup x = some v) (s : Sub ρ₂ ρ₁) : Sub ((x, v) :: ρ₂) ρ₁ := fun y w q => by
  by_cases h : y = x
  · subst h
    have : v = w := by simpa [List.lookup] using q
    exact this ▸ e
  · have hb : (y == x) = false := beq_eq_false_iff_ne.mpr h
    exact s y w (by simpa [List.lookup, hb] using q)
theorem Loc.sub' {ws : Ws} {ρ₁ ρ₂ : Ρ} {h : Heap} (L : Loc c fm ws ρ₁ h) (s : Sub ρ₂ ρ₁) : Loc c fm ws ρ₂ h :=
  ⟨L.kind, L.glob, L.blt, L.mem, L.sub, let ⟨m, hn, hm⟩ := L.ns; ⟨m, hn, fun x v e k => hm x v (s x v e) k⟩, fun x v e => L.cel x v (s x v e), L.cells, L.cne⟩
theorem Ex.weaken {t : Sem Flow} {ρ₁ ρ₂ : Ρ} (s : Sub ρ₂ ρ₁) (h : Ex c fm A t ρ₂ σ K) : Ex c fm A t ρ₁ σ K :=
  fun ws s' Q R L q => h ws s' Q R (L.sub' s) q
theorem Ex.mono {t : Sem Flow} {K' : FV → Ρ → List O → Prop} (h : Ex c fm A t ρ σ K) (k : ∀ f ρ σ, K f ρ σ → K' f ρ σ) : Ex c fm A t ρ σ K' :=
  fun ws s Q R L q => h ws s Q R L fun ws' s' f fl ρ' σ' kk => q ws' s' f fl ρ' σ' (k _ _ _ kk)
theorem As.mono {t : Value → Sem Unit} {v : V} {K K' : Ρ → List O → Prop} (h : As c fm A t v ρ σ K) (k : ∀ ρ σ, K ρ σ → K' ρ σ) : As c fm A t v ρ σ K' :=
  fun ws s val Q R L r q => h ws s val Q R L r fun ws' s' ρ' σ' kk => q ws' s' ρ' σ' (k _ _ kk)
/-- a statement's paths meet again -/
theorem Ex.cut {ι : Type} (ρ₂ : ι → Ρ) (M : ι → List O → Prop) {st : Stmt} {rest : List Stmt} (h : Ex c fm A (exec st fm.env) ρ σ fun f ρ' σ' => (f = .next ∧ ∃ i, Sub (ρ₂ i) ρ' ∧ M i σ') ∨ (f ≠ .next ∧ K f ρ' σ'))
    (h2 : ∀ i σ', M i σ' → Ex c fm A (execs rest fm.env) (ρ₂ i) σ' K) : Ex c fm A (execs (st :: rest) fm.env) ρ σ K := by
  refine Ex.cons (h.mono fun f ρ' σ' kk => ?_)
  rcases kk with ⟨rfl, i, s, m⟩ | ⟨hf, k⟩
  · exact (h2 i σ' m).weaken s
  · cases f with
    | next => exact absurd rfl hf
    | brk => exact k
    | cont => exact k
    | ret v => exact k

/-! ## Iterating -/
def It (c : Cx) (v : V) (l : List V) (G : List O → Prop) : Prop :=
  ∃ St : Value → Nat → Nat → Heap → Prop,
    (∀ val a i (h h' : Heap), (∀ o, h.get? a = some o → h'.get? a = some o) → St val a i h → St val a i h') ∧
    (∀ A ws σ s val (Q : Value → Shared → Prop), G σ → Rel c ws σ s → RV c.P ws s.heap v val → (∀ o : Obj, o.isFreed = false → St val s.heap.objs.size 0 (s.heap.push o) → Q (.ref s.heap.objs.size) { s with heap := s.heap.push o }) →
      wpAny (model c.prog c.w) A (pyIter val) Q NoE s) ∧
    (∀ A ws σ s val a i x (Q : Option Value → Shared → Prop), A.handled = none → l[i]? = some x → a ∈ ws.hot → G σ → Rel c ws σ s → RV c.P ws s.heap v val → St val a i s.heap →
      (∀ h' xv tk, St val a (i + 1) h' → (∃ o, h'.get? a = some o) → Heap.SameBut a s.heap h' → RV c.P ws h' x xv → Q (some xv) { s with heap := h', toks := tk }) → wpAny (model c.prog c.w) A (pyNext (.ref a)) Q NoE s) ∧
    (∀ A ws σ s val a i (Q : Option Value → Shared → Prop), A.handled = none → l[i]? = none → i ≤ l.length → a ∈ ws.hot → G σ → Rel c ws σ s → RV c.P ws s.heap v val → St val a i s.heap →
      (∀ h' tk, Heap.ExtBut a s.heap h' → Q none { s with heap := h', toks := tk }) → wpAny (model c.prog c.w) A (pyNext (.ref a)) Q NoE s) ∧
    (∀ A (s : Shared) val a i (Q : Value → Shared → Prop), St val a i s.heap → Q (.ref a) s → wpAny (model c.prog c.w) A (pyIter (.ref a)) Q NoE s) ∧
    (∀ A (s : Shared) val a i target v (Q : Unit → Shared → Prop), St val a i s.heap → Q () s → wpAny (model c.prog c.w) A (letOwnedTupleGo target (.ref a) v) Q NoE s)

theorem IsListIter.there {h : Heap} {a l i : Nat} (x : h.IsListIter a l i) : ∃ o, h.get? a = some o := let ⟨o, e, _⟩ := x; ⟨o, e⟩
theorem IsTupleIter.there {h : Heap} {a l i : Nat} (x : h.IsTupleIter a l i) : ∃ o, h.get? a = some o := let ⟨o, e, _⟩ := x; ⟨o, e⟩
theorem Heap.IsTupleIter.at {h h' : Heap} {a l i : Nat} (x : h.IsTupleIter a l i) (e : ∀ o, h.get? a = some o → h'.get? a = some o) : h'.IsTupleIter a l i := let ⟨o, ho, r⟩ := x; ⟨o, e _ ho, r⟩

/-- the readable lists -/
inductive Lq (σ : List O) : V → List V → Prop
  | lst (l : List V) : Lq σ (.lst l) l
  | arr (l : List V) : Lq σ (.arr l) l
  | list (k : Nat) (l : List V) : σ[k]? = some (.list l) → Lq σ (.ref k) l
  | larr (k : Nat) (l : List V) : σ[k]? = some (.arr l) → Lq σ (.ref k) l
theorem Lq.in {ws : Ws} {s : Shared} (R : Rel c ws σ s) {v : V} {l : List V} {val : Value} (q : Lq σ v l) (r : RV c.P ws s.heap v val) :
    ∃ a vs, val = .ref a ∧ s.heap.IsList a vs.toArray ∧ RVs c.P ws s.heap l vs := by
  cases q with
  | lst l => cases r with | lst _ a vs n f e rs => exact ⟨a, vs, rfl, ⟨_, e, rfl, _, rfl⟩, rs⟩
  | arr l => cases r with | arr _ a vs f e rs => exact ⟨a, vs, rfl, e, rs⟩
  | list k l e =>
    cases r with
    | ref _ p e' =>
      obtain ⟨vs, n, h1, _, rs⟩ := R.at e e'
      exact ⟨p.1, vs, rfl, ⟨_, h1, rfl, _, rfl⟩, rs⟩
  | larr k l e =>
    cases r with
    | ref _ p e' =>
      obtain ⟨vs, h1, _, rs⟩ := R.at e e'
      exact ⟨p.1, vs, rfl, h1, rs⟩
theorem Lq.sq {v : V} {l : List V} (q : Lq σ v l) : Sq σ v l := by
  cases q with
  | lst l => exact .lst l
  | arr l => exact .arr l
  | list k l e => exact .list k l e
  | larr k l e => exact .larr k l e

/-- what is hot turns -/
theorem hot_step {ws : Ws} {h h' : Heap} {a : Nat} (ha : a ∈ ws.hot) (sb : Heap.SameBut a h h') : Step ws h ws h' :=
  ⟨fun b o e f => ⟨(sb.2 b fun q => f.1 (q ▸ ha)).trans e, f⟩, fun _ _ e => e⟩

theorem It.list {v : V} {l : List V} : It c v l fun σ => Lq σ v l := by
  refine ⟨fun val a i h => ∃ ax, val = .ref ax ∧ h.IsListIter a ax i, fun val a i h h' k ⟨ax, e, x⟩ => ⟨ax, e, x.at k⟩, ?_, ?_, ?_, ?_, ?_⟩
  · intro A ws σ s val Q g R r q
    obtain ⟨ax, vs, rfl, hl, rs⟩ := g.in R r
    exact wpAny_pyIter_list hl (q _ rfl ⟨ax, rfl, _, Heap.get?_push_size _ rfl, rfl, rfl⟩)
  · intro A ws σ s val a i x Q hh hx ha g R r st q
    obtain ⟨ax, vs, rfl, hl, rs⟩ := g.in R r
    obtain ⟨ax', e, hit⟩ := st
    cases e
    obtain ⟨xv, hxv, rx⟩ := rs.get hx
    exact wpAny_pyNext_list_item hit hl (by simpa using hxv) fun h' hit' sb => q h' xv s.toks ⟨ax, rfl, hit'⟩ (IsListIter.there hit') sb (rx.mono (hot_step ha sb))
  · intro A ws σ s val a i Q hh hx hi ha g R r st q
    obtain ⟨ax, vs, rfl, hl, rs⟩ := g.in R r
    obtain ⟨ax', e, hit⟩ := st
    cases e
    have : vs.toArray[i]? = none := by
      rw [List.getElem?_toArray]
      exact List.getElem?_eq_none (by rw [← rs.length]; exact List.getElem?_eq_none_iff.mp hx)
    exact wpAny_pyNext_list_end hh hit hl this fun h' eb => q h' s.toks eb
  · rintro A s val a i Q ⟨ax, rfl, hit⟩ q
    exact wpAny_pyIter_listiter hit q
  · rintro A s val a i target v Q ⟨ax, rfl, hit⟩ q
    exact letGo_listiter hit q

theorem It.tup {l : List V} : It c (.tup l) l fun _ => True := by
  refine ⟨fun val a i h => ∃ ax, val = .ref ax ∧ h.IsTupleIter a ax i, fun val a i h h' k ⟨ax, e, x⟩ => ⟨ax, e, Heap.IsTupleIter.at x k⟩, ?_, ?_, ?_, ?_, ?_⟩
  · intro A ws σ s val Q g R r q
    cases r with
    | tup _ ax vs n f e rs => exact wpAny_pyIter_tuple ⟨_, e, rfl, _, rfl⟩ (q _ rfl ⟨ax, rfl, _, Heap.get?_push_size _ rfl, rfl, rfl⟩)
  · intro A ws σ s val a i x Q hh hx ha g R r st q
    cases r with
    | tup _ ax vs n f e rs =>
      obtain ⟨ax', e', hit⟩ := st
      cases e'
      obtain ⟨xv, hxv, rx⟩ := rs.get hx
      exact wpAny_pyNext_tuple_item hit ⟨_, e, rfl, _, rfl⟩ (by simpa using hxv) fun h' hit' sb => q h' xv s.toks ⟨ax, rfl, hit'⟩ (IsTupleIter.there hit') sb (rx.mono (hot_step ha sb))
  · intro A ws σ s val a i Q hh hx hi ha g R r st q
    cases r with
    | tup _ ax vs n f e rs =>
      obtain ⟨ax', e', hit⟩ := st
      cases e'
      have : vs.toArray[i]? = none := by
        rw [List.getElem?_toArray]
        exact List.getElem?_eq_none (by rw [← rs.length]; exact List.getElem?_eq_none_iff.mp hx)
      exact wpAny_pyNext_tuple_end hh hit ⟨_, e, rfl, _, rfl⟩ this fun h' eb => q h' s.toks eb
  · rintro A s val a i Q ⟨ax, rfl, hit⟩ q
    exact wpAny_pyIter_tupleiter hit q
  · rintro A s val a i target v Q ⟨ax, rfl, hit⟩ q
    exact letGo_tupleiter hit q

theorem letGo_rangeiter {prog : Program} {w : World} {E : Value → Shared → Prop} {target : Expr} {I : Nat} {x left step : Int} {v : Value} {Q' : Unit → Shared → Prop} {s' : Shared} (hit : IsRangeIter s'.heap I x left step) (h : Q' () s') :
    wpAny (model prog w) A (letOwnedTupleGo target (.ref I) v) Q' E s' := by
  unfold letOwnedTupleGo
  cases target <;> first
    | exact wpAny_pure h
    | (cases v <;> first
        | exact wpAny_pure h
        | (refine wpAny_bind (wpAny_load hit ?_)
           exact wpAny_pure h))
def rngL (a : Int) (n : Nat) : List V := (List.range n).map fun (i : Nat) => V.int (a + (i : Int))
theorem rngL_get {a : Int} {n i : Nat} {x : V} (h : (rngL a n)[i]? = some x) : i < n ∧ x = .int (a + i) := by
  simp only [rngL, List.getElem?_map, Option.map_eq_some_iff] at h
  obtain ⟨j, hj, e⟩ := h
  have := List.getElem?_eq_some_iff.mp hj
  obtain ⟨hl, he⟩ := this
  have hl' : i < n := by simpa using hl
  have he' : i = j := by simpa using he
  exact ⟨hl', by rw [← e, he']⟩
theorem It.range {a : Int} {n : Nat} (ha : -1000000 < a) (ha' : a < 1000000) (hn : n < 1000000) : It c (.rng a (a + n)) (rngL a n) fun _ => True := by
  refine ⟨fun val b i h => IsRangeIter h b (a + i) (n - i) 1 , fun val b i h h' k x => k _ x, ?_, ?_, ?_, ?_, ?_⟩
  · intro A ws σ s val Q g R r q
    cases r with
    | rng _ _ r t u v f e =>
      have hsz : Builtin.Range.rangeSize a (a + n) 1 = n := by
        unfold Builtin.Range.rangeSize
        simp
        omega
      refine wpAny_pyIter_range e ?_ ?_
      · unfold Builtin.Range.small Builtin.Range.rangeFitsLong
        rw [hsz]
        simp
        omega
      · rw [hsz]
        exact q _ rfl (by simpa using Heap.get?_push_size _ rfl)
  · intro A ws σ s val b i x Q hh hx hb g R r st q
    obtain ⟨hi, rfl⟩ := rngL_get hx
    refine wpAny_pyNext_range_item st (by omega) fun h' hit' sb => ?_
    exact q h' _ _ (by
      have e1 : a + ((i + 1 : Nat) : Int) = a + i + 1 := by omega
      have e2 : (n : Int) - ((i + 1 : Nat) : Int) = n - i - 1 := by omega
      show IsRangeIter h' b (a + ((i + 1 : Nat) : Int)) (n - ((i + 1 : Nat) : Int)) 1
      rw [e1, e2]; exact hit') ⟨_, hit'⟩ sb (.int _ _)
  · intro A ws σ s val b i Q hh hx hi hb g R r st q
    have : n ≤ i := by
      have := List.getElem?_eq_none_iff.mp hx
      simpa [rngL] using this
    exact wpAny_pyNext_range_end hh st (by omega) fun h' eb => q h' s.toks eb
  · intro A s val b i Q hit q
    exact wpAny_pyIter_rangeiter hit q
  · intro A s val b i target v Q hit q
    exact letGo_rangeiter hit q

end
end Mine
end
section
set_option maxRecDepth 100000
set_option Elab.async false
set_option linter.unusedVariables false
namespace Mine
open PySem PySem.W PySem.Calls PyProof.Rows

section
variable {c : Cx} {fm : Fm} {A : Around} {ρ : Ρ} {σ : List O} {K : FV → Ρ → List O → Prop}

theorem wp_NoE {α : Type} {M : Model} {t : Sem α} {Q : α → Shared → Prop} {E : Value → Shared → Prop} {s : Shared} (h : wpAny M A t Q NoE s) : wpAny M A t Q E s := wpAny_mono h (fun _ _ x => x) fun _ _ x => x.elim

/-- a hot address that is left aside -/
theorem Ext.coolBut {own : List Nat} {ws ws' : Ws} {h h₁ h' h'' : Heap} {a : Nat} (ha : h.get? a = none) (keep : ∀ (b : Nat) o, h.get? b = some o → h₁.get? b = some o) (E : Ext (a :: own) (ws.heat a) h₁ ws' h') (eb : Heap.ExtBut a h' h'') :
    ws' = (⟨ws.hot, ws'.cs⟩ : Ws).heat a ∧ Ext own ws h ⟨ws.hot, ws'.cs⟩ h'' := by
  obtain ⟨e, E'⟩ := Ext.cool ha keep E
  have ne : ∀ b o, h.get? b = some o → b ≠ a := fun b o q w => by subst w; rw [ha] at q; cases q
  exact ⟨e, E'.hot, E'.cs, fun b o q no na => eb b o (ne b o q) (E'.keep b o q no na), fun b o q => let ⟨o', q'⟩ := E'.there b o q; ⟨o', eb b o' (ne b o q) q'⟩⟩
theorem Rel.coolBut {ws : Ws} {s : Shared} {a : Nat} {h' : Heap} (R : Rel c (ws.heat a) σ s) (hot : a ∉ ws.hot) (eb : Heap.ExtBut a s.heap h') (t : Nat) : Rel c ws σ { s with heap := h', toks := t } ∧ Step (ws.heat a) s.heap ws h' := by
  have S : Step (ws.heat a) s.heap ws h' := ⟨fun b o e f => ⟨eb b o (fun q => f.1 (q ▸ .head _)) e, fun m => f.1 (.tail _ m), f.2⟩, fun _ _ e => e⟩
  have R' := R.cool
  have na : a ∉ ws.adr := R.apart a (.head _)
  have nb : c.h₀.get? a = none := R.fresh a (.inl (.head _))
  exact ⟨⟨fun b o e => eb b o (fun q => by subst q; rw [nb] at e; cases e) (R.base b o e), R.gens, R.os, R.len, fun k o p h1 h2 => (R.objs k o p h1 h2).same S fun b o w e => eb b o (fun q => na (q ▸ by
      rcases w with w | w
      · exact w ▸ (Ws.at_adr h2).1
      · exact w ▸ (Ws.at_adr h2).2)) e, fun b h => let ⟨o, e⟩ := R'.there b h; ⟨o, eb b o (fun q => by
        subst q
        rcases h with h | h
        · exact hot h
        · exact na h) e⟩, R'.fresh, R'.apart, R'.dist, R'.mods⟩, S⟩
theorem Loc.coolBut {ws : Ws} {a : Nat} {h h' : Heap} (L : Loc c fm (ws.heat a) ρ h) (S : Step (ws.heat a) h ws h') (eb : Heap.ExtBut a h h') (sub : ∀ b ∈ fm.own, b ∈ ws.hot) (nl : fm.env.locals ≠ a) (nc : ∀ x ca, fm.env.cells.lookup x = some ca → ca ≠ a) : Loc c fm ws ρ h' := by
  obtain ⟨m, hn, hm⟩ := L.ns
  have cell : ∀ x ca v, fm.env.cells.lookup x = some ca → h.IsCell ca v → h'.IsCell ca v := fun x ca v e ⟨o, ho, hd⟩ => ⟨o, eb _ _ (nc x ca e) ho, hd⟩
  refine ⟨L.kind, L.glob, L.blt, L.mem, sub, ⟨m, ?_, fun x v e k => let ⟨val, e', r⟩ := hm x v e k; ⟨val, e', r.mono S⟩⟩, fun x v e => ?_, fun x ca e => ?_, L.cne⟩
  · obtain ⟨o, es, ep, ho, r⟩ := hn
    exact ⟨o, es, ep, eb _ _ nl ho, r⟩
  · rcases L.cel x v e with k | ⟨k, ca, val, e1, e2, r⟩
    · exact .inl k
    · exact .inr ⟨k, ca, val, e1, cell _ _ _ e1 e2, r.mono S⟩
  · obtain ⟨p, b, v, hv⟩ := L.cells x ca e
    refine ⟨?_, b, v, cell _ _ _ e hv⟩
    rcases List.mem_cons.mp p with q | q
    · exact absurd q (nc x ca e)
    · exact q

theorem Ex.for {n : Nat} {target iter : Expr} {body : List Stmt} {pos : Pos} {J : Nat → Ρ → List O → Prop} (a_1 : AOk A n)
    (h : Ev c fm A (eval iter fm.env) ρ σ fun v σ₁ => ∃ l G, It c v l G ∧ J 0 ρ σ₁ ∧ (∀ i ρ' σ', J i ρ' σ' → G σ') ∧
      (∀ i x ρ' σ', l[i]? = some x → J i ρ' σ' → As c fm A (assign target fm.env) x ρ' σ' fun ρ'' σ'' => Ex c fm A (execs body fm.env) ρ'' σ'' fun f ρ₃ σ₃ => match f with
        | .next => J (i + 1) ρ₃ σ₃ | .cont => J (i + 1) ρ₃ σ₃ | .brk => K .next ρ₃ σ₃ | .ret v => K (.ret v) ρ₃ σ₃) ∧
      (∀ ρ' σ', J l.length ρ' σ' → K .next ρ' σ'))
    (hs : ∀ x, foldedSetIterable iter fm.env x = pure x := by intro _; rfl) : Ex c fm A (exec (.For target iter body [] pos) fm.env) ρ σ K := by
  intro ws s Q R L q
  refine wpAny_For (wpAny_mono (h ws s _ R L fun ws₁ s₁ v val σ₁ k₁ E₁ R₁ L₁ r₁ => ?_) (fun _ _ x => x) fun _ _ x => x) hs
  obtain ⟨l, G, ⟨St, stk, start, next, fin, self, go⟩, j0, jg, turn, done⟩ := k₁
  refine start A ws₁ σ₁ s₁ val _ (jg _ _ _ j0) R₁ r₁ fun o hf st0 => ?_
  have g : s₁.heap.get? s₁.heap.objs.size = none := get_size _
  have keep : ∀ (b : Nat) o', s₁.heap.get? b = some o' → (s₁.heap.push o).get? b = some o' := fun b o' e => Heap.get?_push_of_some o e
  have tL : ∃ o', (s₁.heap.push o).get? s₁.heap.objs.size = some o' := ⟨o, Heap.get?_push_size _ hf⟩
  generalize ha : s₁.heap.objs.size = a at *
  have R₂ : Rel c (ws₁.heat a) σ₁ { s₁ with heap := s₁.heap.push o } := R₁.heat g tL keep s₁.toks
  have S₁ : Step ws₁ s₁.heap (ws₁.heat a) (s₁.heap.push o) := heat_step ws₁ g keep
  have L₂ : Loc c fm (ws₁.heat a) ρ (s₁.heap.push o) := L₁.mono S₁ (fun b hb => .tail _ hb) fun b o' e _ => keep b o' e
  have nh : a ∉ ws₁.hot := fun m => by obtain ⟨o', e⟩ := R₁.there a (.inl m); rw [g] at e; cases e
  have no : a ∉ fm.own := fun m => nh (L₁.sub a m)
  have nl : fm.env.locals ≠ a := fun e => no (e ▸ L₁.mem)
  have nc : ∀ x ca, fm.env.cells.lookup x = some ca → ca ≠ a := fun x ca e q => nh (q ▸ (L₁.cells x ca e).1)
  have out : ∀ ws' s' f fl ρ' σ', K f ρ' σ' → Ext (a :: fm.own) (ws₁.heat a) (s₁.heap.push o) ws' s'.heap → Rel c ws' σ' s' → Loc c fm ws' ρ' s'.heap → RF c.P ws' s'.heap f fl → ∀ h' tk, Heap.ExtBut a s'.heap h' → Q fl { s' with heap := h', toks := tk } := by
    intro ws' s' f fl ρ' σ' k E' R' L' rf h' tk eb
    obtain ⟨e, E''⟩ := Ext.coolBut g keep E' eb
    rw [e] at R' L' rf
    obtain ⟨R'', S''⟩ := R'.coolBut nh eb tk
    refine q _ _ f fl ρ' σ' k (E₁.nil.trans E'') R'' (L'.coolBut S'' eb L₁.sub nl nc) ?_
    cases rf with
    | next => exact .next
    | brk => exact .brk
    | cont => exact .cont
    | ret v x r => exact .ret v x (r.mono S'')
  have sub : ∀ b ∈ fm.own, b ∈ (ws₁.heat a).hot := fun b hb => .tail _ (L₁.sub b hb)
  have sub' : ∀ b ∈ (a :: fm.own), b ∈ (ws₁.heat a).hot := fun b hb => by
    rcases List.mem_cons.mp hb with q | q
    · subst q; exact .head _
    · exact sub b q
  refine codeAny_forLoop_any (fun m s' => ∃ i ws' σ' ρ', m = l.length - i ∧ i ≤ l.length ∧ J i ρ' σ' ∧ Ext (a :: fm.own) (ws₁.heat a) (s₁.heap.push o) ws' s'.heap ∧ Rel c ws' σ' s' ∧ Loc c fm ws' ρ' s'.heap ∧ St val a i s'.heap)
    ?_ (l.length) ⟨0, ws₁.heat a, σ₁, ρ, by simp, Nat.zero_le _, j0, .refl .., R₂, L₂, st0⟩
  rintro m s' ⟨i, ws', σ', ρ', rfl, hi, j, E', R', L', st⟩
  have hot' : a ∈ ws'.hot := by rw [E'.hot]; exact .head _
  have rv : RV c.P ws' s'.heap v val := (r₁.mono S₁).mono (E'.step sub')
  cases hx : l[i]? with
  | none =>
    have hl : i = l.length := by have := List.getElem?_eq_none_iff.mp hx; omega
    subst hl
    refine wp_NoE (fin A ws' σ' s' val a _ _ a_1.handled hx (Nat.le_refl _) hot' (jg _ _ _ j) R' rv st fun h' tk eb => ?_)
    exact wpAny_execs_nil (out ws' s' .next .next ρ' σ' (done ρ' σ' j) E' R' L' .next h' tk eb)
  | some x =>
    have hlt : i < l.length := (List.getElem?_eq_some_iff.mp hx).1
    refine wp_NoE (next A ws' σ' s' val a i x _ a_1.handled hx hot' (jg _ _ _ j) R' rv st fun h' xv tk st' there' sb rx => ?_)
    have Sn : Step ws' s'.heap ws' h' := hot_step hot' sb
    have keep' : ∀ (b : Nat) o, s'.heap.get? b = some o → b ∉ [a] → h'.get? b = some o := fun b o e nb => (sb.2 b fun q => nb (by simp [q])).trans e
    have thr' : ∀ (b : Nat) o, s'.heap.get? b = some o → ∃ o', h'.get? b = some o' := fun b o e => by
      by_cases qb : b = a
      · subst qb; exact there'
      · exact ⟨o, (sb.2 b qb).trans e⟩
    have Rn : Rel c ws' σ' { s' with heap := h', toks := tk } := R'.turn tk [a] (by simpa using hot') keep' thr'
    have Ln : Loc c fm ws' ρ' h' := L'.mono Sn (fun _ m => m) fun b o e w => (sb.2 b (by
      rcases w with w | ⟨y, w⟩
      · subst w; exact nl
      · exact nc y b w)).trans e
    have En : Ext (a :: fm.own) ws' s'.heap ws' h' := ⟨rfl, ⟨[], by simp, by simp⟩, fun b o e nb _ => keep' b o e (fun w => nb (by simp at w; simp [w])), thr'⟩
    refine wp_NoE (go A { s' with heap := h', toks := tk } val a (i + 1) target xv _ st' ?_)
    refine wp_NoE (turn i x ρ' σ' hx j ws' _ xv _ Rn Ln rx fun ws₃ s₃ ρ₃ σ₃ k₃ E₃ R₃ L₃ => ?_)
    refine wp_NoE (k₃ ws₃ s₃ _ R₃ L₃ fun ws₄ s₄ f fl ρ₄ σ₄ k₄ E₄ R₄ L₄ rf => ?_)
    have E₃₄ : Ext fm.own ws' h' ws₄ s₄.heap := E₃.trans E₄
    have Eall : Ext (a :: fm.own) (ws₁.heat a) (s₁.heap.push o) ws₄ s₄.heap := (E'.trans En).trans (E₃₄.mono fun b hb => .tail _ hb)
    have st₄ : St val a (i + 1) s₄.heap := stk val a (i + 1) _ _ (fun o e => E₃₄.keep a o e no (R'.apart a hot')) st'
    cases rf with
    | next => exact ⟨l.length - (i + 1), by omega, i + 1, ws₄, σ₄, ρ₄, rfl, hlt, k₄, Eall, R₄, L₄, st₄⟩
    | cont => exact ⟨l.length - (i + 1), by omega, i + 1, ws₄, σ₄, ρ₄, rfl, hlt, k₄, Eall, R₄, L₄, st₄⟩
    | brk => exact out ws₄ s₄ .next .next ρ₄ σ₄ k₄ Eall R₄ L₄ .next s₄.heap s₄.toks fun _ _ _ e => e
    | ret v x r => exact out ws₄ s₄ (.ret v) (.ret x) ρ₄ σ₄ k₄ Eall R₄ L₄ (.ret v x r) s₄.heap s₄.toks fun _ _ _ e => e
end
end Mine
end
section
set_option maxRecDepth 100000
set_option Elab.async false
set_option linter.unusedVariables false
namespace Mine
open PySem PySem.W PySem.Calls PyProof.Rows

section
variable {c : Cx} {fm : Fm} {A : Around} {ρ : Ρ} {σ : List O}

/-- fewer are hot -/
theorem Rel.less {ws : Ws} {s : Shared} (R : Rel c ws σ s) {hot' : List Nat} (sub : ∀ a ∈ hot', a ∈ ws.hot) {h' : Heap} {I : Nat} (hI : I ∈ ws.hot) (nI : I ∉ hot') (eb : Heap.ExtBut I s.heap h') (t : Nat) :
    Rel c ⟨hot', ws.cs⟩ σ { s with heap := h', toks := t } ∧ Step ws s.heap ⟨hot', ws.cs⟩ h' := by
  have S : Step ws s.heap ⟨hot', ws.cs⟩ h' := ⟨fun b o e f => ⟨eb b o (fun q => f.1 (q ▸ hI)) e, fun m => f.1 (sub b m), f.2⟩, fun _ _ e => e⟩
  have nb : c.h₀.get? I = none := R.fresh I (.inl hI)
  have na : I ∉ ws.adr := R.apart I hI
  refine ⟨⟨fun b o e => eb b o (fun q => by subst q; rw [nb] at e; cases e) (R.base b o e), R.gens, R.os, R.len, fun k o p h1 h2 => (R.objs k o p h1 h2).same S fun b o w e => eb b o (fun q => na (q ▸ by
      rcases w with w | w
      · exact w ▸ (Ws.at_adr h2).1
      · exact w ▸ (Ws.at_adr h2).2)) e, fun b h => ?_, fun b h => R.fresh b (h.imp (sub b) id), fun b h => R.apart b (sub b h), R.dist, R.mods⟩, S⟩
  obtain ⟨o, e⟩ := R.there b (h.imp (sub b) id)
  refine ⟨o, eb b o (fun q => ?_) e⟩
  subst q
  rcases h with h | h
  · exact nI h
  · exact na h
theorem Ext.less {own own' hot₂ hot : List Nat} {cs : List (Nat × Nat)} {ws' : Ws} {h h₂ h' h'' : Heap} (keep : ∀ (b : Nat) o, h.get? b = some o → h₂.get? b = some o) (E : Ext own ⟨hot₂, cs⟩ h₂ ws' h') (ho : ∀ a ∈ own, a ∈ own' ∨ h.get? a = none) {I : Nat} (hI : h.get? I = none) (eb : Heap.ExtBut I h' h'') :
    Ext own' ⟨hot, cs⟩ h ⟨hot, ws'.cs⟩ h'' := by
  have ne : ∀ b o, h.get? b = some o → b ≠ I := fun b o e q => by subst q; rw [hI] at e; cases e
  obtain ⟨more, e, m⟩ := E.cs
  have back : ∀ b, h₂.get? b = none → h.get? b = none := fun b e => by
    cases q : h.get? b with
    | none => rfl
    | some o => have := keep b o q; rw [e] at this; cases this
  refine ⟨rfl, ⟨more, e, fun p hp => ⟨back _ (m p hp).1, back _ (m p hp).2⟩⟩, fun b o e no na => eb b o (ne b o e) (E.keep b o (keep b o e) (fun q => ?_) na), fun b o e => let ⟨o', e'⟩ := E.there b o (keep b o e); ⟨o', eb b o' (ne b o e) e'⟩⟩
  rcases ho b q with w | w
  · exact no w
  · rw [w] at e; cases e
theorem Loc.move {ws ws' : Ws} {h h' : Heap} (L : Loc c fm ws ρ h) (S : Step ws h ws' h') (sub : ∀ b ∈ fm.own, b ∈ ws'.hot) (hot : ∀ x ca, fm.env.cells.lookup x = some ca → ca ∈ ws'.hot) (keep : ∀ a o, h.get? a = some o → a = fm.env.locals ∨ (∃ x, fm.env.cells.lookup x = some a) → h'.get? a = some o) : Loc c fm ws' ρ h' := by
  obtain ⟨m, hn, hm⟩ := L.ns
  have cell : ∀ x ca v, fm.env.cells.lookup x = some ca → h.IsCell ca v → h'.IsCell ca v := fun x ca v e ⟨o, ho, hd⟩ => ⟨o, keep _ _ ho (.inr ⟨x, e⟩), hd⟩
  refine ⟨L.kind, L.glob, L.blt, L.mem, sub, ⟨m, ?_, fun x v e k => let ⟨val, e', r⟩ := hm x v e k; ⟨val, e', r.mono S⟩⟩, fun x v e => ?_, fun x ca e => ?_, L.cne⟩
  · obtain ⟨o, es, ep, ho, r⟩ := hn
    exact ⟨o, es, ep, keep _ _ ho (.inl rfl), r⟩
  · rcases L.cel x v e with k | ⟨k, ca, val, e1, e2, r⟩
    · exact .inl k
    · exact .inr ⟨k, ca, val, e1, cell _ _ _ e1 e2, r.mono S⟩
  · obtain ⟨a, b, v, hv⟩ := L.cells x ca e
    exact ⟨hot x ca e, b, v, cell _ _ _ e hv⟩

/-! ## While loops -/
theorem Ex.while {K : FV → Ρ → List O → Prop} {test : Expr} {body : List Stmt} {pos : Pos} {J : Nat → Ρ → List O → Prop} (n : Nat) (j0 : J n ρ σ)
    (turn : ∀ m ρ' σ', J m ρ' σ' → Et c fm A (isTrue test fm.env (eval test fm.env)) ρ' σ' fun b σ₁ => if b then Ex c fm A (execs body fm.env) ρ' σ₁ fun f ρ₂ σ₂ => match f with
      | .next => ∃ k, k < m ∧ J k ρ₂ σ₂ | .cont => ∃ k, k < m ∧ J k ρ₂ σ₂ | .brk => K .next ρ₂ σ₂ | .ret v => K (.ret v) ρ₂ σ₂
      else K .next ρ' σ₁) : Ex c fm A (exec (.While test body [] pos) fm.env) ρ σ K := by
  intro ws s Q R L q
  refine wpAny_While (codeAny_whileLoop (fun m s' => ∃ ws' ρ' σ', J m ρ' σ' ∧ Ext fm.own ws s.heap ws' s'.heap ∧ Rel c ws' σ' s' ∧ Loc c fm ws' ρ' s'.heap) ?_ n ⟨ws, ρ, σ, j0, .refl .., R, L⟩)
  rintro m s' ⟨ws', ρ', σ', j, E, R', L'⟩
  refine wp_NoE (turn m ρ' σ' j ws' s' _ R' L' fun ws₁ s₁ b σ₁ k₁ E₁ R₁ L₁ => ?_)
  cases b with
  | false => exact wpAny_execs_nil (q ws₁ s₁ .next .next ρ' σ₁ k₁ (E.trans E₁.nil) R₁ L₁ .next)
  | true =>
    refine wp_NoE (k₁ ws₁ s₁ _ R₁ L₁ fun ws₂ s₂ f fl ρ₂ σ₂ k₂ E₂ R₂ L₂ rf => ?_)
    have E' := (E.trans E₁.nil).trans E₂
    cases rf with
    | next => obtain ⟨k, hk, j'⟩ := k₂; exact ⟨k, hk, ws₂, ρ₂, σ₂, j', E', R₂, L₂⟩
    | cont => obtain ⟨k, hk, j'⟩ := k₂; exact ⟨k, hk, ws₂, ρ₂, σ₂, j', E', R₂, L₂⟩
    | brk => exact q ws₂ s₂ .next .next ρ₂ σ₂ k₂ E' R₂ L₂ .next
    | ret v x r => exact q ws₂ s₂ (.ret v) (.ret x) ρ₂ σ₂ k₂ E' R₂ L₂ (.ret v x r)

/-! ## List comprehensions -/
def closeL (env : Env) : List (Str × NameKind) → List (Str × Addr) → List (Str × Addr)
  | [], acc => acc
  | (n, k) :: r, acc => closeL env r (if k == .free then (n, (env.cells.lookup n).getD 0) :: acc else acc)
theorem closureFor_eq {env : Env} : ∀ (names : List (Str × NameKind)) (acc : List (Str × Addr)), (∀ x ∈ names, x.2 = .free → ∃ ca, env.cells.lookup x.1 = some ca) →
    (forIn names acc fun (x : Str × NameKind) (cs : List (Str × Addr)) => (if x.2 == .free then (do let a ← cellOf env x.1; pure (ForInStep.yield ((x.1, a) :: cs))) else pure (ForInStep.yield cs) : Sem (ForInStep (List (Str × Addr))))) = pure (closeL env names acc)
  | [], acc, _ => rfl
  | (n, k) :: r, acc, h => by
    rw [List.forIn_cons]
    have hr : ∀ x ∈ r, x.2 = .free → ∃ ca, env.cells.lookup x.1 = some ca := fun x hx => h x (.tail _ hx)
    cases hk : k == NameKind.free with
    | true =>
      obtain ⟨ca, e⟩ := h (n, k) (.head _) (by simpa using hk)
      have e' : env.cells.lookup n = some ca := e
      simp only [cellOf, e', if_true, pure_bind, closeL, hk, Option.getD_some]
      exact closureFor_eq r _ hr
    | false =>
      simp only [Bool.false_eq_true, if_false, pure_bind, closeL, hk]
      exact closureFor_eq r _ hr
theorem closureFor_S {env : Env} {scope : Scope} (h : ∀ x ∈ scope.names, x.2 = .free → ∃ ca, env.cells.lookup x.1 = some ca) : closureFor scope env = pure (closeL env scope.names []) := by
  have := closureFor_eq scope.names [] h
  have e : closureFor scope env = ((forIn scope.names [] fun (x : Str × NameKind) (cs : List (Str × Addr)) => (if x.2 == .free then (do let a ← cellOf env x.1; pure (ForInStep.yield ((x.1, a) :: cs))) else pure (ForInStep.yield cs) : Sem (ForInStep (List (Str × Addr))))) >>= pure) := rfl
  rw [e, this]; rfl
theorem closeL_ok {env : Env} : ∀ (names : List (Str × NameKind)) (acc : List (Str × Addr)), (∀ x ∈ names, x.2 = .free → ∃ ca, env.cells.lookup x.1 = some ca) → (∀ y ca, acc.lookup y = some ca → env.cells.lookup y = some ca) →
    (∀ y ca, (closeL env names acc).lookup y = some ca → env.cells.lookup y = some ca) ∧ (∀ y, (y, NameKind.free) ∈ names ∨ (acc.lookup y).isSome = true → ((closeL env names acc).lookup y).isSome = true)
  | [], acc, _, ha => ⟨ha, fun y h => by rcases h with h | h; cases h; exact h⟩
  | (n, k) :: r, acc, h, ha => by
    have hr : ∀ x ∈ r, x.2 = .free → ∃ ca, env.cells.lookup x.1 = some ca := fun x hx => h x (.tail _ hx)
    simp only [closeL]
    cases hk : k == NameKind.free with
    | true =>
      have hk' : k = .free := by simpa using hk
      subst hk'
      obtain ⟨ca, e⟩ := h (n, .free) (.head _) rfl
      have e' : env.cells.lookup n = some ca := e
      simp only [if_true, e', Option.getD_some]
      obtain ⟨i1, i2⟩ := closeL_ok r ((n, ca) :: acc) hr fun y cb q => by
        by_cases hy : y = n
        · subst hy; have : ca = cb := by simpa [List.lookup] using q
          rw [← this]; exact e'
        · have hb : (y == n) = false := beq_eq_false_iff_ne.mpr hy
          exact ha y cb (by simpa [List.lookup, hb] using q)
      refine ⟨i1, fun y hy => i2 y ?_⟩
      by_cases q : y = n
      · subst q; right; simp [List.lookup]
      · have hb : (y == n) = false := beq_eq_false_iff_ne.mpr q
        rcases hy with hy | hy
        · rcases List.mem_cons.mp hy with w | w
          · cases w; exact absurd rfl q
          · exact .inl w
        · right; simpa [List.lookup, hb] using hy
    | false =>
      simp only [Bool.false_eq_true, if_false]
      obtain ⟨i1, i2⟩ := closeL_ok r acc hr ha
      refine ⟨i1, fun y hy => i2 y ?_⟩
      rcases hy with hy | hy
      · rcases List.mem_cons.mp hy with w | w
        · cases w; simp at hk
        · exact .inl w
      · exact .inr hy
/-- a comprehension's scope within its function's -/
def rel2 (scope sc : Scope) : Scope :=
  { scope with names := scope.names.map fun (n, k) => if (k == .free && sc.kind == .function && sc.names.lookup n == some .cell) then (n, .cell) else (n, k) }
theorem relabel_eq (scope : Scope) (env : Env) : relabel scope env = rel2 scope env.scope := rfl
theorem rel2_free {sc : Scope} : ∀ {names : List (Str × NameKind)} {x : Str}, names.lookup x = some .free →
    (names.map fun (n, k) => if (k == NameKind.free && sc.kind == .function && sc.names.lookup n == some .cell) then (n, NameKind.cell) else (n, k)).lookup x = some .cell ∨
    (names.map fun (n, k) => if (k == NameKind.free && sc.kind == .function && sc.names.lookup n == some .cell) then (n, NameKind.cell) else (n, k)).lookup x = some .free
  | [], _, h => by simp at h
  | (n, k) :: r, x, h => by
    have ih := @rel2_free sc r x
    simp only [List.map_cons]
    cases hx : x == n with
    | true =>
      simp only [List.lookup_cons, hx] at h
      cases h
      split <;> simp [List.lookup_cons, hx]
    | false =>
      simp only [List.lookup_cons, hx] at h
      split <;> (simp only [List.lookup_cons, hx]; exact ih h)
end
end Mine
end
section
set_option maxRecDepth 100000
set_option Elab.async false
set_option linter.unusedVariables false
namespace Mine
open PySem PySem.W PySem.Calls PyProof.Rows

section
variable {c : Cx} {fm : Fm} {A : Around} {ρ : Ρ} {σ : List O}

theorem hot_append {D : Nat} {vs : List Value} {n : Nat} {y : Value} {s : Shared} {Q : Value → Shared → Prop} {E : Value → Shared → Prop} (h1 : s.heap.get? D = some (listObj vs n)) (hl : vs.length < 2000000)
    (q : ∀ h', h'.get? D = some (listObj (vs ++ [y]) (n + 1)) → Heap.SameBut D s.heap h' → Q .none { s with heap := h' }) : wpAny (model c.prog c.w) A (call (.builtin "list.append") [.ref D, y]) Q E s := by
  have hz : vs.toArray.size ≤ sizeLine := by rw [List.size_toArray, sizeLine_eq]; omega
  have hT : s.TypeIs (.ref D) "list" := ⟨_, h1, rfl⟩
  refine wpAny_call_entry slot_list_append hT entry_list_append ?_ (args_list_append _ _)
  show wpAny _ _ (updateSeq D (·.push y) >>= fun _ => PySem.ret .none) _ _ s
  refine wpAny_bind (wpAny_updateSeq h1 rfl (wpAny_pure ⟨.none, rfl, ?_⟩) hz (by rw [Array.size_push]; omega))
  have hself : (s.heap.update D (Obj.mapSeq (·.push y))).get? D = some (listObj (vs ++ [y]) (n + 1)) := by
    rw [Heap.get?_update_self _ h1 (by rfl)]
    simp [Obj.mapSeq]
  exact q _ hself (Heap.SameBut.update s.heap D (Obj.mapSeq (·.push y)))

/-- the tests of a comprehension -/
abbrev tests (ifs : List Expr) (env : Env) : Sem Bool :=
  forIn ifs true fun c r => if r = true then do let ok ← isTrue c env (eval c env); pure (ForInStep.yield ok) else pure (ForInStep.yield r)
theorem Ts.nil {KB : Bool → List O → Prop} (h : KB true σ) : Et c fm A (tests [] fm.env) ρ σ KB := fun ws s Q R L q => wpAny_tests_nil (q ws s true σ h (.refl ..) R L)
theorem Ts.one {KB : Bool → List O → Prop} {e : Expr} (h : Et c fm A (isTrue e fm.env (eval e fm.env)) ρ σ KB) : Et c fm A (tests [e] fm.env) ρ σ KB := fun ws s Q R L q => wpAny_tests_one (h ws s Q R L q)

/-- what a comprehension's text must show -/
structure CompOk (fm : Fm) (ρ ρf : Ρ) (scope : Scope) (x : String) : Prop where
  kind : scope.kind = .function
  cell : ∀ y ∈ scope.names, y.2 ≠ .cell
  names : ∀ y ∈ scope.names, y.2 = .local → scope.names.lookup y.1 = some .local
  x : scope.names.lookup (Str.ofString x) = some .local
  free : ∀ y ∈ scope.names, y.2 = .free → ∃ (z : String) (w : V), y.1 = Str.ofString z ∧ ρf.lookup z = some w
  fv : ∀ z w, ρf.lookup z = some w → ρ.lookup z = some w ∧ scope.names.lookup (Str.ofString z) = some .free ∧ fm.env.kindOf (Str.ofString z) ≠ some .local

theorem CompOk.cells {ρf : Ρ} {scope : Scope} {x : String} (C : CompOk fm ρ ρf scope x) {ws : Ws} {h : Heap} (L : Loc c fm ws ρ h) : ∀ y ∈ scope.names, y.2 = .free → ∃ ca, fm.env.cells.lookup y.1 = some ca := by
  intro y hy hf
  obtain ⟨z, w, e, hz⟩ := C.free y hy hf
  obtain ⟨h1, h2, h3⟩ := C.fv z w hz
  rcases L.cel z w h1 with k | ⟨_, ca, val, e1, _⟩
  · exact absurd k h3
  · exact ⟨ca, by rw [e]; exact e1⟩
theorem mem_lookup {α : Type} : ∀ {l : List (Str × α)} {n : Str} {k : α}, l.lookup n = some k → (n, k) ∈ l
  | (m, v) :: r, n, k, h => by
    rw [List.lookup_cons] at h
    cases hb : n == m with
    | true => rw [hb] at h; cases h; rw [beq_iff_eq.mp hb]; exact List.mem_cons_self
    | false => rw [hb] at h; exact List.mem_cons_of_mem _ (mem_lookup h)

/-- the frame of a comprehension -/
theorem CompOk.loc {ρf : Ρ} {scope : Scope} {x : String} (C : CompOk fm ρ ρf scope x) {ws ws' : Ws} {h h' : Heap} (L : Loc c fm ws ρ h) (S : Step ws h ws' h') (keep : ∀ (b : Nat) o, h.get? b = some o → h'.get? b = some o) {a : Nat}
    (ha : h.get? a = none) (hot : ∀ b, b = a ∨ b ∈ ws.hot → b ∈ ws'.hot) (hn : ∃ m, h'.Ns a m) : Loc c ⟨compEnvC scope (closeL fm.env scope.names []) a fm.env, [a]⟩ ws' ρf h' := by
  have cs := C.cells L
  obtain ⟨i1, i2⟩ := closeL_ok (env := fm.env) scope.names [] cs (by simp)
  obtain ⟨m, hn⟩ := hn
  have kf : ∀ z w, ρf.lookup z = some w → Env.kindOf (compEnvC scope (closeL fm.env scope.names []) a fm.env) (Str.ofString z) = some .cell ∨ Env.kindOf (compEnvC scope (closeL fm.env scope.names []) a fm.env) (Str.ofString z) = some .free :=
    fun z w e => rel2_free (C.fv z w e).2.1
  have cell : ∀ ca v, h.IsCell ca v → h'.IsCell ca v := fun ca v ⟨o, ho, hd⟩ => ⟨o, keep _ _ ho, hd⟩
  refine ⟨C.kind, L.glob, L.blt, List.mem_singleton.mpr rfl, fun b hb => hot b (.inl (by simpa using hb)), ⟨m, hn, fun z w e k => ?_⟩, fun z w e => .inr ⟨kf z w e, ?_⟩, fun y ca e => ?_, fun y z ca e1 e2 => L.cne y z ca (i1 _ _ e1) (i1 _ _ e2)⟩
  · rcases kf z w e with q | q <;> (rw [q] at k; cases k)
  · obtain ⟨h1, h2, h3⟩ := C.fv z w e
    rcases L.cel z w h1 with k | ⟨_, ca, val, e1, e2, r⟩
    · exact absurd k h3
    · have hs := i2 (Str.ofString z) (.inl (mem_lookup h2))
      obtain ⟨cb, hcb⟩ := Option.isSome_iff_exists.mp hs
      have := i1 _ _ hcb
      rw [e1] at this; cases this
      exact ⟨ca, val, hcb, cell _ _ e2, r.mono S⟩
  · obtain ⟨p, q, v, hv⟩ := L.cells y ca (i1 _ _ e)
    refine ⟨hot ca (.inr p), fun w => ?_, v, cell _ _ hv⟩
    obtain ⟨o, ho, _⟩ := hv
    have w' : ca = a := w
    subst w'
    rw [ha] at ho; cases ho

/-- the turns of a comprehension -/
def Turns (c : Cx) (fm : Fm) (A : Around) (l : List V) (scope : Scope) (x : String) (ρf : Ρ) (ifs : List Expr) (elt : Expr) (J : Nat → List V → List O → Prop) : Prop :=
  ∀ (fm' : Fm) i v acc σ', fm'.env.scope = rel2 scope fm.env.scope → l[i]? = some v → J i acc σ' →
    Et c fm' A (tests ifs fm'.env) ((x, v) :: ρf) σ' fun b σ₁ => if b then Ev c fm' A (eval elt fm'.env) ((x, v) :: ρf) σ₁ fun y σ₂ => J (i + 1) (acc ++ [y]) σ₂ else J (i + 1) acc σ₁

theorem comp_core {n : Nat} (ao : AOk A n) {v : V} {val : Value} {l : List V} {G : List O → Prop} {St : Value → Nat → Nat → Heap → Prop}
    (stk : ∀ val a i (h h' : Heap), (∀ o, h.get? a = some o → h'.get? a = some o) → St val a i h → St val a i h')
    (next : ∀ A ws σ s val a i x (Q : Option Value → Shared → Prop), A.handled = none → l[i]? = some x → a ∈ ws.hot → G σ → Rel c ws σ s → RV c.P ws s.heap v val → St val a i s.heap →
      (∀ h' xv tk, St val a (i + 1) h' → (∃ o, h'.get? a = some o) → Heap.SameBut a s.heap h' → RV c.P ws h' x xv → Q (some xv) { s with heap := h', toks := tk }) → wpAny (model c.prog c.w) A (pyNext (.ref a)) Q NoE s)
    (fin : ∀ A ws σ s val a i (Q : Option Value → Shared → Prop), A.handled = none → l[i]? = none → i ≤ l.length → a ∈ ws.hot → G σ → Rel c ws σ s → RV c.P ws s.heap v val → St val a i s.heap →
      (∀ h' tk, Heap.ExtBut a s.heap h' → Q none { s with heap := h', toks := tk }) → wpAny (model c.prog c.w) A (pyNext (.ref a)) Q NoE s)
    (self : ∀ A (s : Shared) val a i (Q : Value → Shared → Prop), St val a i s.heap → Q (.ref a) s → wpAny (model c.prog c.w) A (pyIter (.ref a)) Q NoE s)
    {scope : Scope} {x : String} {px pos : Pos} {elt iter : Expr} {ifs : List Expr} {J : Nat → List V → List O → Prop} {ρf : Ρ} (C : CompOk fm ρ ρf scope x)
    (hlen : l.length ≤ 1000000) (j0 : J 0 [] σ) (jg : ∀ i acc σ', J i acc σ' → G σ') (turn : Turns c fm A l scope x ρf ifs elt J)
    {ws : Ws} {s : Shared} (R : Rel c ws σ s) (L : Loc c fm ws ρ s.heap) (r : RV c.P ws s.heap v val) (o : Obj) (hf : o.isFreed = false) (st0 : St val s.heap.objs.size 0 (s.heap.push o))
    {E : Value → Shared → Prop} (RR : Value → Nat → Result → Shared → Prop)
    (out : ∀ D Ca cs' acc σ' (s' : Shared), s.heap.get? Ca = none → Ca ∉ ws.hot → J l.length acc σ' → Ext [] ws s.heap ⟨ws.hot, cs'⟩ s'.heap → Rel c ⟨Ca :: ws.hot, cs'⟩ σ' s' → (∃ m, s'.heap.Ns Ca m) →
      Loc c fm ⟨Ca :: ws.hot, cs'⟩ ρ s'.heap → RV c.P ⟨Ca :: ws.hot, cs'⟩ s'.heap (.lst acc) (.ref D) → RR (.ref D) Ca (.ok .next) s') :
    wpAny (model c.prog c.w) A (newList []) (fun acc s₃ => wpAny (model c.prog c.w) A (newFunctionEnv scope fm.env.globals (closeL fm.env scope.names []) [] fm.env.qual none .none (some fm.env)) (fun cenv s₄ =>
      codeAny (model c.prog c.w) A (.compStart (.ListComp elt [⟨.Name (Str.ofString x) px, iter, ifs, 0⟩] scope pos) 0 (.ref s.heap.objs.size) acc { cenv with scope := relabel scope fm.env }) (RR acc cenv.locals) s₄) E s₃) E { s with heap := s.heap.push o } := by
  refine wpAny_newObj_type (wpAny_newFunctionEnv C.cell (by intro y hy; simp at hy) (fun h₄ hns hsb => ?_) C.kind)
  dsimp only at hns hsb ⊢
  generalize hI : s.heap.objs.size = I at *
  generalize hH1 : s.heap.push o = H1 at *
  have hD : H1.objs.size = I + 1 := by rw [← hH1, Heap.size_push, hI]
  generalize hH2 : H1.push { cls := .type "list", dict := none, data := .seq ([] : List Value).toArray } = H2 at *
  have hC : H2.objs.size = I + 2 := by rw [← hH2, Heap.size_push, hD]
  generalize hDd : H1.objs.size = D at *
  generalize hCc : H2.objs.size = Ca at *
  have g1 : s.heap.get? I = none := hI ▸ get_size _
  have gg : ∀ a : Nat, I ≤ a → s.heap.get? a = none := fun a ha => by
    cases q : s.heap.get? a with
    | none => rfl
    | some o =>
      have : a < s.heap.objs.size := Heap.lt_size q
      rw [hI] at this
      exact absurd this (Nat.not_lt.mpr ha)
  have g2 : s.heap.get? D = none := gg D (by omega)
  have g3 : s.heap.get? Ca = none := gg Ca (by omega)
  have k1 : ∀ (b : Nat) o', s.heap.get? b = some o' → H1.get? b = some o' := fun b o' e => hH1 ▸ Heap.get?_push_of_some o e
  have k2 : ∀ (b : Nat) o', H1.get? b = some o' → H2.get? b = some o' := fun b o' e => hH2 ▸ Heap.get?_push_of_some _ e
  have k3 : ∀ (b : Nat) o', H2.get? b = some o' → h₄.get? b = some o' := fun b o' e => hsb.extBut b o' (fun q => by
    have := Heap.lt_size e; rw [q, hCc] at this; exact absurd this (Nat.lt_irrefl _)) (Heap.get?_push_of_some _ e)
  have k4 : ∀ (b : Nat) o', s.heap.get? b = some o' → h₄.get? b = some o' := fun b o' e => k3 b o' (k2 b o' (k1 b o' e))
  have n1 : H1.get? D = none := hDd ▸ get_size H1
  have n2 : H2.get? Ca = none := hCc ▸ get_size H2
  have nsC : ∃ o', h₄.get? Ca = some o' := by obtain ⟨o', _, _, e, _⟩ := hns; exact ⟨o', e⟩
  have R₁ : Rel c (ws.heat I) σ { s with heap := H1 } := R.heat g1 ⟨o, by rw [← hH1, ← hI]; exact Heap.get?_push_size _ hf⟩ k1 s.toks
  have eD2 : H2.get? D = some (listObj [] 0) := by rw [← hH2, ← hDd]; exact Heap.get?_push_size _ rfl
  have R₂ : Rel c ((ws.heat I).heat D) σ { s with heap := H2 } := R₁.heat n1 ⟨_, eD2⟩ k2 s.toks
  have R₃ : Rel c (((ws.heat I).heat D).heat Ca) σ { s with heap := h₄, toks := s.toks + ([] : List (Str × Value)).length } := R₂.heat n2 nsC k3 _
  have S : Step ws s.heap (((ws.heat I).heat D).heat Ca) h₄ := ((heat_step ws g1 k1).trans (heat_step (ws.heat I) n1 k2)).trans (heat_step ((ws.heat I).heat D) n2 k3)
  have nh1 : I ∉ ws.hot := fun m => by obtain ⟨o', e⟩ := R.there I (.inl m); rw [g1] at e; cases e
  have nh2 : D ∉ ws.hot := fun m => by obtain ⟨o', e⟩ := R.there D (.inl m); rw [g2] at e; cases e
  have nh3 : Ca ∉ ws.hot := fun m => by obtain ⟨o', e⟩ := R.there Ca (.inl m); rw [g3] at e; cases e
  have dID : I ≠ D := by omega
  have dIC : I ≠ Ca := by omega
  have dDC : D ≠ Ca := by omega
  generalize hw : (((ws.heat I).heat D).heat Ca) = wsC at *
  have hotC : wsC.hot = Ca :: D :: I :: ws.hot := by rw [← hw]; rfl
  have csC : wsC.cs = ws.cs := by rw [← hw]; rfl
  have hC' : Ca ∈ wsC.hot := by rw [hotC]; simp
  have hD' : D ∈ wsC.hot := by rw [hotC]; simp
  have hI' : I ∈ wsC.hot := by rw [hotC]; simp
  have hs' : ∀ b ∈ ws.hot, b ∈ wsC.hot := fun b hb => by rw [hotC]; simp [hb]
  have LC : Loc c ⟨compEnvC scope (closeL fm.env scope.names []) Ca fm.env, [Ca]⟩ wsC ρf h₄ := C.loc L S k4 g3 (fun b hb => by
    rcases hb with q | q
    · subst q; exact hC'
    · exact hs' b q) ⟨_, hns⟩
  have L₄ : Loc c fm wsC ρ h₄ := L.move S (fun b hb => hs' b (L.sub b hb)) (fun y ca e => hs' ca (L.cells y ca e).1) fun b o' e _ => k4 b o' e
  have stI : St val I 0 h₄ := stk val I 0 H1 h₄ (fun o' e => k3 _ _ (k2 _ _ e)) st0
  have lDC : h₄.get? D = some (listObj [] 0) := k3 _ _ eD2
  have ownC : ∀ b ∈ ([Ca] : List Nat), b = Ca := fun b hb => by simpa using hb
  let fm' : Fm := ⟨compEnvC scope (closeL fm.env scope.names []) Ca fm.env, [Ca]⟩
  have kx : fm'.env.kindOf (Str.ofString x) = some .local := lookup_relabel_local C.x
  have own' : ∀ b ∈ [Ca, D, I], b ∈ wsC.hot := fun b hb => by
    simp at hb
    rcases hb with q | q | q <;> subst q
    · exact hC'
    · exact hD'
    · exact hI'
  have xf : ∀ z w, ρf.lookup z = some w → z ≠ x := fun z w e q => by
    subst q
    have := (C.fv z w e).2.1
    rw [C.x] at this; cases this
  have loop : ∀ s₄ : Shared, s₄ = { s with heap := h₄, toks := s.toks + ([] : List (Str × Value)).length } →
      codeAny (model c.prog c.w) A (.compLoop (.ListComp elt [⟨.Name (Str.ofString x) px, iter, ifs, 0⟩] scope pos) 0 (.ref I) (.ref D) fm'.env) (RR (.ref D) Ca) s₄ := by
    rintro s₄ rfl
    refine codeAny_compLoop_tests (fun m s' => ∃ i acc vs nD ws' σ', m = l.length - i ∧ i ≤ l.length ∧ J i acc σ' ∧ acc.length ≤ i ∧ Ext [Ca, D, I] wsC h₄ ws' s'.heap ∧ Rel c ws' σ' s' ∧ Loc c fm' ws' ρf s'.heap ∧ St val I i s'.heap ∧
      s'.heap.get? D = some (listObj vs nD) ∧ RVs c.P ws' s'.heap acc vs) ?_ l.length
      ⟨0, [], [], 0, wsC, σ, by simp, Nat.zero_le _, j0, Nat.le_refl _, .refl .., R₃, LC, stI, lDC, .nil⟩
    rintro m s' ⟨i, acc, vs, nD, ws', σ', rfl, hi, j, hal, E', R', L', st, lD, ra⟩
    have h3 : ws'.hot = Ca :: D :: I :: ws.hot := E'.hot.trans hotC
    have hotI : I ∈ ws'.hot := by rw [h3]; simp
    have hotD : D ∈ ws'.hot := by rw [h3]; simp
    have hotCa : Ca ∈ ws'.hot := by rw [h3]; simp
    have rv : RV c.P ws' s'.heap v val := (r.mono S).mono (E'.step own')
    cases hx : l[i]? with
    | none =>
      have hl : i = l.length := by have := List.getElem?_eq_none_iff.mp hx; omega
      subst hl
      refine wp_NoE (fin A ws' σ' s' val I _ _ ao.handled hx (Nat.le_refl _) hotI (jg _ _ _ j) R' rv st fun h' tk eb => ?_)
      have nI : I ∉ Ca :: ws.hot := fun m => by
        rcases List.mem_cons.mp m with q | q
        · exact dIC q
        · exact nh1 q
      obtain ⟨R'', S''⟩ := R'.less (hot' := Ca :: ws.hot) (fun b hb => by rw [h3]; rcases List.mem_cons.mp hb with q | q; exact q ▸ .head _; exact .tail _ (.tail _ (.tail _ q))) hotI nI eb tk
      have E0 : Ext [Ca, D, I] ⟨wsC.hot, ws.cs⟩ h₄ ws' s'.heap := by rw [← csC]; exact E'
      have E'' := E0.less (own' := []) (hot := ws.hot) (h := s.heap) k4 (fun b hb => .inr (by simp at hb; rcases hb with q | q | q <;> (subst q; assumption))) g1 eb
      refine out D Ca ws'.cs acc σ' _ g3 nh3 j E'' R'' ?_ ?_ ?_
      · obtain ⟨m, hn, _⟩ := L'.ns
        exact ⟨m, hn.at' fun o' e => eb _ _ (Ne.symm dIC) e⟩
      · have kk : ∀ (b : Nat) o', s.heap.get? b = some o' → b ∉ ws.adr → h'.get? b = some o' := fun b o' e na => E''.keep b o' e (by simp) na
        refine L.move ⟨fun b o' e f => ⟨kk b o' e f.2, fun m => ?_, fun m => f.2 ((E''.adr e).mp m)⟩, fun k p e => ?_⟩ (fun b hb => .tail _ (L.sub b hb)) (fun y ca e => .tail _ (L.cells y ca e).1) fun b o' e w => kk b o' e fun m => ?_
        · rcases List.mem_cons.mp m with q | q
          · subst q; rw [g3] at e; cases e
          · exact f.1 q
        · exact (E''.step (by simp)).cs k p e
        · rcases w with w | ⟨y, w⟩
          · subst w; exact R.apart _ (L.sub _ L.mem) m
          · exact R.apart _ (L.cells y b w).1 m
      · refine .lst acc D vs nD ⟨fun m => ?_, R'.apart D hotD⟩ (eb _ _ (Ne.symm dID) lD) (ra.mono S'')
        rcases List.mem_cons.mp m with q | q
        · exact dDC q
        · exact nh2 q
    | some xv =>
      have hlt : i < l.length := (List.getElem?_eq_some_iff.mp hx).1
      refine wp_NoE (next A ws' σ' s' val I i xv _ ao.handled hx hotI (jg _ _ _ j) R' rv st fun h' xval tk st' there' sb rx => ?_)
      have Sn : Step ws' s'.heap ws' h' := hot_step hotI sb
      have keep' : ∀ (b : Nat) o, s'.heap.get? b = some o → b ∉ [I] → h'.get? b = some o := fun b o e nb => (sb.2 b fun q => nb (by simp [q])).trans e
      have thr' : ∀ (b : Nat) o, s'.heap.get? b = some o → ∃ o', h'.get? b = some o' := fun b o e => by
        by_cases qb : b = I
        · subst qb; exact there'
        · exact ⟨o, (sb.2 b qb).trans e⟩
      have Rn : Rel c ws' σ' { s' with heap := h', toks := tk } := R'.turn tk [I] (by simpa using hotI) keep' thr'
      have Ln : Loc c fm' ws' ρf h' := L'.mono Sn (fun _ m => m) fun b o e w => (sb.2 b (by
        rcases w with w | ⟨y, w⟩
        · subst w; exact Ne.symm dIC
        · intro q
          subst q
          have := (closeL_ok (env := fm.env) scope.names [] (C.cells L) (by simp)).1 _ _ w
          exact nh1 (L.cells y b this).1)).trans e
      have En : Ext [Ca, D, I] ws' s'.heap ws' h' := ⟨rfl, ⟨[], by simp, by simp⟩, fun b o e nb _ => keep' b o e (fun w => nb (by simp at w; simp [w])), thr'⟩
      have lD' : h'.get? D = some (listObj vs nD) := keep' _ _ lD (by simpa using Ne.symm dID)
      refine wp_NoE (As.name (store_local (c := c) (fm := fm') (A := A) (ρ := ρf) (σ := σ') (v := xv) (x := x) (KR := fun ρ' σ'' => ρ' = put ρf x xv ∧ σ'' = σ') kx ⟨rfl, rfl⟩) ws' _ xval _ Rn Ln rx fun ws₂ s₂ ρ₂ σ₂ k₂ E₂ R₂ L₂ => ?_)
      obtain ⟨rfl, rfl⟩ := k₂
      have L₂' : Loc c fm' ws₂ ((x, xv) :: ρf) s₂.heap := L₂.sub' (Sub.cons (by rw [put_lookup, if_pos rfl]) fun y w e => by rw [put_lookup, if_neg (xf y w e)]; exact e)
      have lD₂ : s₂.heap.get? D = some (listObj vs nD) := E₂.keep _ _ lD' (fun q => dDC (ownC _ q)) (R'.apart D hotD)
      have stI₂ : St val I (i + 1) s₂.heap := stk val I (i + 1) _ _ (fun o' e => E₂.keep _ _ e (fun q => dIC (ownC _ q)) (R'.apart I hotI)) st'
      have ra₂ : RVs c.P ws₂ s₂.heap acc vs := (ra.mono Sn).mono (E₂.step fun b hb => ownC b hb ▸ hotCa)
      have T := turn fm' i xv acc σ₂ (by show relabel scope fm.env = _; exact relabel_eq ..) hx j
      refine wp_NoE (T ws₂ s₂ _ R₂ L₂' fun ws₃ s₃ b σ₃ k₃ E₃ R₃ L₃ => ?_)
      have ap2 : ∀ a, a ∈ ws'.hot → a ∉ ws₂.adr := fun a ha => R₂.apart a (by rw [E₂.hot]; exact ha)
      have lD₃ : s₃.heap.get? D = some (listObj vs nD) := E₃.keep _ _ lD₂ (by simp) (ap2 D hotD)
      have stI₃ : St val I (i + 1) s₃.heap := stk val I (i + 1) _ _ (fun o' e => E₃.keep _ _ e (by simp) (ap2 I hotI)) stI₂
      have ra₃ := ra₂.mono E₃.st
      have sx : Sub ρf ((x, xv) :: ρf) := fun y w e => by
        have hb : (y == x) = false := beq_eq_false_iff_ne.mpr (xf y w e)
        simpa [List.lookup, hb] using e
      have Ea : Ext [Ca, D, I] wsC h₄ ws₃ s₃.heap := ((E'.trans En).trans (E₂.mono fun b hb => ownC b hb ▸ .head _)).trans E₃.nil
      cases b with
      | false => exact ⟨l.length - (i + 1), by omega, i + 1, acc, vs, nD, ws₃, σ₃, rfl, hlt, k₃, by omega, Ea, R₃, L₃.sub' sx, stI₃, lD₃, ra₃⟩
      | true =>
        refine wp_NoE (k₃ ws₃ s₃ _ R₃ L₃ fun ws₄ s₄ y yv σ₄ k₄' E₄ R₄ L₄ ry => ?_)
        have h4 : ws₄.hot = ws'.hot := E₄.hot.trans (E₃.hot.trans E₂.hot)
        have ap3 : ∀ a, a ∈ ws'.hot → a ∉ ws₃.adr := fun a ha => R₃.apart a (by rw [E₃.hot, E₂.hot]; exact ha)
        have lD₄ : s₄.heap.get? D = some (listObj vs nD) := E₄.keep _ _ lD₃ (by simp) (ap3 D hotD)
        refine wp_NoE (hot_append lD₄ (by rw [← ra.length]; omega) fun h₅ lD₅ sb₅ => ?_)
        have hotD₄ : D ∈ ws₄.hot := by rw [h4]; exact hotD
        have S₅ : Step ws₄ s₄.heap ws₄ h₅ := hot_step hotD₄ sb₅
        have keep₅ : ∀ (b : Nat) o, s₄.heap.get? b = some o → b ∉ [D] → h₅.get? b = some o := fun b o e nb => (sb₅.2 b fun q => nb (by simp [q])).trans e
        have thr₅ : ∀ (b : Nat) o, s₄.heap.get? b = some o → ∃ o', h₅.get? b = some o' := fun b o e => by
          by_cases qb : b = D
          · subst qb; exact ⟨_, lD₅⟩
          · exact ⟨o, (sb₅.2 b qb).trans e⟩
        have R₅ : Rel c ws₄ σ₄ { s₄ with heap := h₅ } := R₄.turn s₄.toks [D] (by simpa using hotD₄) keep₅ thr₅
        have E₅ : Ext [Ca, D, I] ws₄ s₄.heap ws₄ h₅ := ⟨rfl, ⟨[], by simp, by simp⟩, fun b o e nb _ => keep₅ b o e (fun w => nb (by simp at w; simp [w])), thr₅⟩
        have L₅ : Loc c fm' ws₄ ρf h₅ := (L₄.sub' sx).mono S₅ (fun _ m => m) fun b o e w => (sb₅.2 b (by
          rcases w with w | ⟨y, w⟩
          · subst w; exact Ne.symm dDC
          · intro q
            subst q
            have := (closeL_ok (env := fm.env) scope.names [] (C.cells L) (by simp)).1 _ _ w
            exact nh2 (L.cells y b this).1)).trans e
        have stI₅ : St val I (i + 1) h₅ := stk val I (i + 1) _ _ (fun o' e => keep₅ _ _ e (by simpa using dID)) (stk val I (i + 1) _ _ (fun o' e => E₄.keep _ _ e (by simp) (ap3 I hotI)) stI₃)
        exact ⟨l.length - (i + 1), by omega, i + 1, acc ++ [y], vs ++ [yv], nD + 1, ws₄, σ₄, rfl, hlt, k₄', by simp; omega, (Ea.trans E₄.nil).trans E₅, R₅, L₅, stI₅, lD₅,
          ((ra₃.mono E₄.st).mono S₅).append (.cons _ _ _ _ (ry.mono S₅) .nil)⟩
  refine codeAny_compStart_list (loop _ rfl) ?_
  exact wp_NoE (self A _ val I 0 _ stI (loop _ rfl))
end
end Mine
end
section
set_option maxRecDepth 100000
set_option Elab.async false
set_option linter.unusedVariables false
namespace Mine
open PySem PySem.W PySem.Calls PyProof.Rows

section
variable {c : Cx} {fm : Fm} {A : Around} {ρ : Ρ} {σ : List O}

/-- what turns about a hot address alone, then the address is left aside -/
theorem after_hot {ws : Ws} {s : Shared} {h₀ h' : Heap} {Ca : Nat} {cs' : List (Nat × Nat)} {own : List Nat} (g : h₀.get? Ca = none) (nh : Ca ∉ ws.hot) (E : Ext own ws h₀ ⟨ws.hot, cs'⟩ s.heap)
    (R : Rel c ⟨Ca :: ws.hot, cs'⟩ σ s) (L : Loc c fm ⟨Ca :: ws.hot, cs'⟩ ρ s.heap) (sub : ∀ b ∈ fm.own, b ∈ ws.hot) (cel : ∀ x ca, fm.env.cells.lookup x = some ca → ca ∈ ws.hot) (sb : Heap.SameBut Ca s.heap h') :
    Ext own ws h₀ ⟨ws.hot, cs'⟩ h' ∧ Rel c ⟨ws.hot, cs'⟩ σ { s with heap := h' } ∧ Loc c fm ⟨ws.hot, cs'⟩ ρ h' ∧ Step ⟨Ca :: ws.hot, cs'⟩ s.heap ⟨ws.hot, cs'⟩ h' := by
  obtain ⟨R', S⟩ := R.less (hot' := ws.hot) (fun b hb => .tail _ hb) (.head _) nh sb.extBut s.toks
  have ne : ∀ b o, h₀.get? b = some o → b ≠ Ca := fun b o e q => by subst q; rw [g] at e; cases e
  have nl : fm.env.locals ≠ Ca := fun q => nh (q ▸ sub _ L.mem)
  refine ⟨⟨rfl, E.cs, fun b o e no na => (sb.2 b (ne b o e)).trans (E.keep b o e no na), fun b o e => let ⟨o', e'⟩ := E.there b o e; ⟨o', (sb.2 b (ne b o e)).trans e'⟩⟩, R', ?_, S⟩
  refine L.move S sub cel fun b o e w => (sb.2 b fun q => ?_).trans e
  rcases w with w | ⟨y, w⟩
  · exact nl (w ▸ q)
  · exact nh (q ▸ cel y b w)

theorem Ev.comp {K : V → List O → Prop} {n : Nat} (ao : AOk A n) {scope : Scope} {x : String} {px pos : Pos} {elt iter : Expr} {ifs : List Expr} {J : Nat → List V → List O → Prop} (ρf : Ρ) (C : CompOk fm ρ ρf scope x)
    (h : Ev c fm A (eval iter fm.env) ρ σ fun v σ₁ => ∃ l G, It c v l G ∧ l.length ≤ 1000000 ∧ J 0 [] σ₁ ∧ (∀ i acc σ', J i acc σ' → G σ') ∧ Turns c fm A l scope x ρf ifs elt J ∧ (∀ acc σ', J l.length acc σ' → K (.lst acc) σ'))
    (hs : ∀ x, foldedSetIterable iter fm.env x = pure x := by intro _; rfl) : Ev c fm A (eval (.ListComp elt [⟨.Name (Str.ofString x) px, iter, ifs, 0⟩] scope pos) fm.env) ρ σ K := by
  intro ws s Q R L q
  rw [eval_ListComp]
  refine wpAny_comprehension_free (use := Option.none) (g := ⟨.Name (Str.ofString x) px, iter, ifs, 0⟩) (gs := []) (e := .ListComp elt [⟨.Name (Str.ofString x) px, iter, ifs, 0⟩] scope pos) rfl hs (closureFor_S (C.cells L)) C.kind C.names (wpAny_mono (h ws s _ R L fun ws₁ s₁ v val σ₁ k₁ E₁ R₁ L₁ r₁ => ?_) (fun _ _ x => x) fun _ _ x => x)
  obtain ⟨l, G, ⟨St, stk, start, next, fin, self, go⟩, hlen, j0, jg, turn, done⟩ := k₁
  refine start A ws₁ σ₁ s₁ val _ (jg _ _ _ j0) R₁ r₁ fun o hf st0 => ?_
  refine comp_core ao stk next fin self C hlen j0 jg turn R₁ L₁ r₁ o hf st0 (fun acc Ca => compPost (model c.prog c.w) A NoE Option.none Q acc Ca) fun D Ca cs' acc σ' s' g nh j E' R' hn L' rv => ?_
  obtain ⟨m, hn⟩ := hn
  refine ⟨m, hn, fun h' sb => ?_⟩
  obtain ⟨E'', R'', L'', S''⟩ := after_hot g nh E' R' L' L₁.sub (fun y ca e => (L₁.cells y ca e).1) sb
  exact q _ _ (.lst acc) _ σ' (done acc σ' j) (E₁.trans E'') R'' L'' (rv.mono S'')
/-- x = [..], on one line -/
theorem Ex.setComp {K : FV → Ρ → List O → Prop} {n : Nat} (ao : AOk A n) {scope : Scope} {x : String} {y : String} {px py pos spos : Pos} {elt iter : Expr} {ifs : List Expr} {J : Nat → List V → List O → Prop} (ρf : Ρ) (C : CompOk fm ρ ρf scope x)
    (h : Ev c fm A (eval iter fm.env) ρ σ fun v σ₁ => ∃ l G, It c v l G ∧ l.length ≤ 1000000 ∧ J 0 [] σ₁ ∧ (∀ i acc σ', J i acc σ' → G σ') ∧ Turns c fm A l scope x ρf ifs elt J ∧
      (∀ acc σ', J l.length acc σ' → As c fm A (storeName fm.env (Str.ofString y)) (.lst acc) ρ σ' fun ρ' σ'' => K .next ρ' σ''))
    (hsw : swapsWith (.ListComp elt [⟨.Name (Str.ofString x) px, iter, ifs, 0⟩] scope pos) (some (.Name (Str.ofString y) py)) spos.line fm.env = pure true)
    (hs : ∀ x, foldedSetIterable iter fm.env x = pure x := by intro _; rfl) :
    Ex c fm A (exec (.Assign [.Name (Str.ofString y) py] (.ListComp elt [⟨.Name (Str.ofString x) px, iter, ifs, 0⟩] scope pos) spos) fm.env) ρ σ K := by
  intro ws s Q R L q
  rw [exec_Assign_Name_used _ _ _ _ hsw]
  refine wpAny_bind (wpAny_standAt (wpAny_bind ?_))
  show wpAny _ A (do let _ ← comprehension (.ListComp elt [⟨.Name (Str.ofString x) px, iter, ifs, 0⟩] scope pos) scope fm.env _ (newList []) false (eval iter fm.env) (some (assign (.Name (Str.ofString y) py) fm.env))) _ _ s
  refine wpAny_bind (wpAny_mono (wpAny_comprehension_free (use := some (assign (.Name (Str.ofString y) py) fm.env)) (Q := fun _ s' => Q .next s') (g := ⟨.Name (Str.ofString x) px, iter, ifs, 0⟩) (gs := []) (e := .ListComp elt [⟨.Name (Str.ofString x) px, iter, ifs, 0⟩] scope pos) rfl hs (closureFor_S (C.cells L)) C.kind C.names
    (wpAny_mono (h ws s _ R L fun ws₁ s₁ v val σ₁ k₁ E₁ R₁ L₁ r₁ => ?_) (fun _ _ x => x) fun _ _ x => x)) (fun _ s' hq => wpAny_pure (wpAny_pure hq)) fun _ _ e => e)
  obtain ⟨l, G, ⟨St, stk, start, next, fin, self, go⟩, hlen, j0, jg, turn, done⟩ := k₁
  refine start A ws₁ σ₁ s₁ val _ (jg _ _ _ j0) R₁ r₁ fun o hf st0 => ?_
  refine comp_core ao stk next fin self C hlen j0 jg turn R₁ L₁ r₁ o hf st0 (fun acc Ca => compPost (model c.prog c.w) A NoE (some (assign (.Name (Str.ofString y) py) fm.env)) (fun _ s' => Q .next s') acc Ca) fun D Ca cs' acc σ' s' g nh j E' R' hn L' rv => ?_
  obtain ⟨m, hn⟩ := hn
  show wpAny _ A (assign (.Name (Str.ofString y) py) fm.env (.ref D)) _ _ s'
  refine As.name (done acc σ' j) _ s' _ _ R' L' rv fun ws₂ s₂ ρ₂ σ₂ k₂ E₂ R₂ L₂ => ?_
  have hCa : Ca ∉ fm.own := fun m => nh (L₁.sub _ m)
  have hn₂ : s₂.heap.Ns Ca m := hn.at' fun o' e => E₂.keep _ _ e hCa (R'.apart Ca (.head _))
  refine ⟨m, hn₂, fun h' sb => ?_⟩
  have e2 : ws₂ = ⟨Ca :: ws₁.hot, ws₂.cs⟩ := by
    have e := E₂.hot
    cases ws₂ with
    | mk a b =>
      have e' : a = Ca :: ws₁.hot := e
      rw [e']
  have E₂' : Ext fm.own ⟨ws₁.hot, cs'⟩ s'.heap ⟨ws₁.hot, ws₂.cs⟩ s₂.heap := ⟨rfl, E₂.cs, E₂.keep, E₂.there⟩
  rw [e2] at R₂ L₂
  obtain ⟨E'', R'', L'', S''⟩ := after_hot (h₀ := s₁.heap) g nh (E'.nil.trans E₂') R₂ L₂ L₁.sub (fun y ca e => (L₁.cells y ca e).1) sb
  exact q _ _ .next .next ρ₂ σ₂ k₂ (E₁.nil.trans E'') R'' L'' .next
end
end Mine
end
section
set_option maxRecDepth 100000
set_option Elab.async false
set_option linter.unusedVariables false
namespace Mine
open PySem PySem.W PySem.Calls PyProof.Rows

section
variable {c : Cx} {A : Around} {σ : List O} {K : V → List O → Prop}

/-- several new addresses are hot -/
theorem Rel.heats {ws : Ws} {s : Shared} (R : Rel c ws σ s) {h' : Heap} {as : List Nat} (g : ∀ a ∈ as, s.heap.get? a = none) (l : ∀ a ∈ as, ∃ o, h'.get? a = some o) (keep : ∀ (b : Nat) o, s.heap.get? b = some o → h'.get? b = some o) (t : Nat) :
    Rel c ⟨as ++ ws.hot, ws.cs⟩ σ { s with heap := h', toks := t } ∧ Step ws s.heap ⟨as ++ ws.hot, ws.cs⟩ h' := by
  have S : Step ws s.heap ⟨as ++ ws.hot, ws.cs⟩ h' := ⟨fun b o e f => ⟨keep b o e, fun m => by
    rcases List.mem_append.mp m with m | m
    · rw [g b m] at e; cases e
    · exact f.1 m, f.2⟩, fun _ _ e => e⟩
  have R' := R.more t keep
  refine ⟨⟨R'.base, R'.gens, R'.os, R'.len, fun k o p h1 h2 => (R.objs k o p h1 h2).same S fun a o _ e => keep a o e, fun b h => ?_, fun b h => ?_, fun b h => ?_, R'.dist, R'.mods⟩, S⟩
  · rcases h with h | h
    · rcases List.mem_append.mp h with h | h
      · exact l b h
      · exact R'.there b (.inl h)
    · exact R'.there b (.inr h)
  · rcases h with h | h
    · rcases List.mem_append.mp h with h | h
      · exact R.none₀ (g b h)
      · exact R'.fresh b (.inl h)
    · exact R'.fresh b (.inr h)
  · intro m
    rcases List.mem_append.mp h with h | h
    · obtain ⟨o, e⟩ := R.there b (.inr m)
      rw [g b h] at e; cases e
    · exact R'.apart b h m
/-- fewer are hot, nothing else turns -/
theorem Rel.cools {ws : Ws} {s : Shared} (R : Rel c ws σ s) {hot' : List Nat} (sub : ∀ a ∈ hot', a ∈ ws.hot) : Rel c ⟨hot', ws.cs⟩ σ s ∧ Step ws s.heap ⟨hot', ws.cs⟩ s.heap := by
  have S : Step ws s.heap ⟨hot', ws.cs⟩ s.heap := ⟨fun b o e f => ⟨e, fun m => f.1 (sub b m), f.2⟩, fun _ _ e => e⟩
  exact ⟨⟨R.base, R.gens, R.os, R.len, fun k o p h1 h2 => (R.objs k o p h1 h2).same S fun _ _ _ e => e, fun b h => R.there b (h.imp (sub b) id), fun b h => R.fresh b (h.imp (sub b) id), fun b h => R.apart b (sub b h), R.dist, R.mods⟩, S⟩
theorem Ext.cools {own own' hot₂ hot : List Nat} {cs : List (Nat × Nat)} {ws' : Ws} {h h₂ h' : Heap} (keep : ∀ (b : Nat) o, h.get? b = some o → h₂.get? b = some o) (E : Ext own ⟨hot₂, cs⟩ h₂ ws' h') (ho : ∀ a ∈ own, a ∈ own' ∨ h.get? a = none) :
    Ext own' ⟨hot, cs⟩ h ⟨hot, ws'.cs⟩ h' := by
  obtain ⟨more, e, m⟩ := E.cs
  have back : ∀ b, h₂.get? b = none → h.get? b = none := fun b e => by
    cases q : h.get? b with
    | none => rfl
    | some o => have := keep b o q; rw [e] at this; cases this
  refine ⟨rfl, ⟨more, e, fun p hp => ⟨back _ (m p hp).1, back _ (m p hp).2⟩⟩, fun b o e no na => E.keep b o (keep b o e) (fun q => ?_) na, fun b o e => E.there b o (keep b o e)⟩
  rcases ho b q with w | w
  · exact no w
  · rw [w] at e; cases e

theorem cellsFrom_some {x : Str} : ∀ (names : List (Str × NameKind)) (n : Nat) (acc : List (Str × Addr)), (names.lookup x = some .cell ∨ (acc.lookup x).isSome = true) → ((cellsFrom n names acc).lookup x).isSome = true
  | [], n, acc, h => by
    rcases h with h | h
    · cases h
    · exact h
  | (m, k) :: r, n, acc, h => by
    unfold cellsFrom
    by_cases hx : x = m
    · subst hx
      rcases h with h | h
      · have hk : k = .cell := by simpa [List.lookup] using h
        subst hk
        rw [if_pos (by rfl)]
        exact cellsFrom_some r _ _ (.inr (by simp [List.lookup]))
      · split
        · exact cellsFrom_some r _ _ (.inr (by simp [List.lookup]))
        · exact cellsFrom_some r _ _ (.inr h)
    · have hb : (x == m) = false := beq_eq_false_iff_ne.mpr hx
      have h' : r.lookup x = some .cell ∨ (acc.lookup x).isSome = true := h.imp (fun h => by simpa [List.lookup, hb] using h) id
      split
      · exact cellsFrom_some r _ _ (h'.imp id fun h => by simpa [List.lookup, hb] using h)
      · exact cellsFrom_some r _ _ h'
theorem cellsFrom_mem {x : Str} {ca : Addr} : ∀ (names : List (Str × NameKind)) (n : Nat) (acc : List (Str × Addr)), (x, ca) ∈ cellsFrom n names acc → (x, ca) ∈ acc ∨ x ∈ names.map (·.1)
  | [], n, acc, h => .inl h
  | (m, k) :: r, n, acc, h => by
    unfold cellsFrom at h
    split at h
    · rcases cellsFrom_mem r _ _ h with q | q
      · rcases List.mem_cons.mp q with w | w
        · cases w; exact .inr (by simp)
        · exact .inl w
      · exact .inr (by simp only [List.map_cons]; exact .tail _ q)
    · rcases cellsFrom_mem r _ _ h with q | q
      · exact .inl q
      · exact .inr (by simp only [List.map_cons]; exact .tail _ q)

theorem bindL_other {kindOf : Str → Option NameKind} {x : Str} : ∀ (binds : List (Str × Value)) (m : Str → Option Value), x ∉ binds.map (·.1) → bindL kindOf binds m x = m x
  | [], m, _ => rfl
  | (n, v) :: r, m, h => by
    have h' : ¬ x = n ∧ x ∉ r.map (·.1) := by simpa using h
    unfold bindL
    rw [bindL_other r _ h'.2]
    split
    · exact if_neg h'.1
    · rfl
theorem bindC_other {kindOf : Str → Option NameKind} {x : Str} : ∀ (binds : List (Str × Value)) (m : Str → Option Value), x ∉ binds.map (·.1) → bindC kindOf binds m x = m x
  | [], m, _ => rfl
  | (n, v) :: r, m, h => by
    have h' : ¬ x = n ∧ x ∉ r.map (·.1) := by simpa using h
    unfold bindC
    rw [bindC_other r _ h'.2]
    split
    · rfl
    · exact if_neg h'.1
theorem zip_bind {P : Params} {ws : Ws} {h : Heap} {kindOf : Str → Option NameKind} : ∀ {xs : List String} {args : List V} {vals : List Value}, RVs P ws h args vals → xs.Nodup → ∀ {x : String} {v : V}, (xs.zip args).lookup x = some v → ∀ m cm,
    ∃ val, RV P ws h v val ∧ (kindOf (Str.ofString x) = some .local → bindL kindOf ((xs.map Str.ofString).zip vals) m (Str.ofString x) = some val) ∧ (¬ kindOf (Str.ofString x) = some .local → bindC kindOf ((xs.map Str.ofString).zip vals) cm (Str.ofString x) = some val)
  | [], _, _, _, _, x, v, e, _, _ => by simp at e
  | y :: xs, [], _, _, _, x, v, e, _, _ => by simp at e
  | y :: xs, a :: args, _, .cons _ b _ vals r rs, nd, x, v, e, m, cm => by
    have nd' := List.nodup_cons.mp nd
    simp only [List.map_cons, List.zip_cons_cons, bindL, bindC]
    by_cases hx : x = y
    · subst hx
      have e' : a = v := by simpa [List.lookup] using e
      subst e'
      have ni : Str.ofString x ∉ ((xs.map Str.ofString).zip vals).map (·.1) := fun m => by
        obtain ⟨p, hp, q⟩ := List.mem_map.mp m
        have := (List.of_mem_zip hp).1
        rw [q] at this
        obtain ⟨z, hz, e⟩ := List.mem_map.mp this
        exact nd'.1 (ofString_inj e ▸ hz)
      refine ⟨b, r, fun k => ?_, fun k => ?_⟩
      · rw [bindL_other _ _ ni, if_pos k, if_pos rfl]
      · rw [bindC_other _ _ ni, if_neg k, if_pos rfl]
    · have hb : (x == y) = false := beq_eq_false_iff_ne.mpr hx
      have e' : (xs.zip args).lookup x = some v := by simpa [List.lookup, hb] using e
      exact zip_bind rs nd'.2 e' _ _

/-- a call of a def of which inner texts hold some names -/
theorem Cl.defC {n : Nat} {fa : Nat} {fd : FuncData} {body : List Stmt} {xs : List String} {args : List V} {mg mb : Str → Option Value} (G : Gr c mg mb) (D : Def c fa fd body xs) (a : AOk A (n + 1)) (hl : args.length = xs.length)
    (hbind : ∀ vals : List Value, vals.length = xs.length → bindArgs fd ⟨vals, []⟩ = pure ((xs.map Str.ofString).zip vals))
    (hloc : ∀ x ∈ xs, fd.scope.names.lookup (Str.ofString x) = some .local ∨ fd.scope.names.lookup (Str.ofString x) = some .cell)
    (h : ∀ (fm : Fm) (A' : Around), fm.env.scope = fd.scope → AOk A' n → (∀ x, fd.scope.names.lookup x = some .cell → ∃ ca, fm.env.cells.lookup x = some ca ∧ ca ∈ fm.own) → Ex c fm A' (execs body fm.env) (xs.zip args) σ (back K)) :
    Cl c A (.ref fa) args σ K := by
  intro ws s vals Q R r q
  obtain ⟨o, ho, hd⟩ := D.obj
  refine wpAny_call (codeAny_call_cells (binds := (xs.map Str.ofString).zip vals) a.room (R.base _ _ ho) hd (G.nolimit.keeps R.base) (D.code.keeps R.base) D.body (hbind _ (by rw [← r.length, hl])) D.closure (fun x hx => ?_) (fun s₁ I => ?_) D.co D.gen D.kind)
  · obtain ⟨y, hy, e⟩ := List.mem_map.mp (List.of_mem_zip hx).1
    rcases hloc y hy with w | w
    · left; rw [← e]; exact w
    · right; rw [← e]; exact ⟨w, cellsFrom_some _ _ _ (.inl w)⟩
  · generalize hL : s.heap.objs.size = Lo at *
    obtain ⟨h₁, tk, es, keep⟩ := I.done
    generalize hcs : cellsFrom (Lo + 1) fd.scope.names [] = cs at *
    have ecs : (callEnvC fd Lo fa).cells = cs := hcs
    have eL : (callEnvC fd Lo fa).locals = Lo := rfl
    let own : List Nat := Lo :: (fd.scope.names.map (·.1)).filterMap fun p => cs.lookup p
    have gg : ∀ a : Nat, Lo ≤ a → s.heap.get? a = none := fun a ha => by
      cases q : s.heap.get? a with
      | none => rfl
      | some o =>
        have : a < s.heap.objs.size := Heap.lt_size q
        rw [hL] at this
        exact absurd this (Nat.not_lt.mpr ha)
    have hmem : ∀ x ca, cs.lookup x = some ca → Lo < ca ∧ ca ∈ own := fun x ca e => by
      have m := mem_lookup e
      refine ⟨I.above x ca (by rw [ecs]; exact m), .tail _ (List.mem_filterMap.mpr ⟨x, ?_, e⟩)⟩
      rw [← hcs] at m
      rcases cellsFrom_mem _ _ _ m with q | q
      · cases q
      · exact q
    have inv : ∀ a ∈ own, a = Lo ∨ ∃ x, cs.lookup x = some a := fun a ha => by
      rcases List.mem_cons.mp ha with q | q
      · exact .inl q
      · obtain ⟨x, _, e⟩ := List.mem_filterMap.mp q
        exact .inr ⟨x, e⟩
    have g : ∀ a ∈ own, s.heap.get? a = none := fun a ha => by
      rcases inv a ha with q | ⟨x, e⟩
      · subst q; exact gg _ (Nat.le_refl _)
      · exact gg a (Nat.le_of_lt (hmem x a e).1)
    have hns := I.toInCall.ns
    have l : ∀ a ∈ own, ∃ o, h₁.get? a = some o := fun a ha => by
      have e1 : s₁.heap = h₁ := by rw [es]
      rw [← e1]
      rcases inv a ha with q | ⟨x, e⟩
      · subst q
        obtain ⟨o, _, _, e, _⟩ := hns
        exact ⟨o, e⟩
      · obtain ⟨o, e, _⟩ := I.cell x a (by rw [ecs]; exact e)
        exact ⟨o, e⟩
    subst es
    obtain ⟨R₁, S₁⟩ := R.heats g l keep tk
    have dist : ∀ x y ca, cs.lookup x = some ca → cs.lookup y = some ca → x = y := fun x y ca e1 e2 => name_of_addr (by have := I.apart; rw [ecs] at this; exact this) (mem_lookup e1) (mem_lookup e2)
    have HC : ∀ x, fd.scope.names.lookup x = some .cell → ∃ ca, cs.lookup x = some ca ∧ ca ∈ own := fun x e => by
      have hs : (cs.lookup x).isSome = true := by rw [← hcs]; exact cellsFrom_some _ _ _ (.inl e)
      obtain ⟨ca, hca⟩ := Option.isSome_iff_exists.mp hs
      exact ⟨ca, hca, (hmem x ca hca).2⟩
    have L₁ : Loc c ⟨callEnvC fd Lo fa, own⟩ ⟨own ++ ws.hot, ws.cs⟩ (xs.zip args) h₁ := by
      refine ⟨D.kind, D.glob, D.blt, List.mem_cons_self, fun b hb => List.mem_append_left _ hb, ⟨_, hns, fun x v e k => ?_⟩, fun x v e => ?_, fun x ca e => ?_, fun x y ca e1 e2 => dist x y ca (by rw [← ecs]; exact e1) (by rw [← ecs]; exact e2)⟩
      · obtain ⟨val, r1, r2, r3⟩ := zip_bind (kindOf := (callEnvC fd Lo fa).kindOf) r D.nodup e (fun _ => none) (fun _ => none)
        exact ⟨val, r2 k, r1.mono S₁⟩
      · have kx := hloc x (zip_mem e)
        rcases kx with k | k
        · exact .inl k
        · obtain ⟨val, r1, r2, r3⟩ := zip_bind (kindOf := (callEnvC fd Lo fa).kindOf) r D.nodup e (fun _ => none) (fun _ => none)
          have k' : ¬ (callEnvC fd Lo fa).kindOf (Str.ofString x) = some .local := fun q => by
            have q' : fd.scope.names.lookup (Str.ofString x) = some .local := q
            rw [k] at q'; cases q'
          obtain ⟨ca, hca, _⟩ := HC _ k
          refine .inr ⟨.inl k, ca, val, (by rw [show (Fm.env ⟨callEnvC fd Lo fa, own⟩).cells = cs from ecs]; exact hca), ?_, r1.mono S₁⟩
          have := I.cell (Str.ofString x) ca (by rw [ecs]; exact hca)
          rw [r3 k'] at this
          exact this
      · have e' : cs.lookup x = some ca := by rw [← ecs]; exact e
        refine ⟨List.mem_append_left _ (hmem x ca e').2, fun q => ?_, _, I.cell x ca (by rw [ecs]; exact e')⟩
        have := (hmem x ca e').1
        rw [q] at this
        exact absurd this (Nat.lt_irrefl _)
    have fin : ∀ ws' s' v val σ', K v σ' → Ext own ⟨own ++ ws.hot, ws.cs⟩ h₁ ws' s'.heap → Rel c ws' σ' s' → RV c.P ws' s'.heap v val → Q val s' := by
      intro ws' s' v val σ' k E R' r'
      have E' : Ext [] ws s.heap ⟨ws.hot, ws'.cs⟩ s'.heap := E.cools keep fun a ha => .inr (g a ha)
      have e : ws'.hot = own ++ ws.hot := E.hot
      obtain ⟨R'', S''⟩ := R'.cools (hot' := ws.hot) fun a ha => by rw [e]; exact List.mem_append_right _ ha
      exact q _ s' v val σ' k E' R'' (r'.mono S'')
    refine wpAny_mono (h ⟨callEnvC fd Lo fa, own⟩ (A.deeper (callEnvC fd Lo fa)) rfl a.deeper (fun x e => by rw [show (Fm.env ⟨callEnvC fd Lo fa, own⟩).cells = cs from ecs]; exact HC x e) _ _ (fun f s' => match f with | .ret v => Q v s' | _ => Q .none s') R₁ L₁ fun ws' s' f fl ρ' σ' k E R' L' rf => ?_) (fun f s' hq => ?_) fun e s' hq => hq.elim
    · cases rf with
      | ret v x rv => exact fin ws' s' v x σ' k E R' rv
      | next => exact fin ws' s' .none .none σ' k E R' .none
      | brk => exact k.elim
      | cont => exact k.elim
    · cases f <;> exact hq
end
end Mine
end
section
set_option maxRecDepth 100000
set_option Elab.async false
set_option linter.unusedVariables false
namespace Mine
open PySem PySem.W PySem.Calls PyProof.Rows

section
variable {c : Cx} {A : Around} {σ : List O} {K : V → List O → Prop}

theorem Cl.here1 {f : Value} {a v : V} (k : K v σ) (h : ∀ ws s va (Q : Value → Shared → Prop), Rel c ws σ s → RV c.P ws s.heap a va →
    (∀ val h' tk, (∀ b o, s.heap.get? b = some o → h'.get? b = some o) → (∀ S : Step ws s.heap ws h', RV c.P ws h' v val) → Q val { s with heap := h', toks := tk }) → wpAny (model c.prog c.w) A (call f [va]) Q NoE s) : Cl c A f [a] σ K := by
  intro ws s vals Q R r q
  cases r with
  | cons _ x _ xs r rs =>
    cases rs
    refine h ws s x Q R r fun val h' tk keep rv => ?_
    have E : Ext [] ws s.heap ws h' := Ext.more [] ws keep
    exact q ws _ v val σ k E (R.more tk keep) (rv E.st)

/-! ## Built-in functions -/
theorem B.abs {a : Int} (k : K (.int (if a < 0 then -a else a)) σ) : Cl c A (.builtin "abs") [.int a] σ K := .here1 k fun ws s va Q R r q => by
  cases r; exact call_abs_int fun u tk => q _ s.heap tk (fun _ _ e => e) fun _ => .int _ _
theorem B.int {a : Int} (k : K (.int a) σ) : Cl c A (.type "int") [.int a] σ K := .here1 k fun ws s va Q R r q => by
  cases r; exact call_int_int (q _ s.heap s.toks (fun _ _ e => e) fun _ => .int _ _)
theorem B.num {n : Int} (h0 : 0 ≤ n) (h1 : n < 10 ^ 10) (k : K (.int n) σ) : Cl c A (.type "int") [.str (Str.ofString (toString n))] σ K := .here1 k fun ws s va Q R r q => by
  cases r; exact KIN.call_num h0 h1 (q _ s.heap _ (fun _ _ e => e) fun _ => .int _ _)
theorem B.str {a : Int} (ha : a.natAbs.log2 < 1920) (k : K (.str (Str.ofString (toString a))) σ) : Cl c A (.type "str") [.int a] σ K := .here1 k fun ws s va Q R r q => by
  cases r; exact PySem.P.str_of_int ha (q _ s.heap _ (fun _ _ e => e) fun _ => .str _ _)
theorem B.range {n : Int} (k : K (.rng 0 n) σ) : Cl c A (.type "range") [.int n] σ K := .here1 k fun ws s va Q R r q => by
  cases r
  refine call_range_1 (q _ _ _ (fun _ _ e => Heap.get?_push_of_some _ e) fun S => ?_)
  exact .rng 0 n _ _ _ _ (R.fz (get_size _)) (Heap.get?_push_size _ rfl)

theorem ints_of {P : Params} {ws : Ws} {h : Heap} : ∀ {ns : List Int} {vs : List Value}, RVs P ws h (ns.map .int) vs → IntsAre vs ns
  | [], _, .nil => .nil
  | n :: ns, _, .cons _ _ _ _ (.int _ t) r => .cons n t (ints_of r)
theorem of_ints {P : Params} {ws : Ws} {h : Heap} : ∀ {ns : List Int} {vs : List Value}, IntsAre vs ns → RVs P ws h (ns.map .int) vs
  | [], _, .nil => .nil
  | n :: ns, _, .cons _ t r => .cons _ _ _ _ (.int _ t) (of_ints r)
theorem B.bytes {n : Nat} (a : AOk A n) {v : V} {ns : List Int} (hv : Lq σ v (ns.map .int)) (hr : ∀ n ∈ ns, 0 ≤ n ∧ n < 256) (hz : ns.length ≤ 1000000) (k : K (.bytes (byteArr ns)) σ) : Cl c A (.type "bytes") [v] σ K := .here1 k fun ws s va Q R r q => by
  obtain ⟨ax, vs, rfl, hl, rs⟩ := hv.in R r
  refine call_bytes_ints hl (ints_of rs) hr (by rw [← rs.length, sizeLine_eq]; simp; omega) a.handled fun h' t kk hk => q _ h' kk hk fun _ => .bytes _ _
theorem B.list {v : V} {l : List V} (hv : Lq σ v l) (hz : l.length ≤ 1000000) (k : K (.arr l) σ) : Cl c A (.type "list") [v] σ K := .here1 k fun ws s va Q R r q => by
  obtain ⟨ax, vs, rfl, ⟨o, ho, hc, n, hd⟩, rs⟩ := hv.in R r
  refine call_list_seq ax (.inl rfl) ho hc hd (fun h' c' hk hD => q _ h' s.toks hk fun S => ?_) (hsz := by rw [List.size_toArray, ← rs.length, sizeLine_eq]; omega)
  exact .arr l _ vs ((S.kept _ _ ho · |>.2 |> fun _ => R.fz (get_size _)) |> fun _ => R.fz (get_size _)) ⟨_, hD, rfl, c', rfl⟩ (rs.mono S)
theorem B.rangeList {n m : Nat} (a : AOk A m) (hn : n ≤ 100000) (k : K (.arr (rngL 0 n)) σ) : Cl c A (.type "list") [.rng 0 n] σ K := .here1 k fun ws s va Q R r q => by
  cases r with
  | rng _ _ r t u v f e =>
    have hsz : Builtin.Range.rangeSize 0 n 1 = n := by
      unfold Builtin.Range.rangeSize
      simp
      omega
    refine call_list_range a.handled e (n := n) ?_ hsz (by omega) fun h' tk acc' c' hk hD ho => q _ h' tk hk fun S => ?_
    · unfold Builtin.Range.small Builtin.Range.rangeFitsLong
      rw [hsz]
      simp
      omega
    · refine .arr _ _ acc'.toList (R.fz (get_size _)) ⟨_, hD, rfl, c', by simp⟩ ?_
      have h1 : acc'.size = n := ho.1
      have h2 := ho.2
      have e1 : acc'.toList = (List.range n).map fun i => (acc'[i]?).getD .none := by
        apply List.ext_getElem?
        intro i
        by_cases hi : i < n
        · simp [hi, h1]
        · simp [hi, h1]
      rw [e1, rngL]
      have : ∀ l : List Nat, (∀ i ∈ l, i < n) → RVs c.P ws h' (l.map fun (i : Nat) => V.int (0 + (i : Int))) (l.map fun i => (acc'[i]?).getD .none) := by
        intro l hl
        induction l with
        | nil => exact .nil
        | cons i l ih =>
          refine .cons _ _ _ _ ?_ (ih fun j hj => hl j (.tail _ hj))
          have hi : i < acc'.size := by rw [h1]; exact hl i (.head _)
          obtain ⟨t, e⟩ := h2 i acc'[i] (by simp [hi])
          simp only [hi, Array.getElem?_eq_getElem, Option.getD_some]
          rw [e, Int.mul_one]
          exact .int _ _
      exact this _ fun i hi => List.mem_range.mp hi

theorem B.sorted {v : V} {ns : List Int} (hv : Lq σ v (ns.map .int)) (hz : ns.length < 64) (k : ∀ ns' : List Int, ns'.Perm ns → ns'.Pairwise (· ≤ ·) → K (.arr (ns'.map .int)) σ) : Cl c A (.builtin "sorted") [v] σ K := by
  intro ws s vals Q R r q
  cases r with
  | cons _ x _ xs r rs =>
    cases rs
    obtain ⟨ax, vs, rfl, hl, rs⟩ := hv.in R r
    refine sorted_ints hl (ints_of rs) (by rw [← rs.length]; simpa using hz) fun out ns' a1 a2 a3 => ?_
    have keep : ∀ (b : Nat) o, s.heap.get? b = some o → (sortedAll s.heap vs out).get? b = some o := fun b o e => sortedAll_old e
    have E : Ext [] ws s.heap ws (sortedAll s.heap vs out) := Ext.more [] ws keep
    obtain ⟨e, he⟩ := sortedAll_at s.heap vs out
    have g : s.heap.get? (s.heap.objs.size + 1) = none := by
      cases w : s.heap.get? (s.heap.objs.size + 1) with
      | none => rfl
      | some o => exact absurd (Heap.lt_size w) (Nat.not_lt.mpr (Nat.le_succ _))
    exact q ws _ (.arr (ns'.map .int)) _ σ (k ns' a2 a3) E (R.more s.toks keep) (.arr _ _ out.toList (R.fz g) ⟨_, he, rfl, e, by simp⟩ (of_ints a1))
theorem preSum_list (ns : List Int) : ∀ k, k ≤ ns.length → preSum (fun i => (ns[i]?).getD 0) k = (ns.take k).sum
  | 0, _ => rfl
  | k + 1, h => by
    have hk : k < ns.length := h
    have e : ns.take (k + 1) = ns.take k ++ [ns[k]] := by rw [List.take_add_one, List.getElem?_eq_getElem hk]; rfl
    rw [preSum, preSum_list ns k (Nat.le_of_lt hk), e, List.sum_append, List.getElem?_eq_getElem hk]
    simp
/-- sum of ints -/
theorem B.sum {n : Nat} (a : AOk A n) {v : V} {ns : List Int} (hv : Lq σ v (ns.map .int)) (k : K (.int ns.sum) σ) : Cl c A (.builtin "sum") [v] σ K := .here1 k fun ws s va Q R r q => by
  obtain ⟨ax, vs, rfl, hl, rs⟩ := hv.in R r
  have hI := ints_of rs
  have hlt : ax < s.heap.objs.size := by obtain ⟨o, ho, _⟩ := hl; exact Heap.lt_size ho
  refine call_sum_walkG (wpAny_pyIter_list hl ⟨s.heap.objs.size, _, _, _, _, _, fun i => (ns[i]?).getD 0, rfl, Walks.list (A := A.in1) a.handled s.heap.objs.size ax (Nat.ne_of_lt hlt) vs.toArray,
    ⟨⟨_, Heap.get?_push_size _ rfl, rfl, rfl⟩, hl.at fun o e => Heap.get?_push_of_some _ e⟩, fun b hb => ?_, fun i x hx => ?_, fun h' tk t' hk => ?_⟩)
  · simp at hb
    rw [Heap.size_push]
    rcases hb with q | q
    · subst q; exact Nat.lt_succ_self _
    · subst q; exact Nat.lt_succ_of_lt hlt
  · have hx' : vs[i]? = some x := by simpa using hx
    have hlen := rs.length
    have hi : i < ns.length := by
      have := (List.getElem?_eq_some_iff.mp hx').1
      rw [← hlen] at this
      simpa using this
    obtain ⟨y, hy, ry⟩ := rs.get (i := i) (v := .int ns[i]) (by simp [hi])
    rw [hx'] at hy; cases hy
    cases ry with
    | int _ t => exact ⟨t, by simp [hi]⟩
  · have e : vs.toArray.size = ns.length := by rw [List.size_toArray, ← rs.length]; simp
    rw [e, preSum_list ns _ (Nat.le_refl _), List.take_length]
    refine q _ h' tk (fun b o eb => hk b o (fun hb => ?_) (Heap.get?_push_of_some _ eb)) fun _ => .int _ _
    have hb' : b = s.heap.objs.size := by simpa using hb
    rw [hb', get_size] at eb; cases eb
end
end Mine
end
section
set_option maxRecDepth 100000
set_option Elab.async false
set_option linter.unusedVariables false
namespace Mine
open PySem PySem.W PySem.Calls PyProof.Rows

section
variable {c : Cx} {fm : Fm} {A : Around} {ρ : Ρ} {σ : List O} {K : V → List O → Prop}

/-! ## Slices -/
inductive IsP : V → Option Int → Prop
  | none : IsP .none none
  | int (i : Int) : IsP (.int i) (some i)
theorem IsP.in {P : Params} {ws : Ws} {h : Heap} {v : V} {x : Value} {o : Option Int} (p : IsP v o) (r : RV P ws h v x) : ∃ l : Option (Int × Tok), x = partValue l ∧ o = l.map (·.1) := by
  cases p with
  | none => cases r; exact ⟨Option.none, rfl, rfl⟩
  | int i => cases r with | int _ t => exact ⟨some (i, t), rfl, rfl⟩
theorem Ev.partNone (k : K .none σ) : Ev c fm A (evalPart Option.none fm.env) ρ σ K := Ev.here k fun ws s Q R L q => by
  rw [evalPart_none]; exact wpAny_pure (q _ .none s.toks)
theorem Ev.partSome {e : Expr} (h : Ev c fm A (eval e fm.env) ρ σ K) : Ev c fm A (evalPart (some e) fm.env) ρ σ K := h
theorem Ev.slice {lower upper step : Option Expr} {p : Pos} (h : Ev c fm A (evalPart lower fm.env) ρ σ fun a σ₁ => Ev c fm A (evalPart upper fm.env) ρ σ₁ fun b σ₂ => Ev c fm A (evalPart step fm.env) ρ σ₂ fun d σ₃ =>
    ∃ lo hi st, IsP a lo ∧ IsP b hi ∧ IsP d st ∧ K (.sli lo hi st) σ₃) : Ev c fm A (eval (.Slice lower upper step p) fm.env) ρ σ K := by
  intro ws s Q R L q
  refine wpAny_Slice (h ws s _ R L fun ws₁ s₁ a va σ₁ k₁ E₁ R₁ L₁ r₁ => ?_)
  refine k₁ ws₁ s₁ _ R₁ L₁ fun ws₂ s₂ b vb σ₂ k₂ E₂ R₂ L₂ r₂ => ?_
  refine k₂ ws₂ s₂ _ R₂ L₂ fun ws₃ s₃ d vd σ₃ k₃ E₃ R₃ L₃ r₃ => ?_
  obtain ⟨lo, hi, st, p1, p2, p3, k⟩ := k₃
  obtain ⟨l, rfl, rfl⟩ := p1.in ((r₁.mono E₂.st).mono E₃.st)
  obtain ⟨u, rfl, rfl⟩ := p2.in (r₂.mono E₃.st)
  obtain ⟨t, rfl, rfl⟩ := p3.in r₃
  have P := Ext.push [] ws₃ s₃.heap { cls := .type "slice", data := .fields #[partValue l, partValue u, partValue t] }
  exact q ws₃ _ _ _ σ₃ k (((E₁.trans E₂).trans E₃).trans P) (R₃.push _ s₃.toks) (L₃.ext R₃ P) (.sli l u t _ (R₃.fz (get_size _)) ⟨_, Heap.get?_push_size _ rfl, rfl, rfl⟩)

def pickL (l : List V) (lo hi st : Option Int) : List V := (sliceRange (sliceBounds lo hi st l.length).1 (sliceBounds lo hi st l.length).2.1 (sliceBounds lo hi st l.length).2.2).filterMap (l[·]?)
theorem RVs.pick {P : Params} {ws : Ws} {h : Heap} {l : List V} {xs : List Value} (r : RVs P ws h l xs) : ∀ is : List Nat, RVs P ws h (is.filterMap (l[·]?)) (is.filterMap (xs[·]?))
  | [] => .nil
  | i :: is => by
    have ih := RVs.pick r is
    cases e : l[i]? with
    | none =>
      have e' : xs[i]? = none := List.getElem?_eq_none (by rw [← r.length]; exact List.getElem?_eq_none_iff.mp e)
      simp only [List.filterMap_cons, e, e']
      exact ih
    | some v =>
      obtain ⟨x, e', rx⟩ := r.get e
      simp only [List.filterMap_cons, e, e']
      exact .cons _ _ _ _ rx ih
theorem X.listSlice {value lower upper step : _} {p : Pos} {v : V} {l : List V} {lo hi st : Option Int} (q : Lq σ v l) (hz : l.length ≤ 1000000) (h0 : st ≠ some 0) (k : K (.lst (pickL l lo hi st)) σ) :
    Op2 c A (subscriptTail value (.Slice lower upper step p)) v (.sli lo hi st) σ K := by
  intro ws s va vb Q R r r' qq
  obtain ⟨a, vs, rfl, hl, rs⟩ := q.in R r
  cases r' with
  | sli lt ut stt sl f hs =>
    have ip : ∀ x : Option (Int × Tok), IsPart (partValue x) (x.map (·.1)) := fun x => by cases x with
      | none => exact .none
      | some p => exact .int _ _
    have fin : wpAny (model c.prog c.w) A (getItem (.ref a) (.ref sl)) Q NoE s := by
      refine wpAny_getItem_list_slice hl (vl := partValue lt) (vu := partValue ut) (vs := partValue stt) (by obtain ⟨o, e1, e2, e3⟩ := hs; exact ⟨o, e1, e2, e3⟩) (ip _) (ip _) (ip _) h0 ?_ (by rw [List.size_toArray, ← rs.length, sizeLine_eq]; omega)
      have P := Ext.push [] ws s.heap { cls := .type "list", data := .seq (slicePick vs.toArray (lt.map (·.1)) (ut.map (·.1)) (stt.map (·.1))) }
      refine qq ws _ _ _ σ k P (R.push _ s.toks) ?_
      have rp := rs.pick (sliceRange (sliceBounds (lt.map (·.1)) (ut.map (·.1)) (stt.map (·.1)) l.length).1 (sliceBounds (lt.map (·.1)) (ut.map (·.1)) (stt.map (·.1)) l.length).2.1 (sliceBounds (lt.map (·.1)) (ut.map (·.1)) (stt.map (·.1)) l.length).2.2)
      have e : slicePick vs.toArray (lt.map (·.1)) (ut.map (·.1)) (stt.map (·.1)) = ((sliceRange (sliceBounds (lt.map (·.1)) (ut.map (·.1)) (stt.map (·.1)) l.length).1 (sliceBounds (lt.map (·.1)) (ut.map (·.1)) (stt.map (·.1)) l.length).2.1 (sliceBounds (lt.map (·.1)) (ut.map (·.1)) (stt.map (·.1)) l.length).2.2).filterMap (vs[·]?)).toArray := by
        unfold slicePick
        rw [List.size_toArray, ← rs.length]
        simp
      rw [e]
      exact R.newLst rp
    cases step with
    | none => exact tail_any hl.typeIs slot_list_getitem.lookup fin (ops := [.ref sl, .ref a]) rfl
    | some st => exact tail_any hl.typeIs slot_list_getitem.lookup fin (ops := [.ref a, .ref sl]) rfl
theorem slice_post {x : Str} {t : Tok} {s : Shared} {Q : Value → Shared → Prop} : ∀ (l u : Option (Int × Tok)), x.length ≤ sizeLine → (∀ t' k, Q (.str (Txt.slice x (l.map (·.1)) (u.map (·.1))) t') { s with toks := k }) → (sliceMade x t l u none).post Q s
  | none, none, hsz, h => post_val_or_str ⟨Nat.le_trans (Txt.slice_le x none none) hsz, h⟩
  | some (i, _), none, hsz, h => post_val_or_str ⟨Nat.le_trans (Txt.slice_le x (some i) none) hsz, h⟩
  | none, some (j, _), hsz, h => post_val_or_str ⟨Nat.le_trans (Txt.slice_le x none (some j)) hsz, h⟩
  | some (i, _), some (j, _), hsz, h => post_val_or_str ⟨Nat.le_trans (Txt.slice_le x (some i) (some j)) hsz, h⟩
theorem X.strSlice {value lower upper : _} {p : Pos} {x : Str} {lo hi : Option Int} (hz : x.length ≤ 1000000) (k : K (.str (Txt.slice x lo hi)) σ) :
    Op2 c A (subscriptTail value (.Slice lower upper none p)) (.str x) (.sli lo hi none) σ K := by
  intro ws s va vb Q R r r' qq
  cases r with
  | str _ t =>
    generalize hst : (none : Option Int) = st at r'
    cases r' with
    | sli lt ut stt sl f hs =>
      have e : stt = none := by cases stt with
        | none => rfl
        | some p => cases hst
      subst e
      refine tail_any (typeIs_str s x t) PySem.F.slot_str_getitem.lookup (ops := [.ref sl, .str x t]) (wpAny_getItem_str_slice hs rfl ?_) rfl
      exact slice_post lt ut (by rw [sizeLine_eq]; omega) fun t' kk => qq ws { s with toks := kk } (.str (Txt.slice x (lt.map (·.1)) (ut.map (·.1)))) _ σ k (.refl ..) (R.tok kk) (.str _ t')
/-! ## Strings -/
theorem X.strAdd {x y : Str} (hz : x.length + y.length ≤ 1000000) (k : K (.str (x ++ y)) σ) : Op2 c A (binaryOp .Add) (.str x) (.str y) σ K := .here k fun P ws s va vb Q r r' q => by
  cases r; cases r'; exact SB.add (fun t' tk => q _ tk (.str _ _)) (by rw [sizeLine_eq]; omega)
end
end Mine
end
section
set_option maxRecDepth 100000
set_option Elab.async false
set_option linter.unusedVariables false
namespace Mine
open PySem PySem.W PySem.Calls PyProof.Rows
open PySem.Builtin.Str (strKind occurrences partsBetween)

section
variable {c : Cx} {fm : Fm} {A : Around} {ρ : Ρ} {σ : List O} {K : V → List O → Prop}

theorem Str.toList_beq (x y : Str) : (x.cps.toList == y.cps.toList) = decide (x = y) := by
  by_cases h : x = y
  · subst h; simp
  · have : ¬ x.cps = y.cps := fun e => h (by cases x; cases y; simp at e; rw [e])
    simp [h, this]
theorem X.strEq {x y : Str} (k : K (.bool (decide (x = y))) σ) : Op2 c A (compareOp .Eq) (.str x) (.str y) σ K := .here k fun P ws s va vb Q r r' q => by
  cases r; cases r'
  refine PySem.P.eq_str ?_
  rw [Str.toList_beq]
  exact q _ s.toks (.bool _)
theorem X.strNe {x y : Str} (k : K (.bool (!decide (x = y))) σ) : Op2 c A (compareOp .NotEq) (.str x) (.str y) σ K := .here k fun P ws s va vb Q r r' q => by
  cases r; cases r'
  refine PySem.P.ne_str ?_
  rw [show (x.cps.toList != y.cps.toList) = !(x.cps.toList == y.cps.toList) from rfl, Str.toList_beq]
  exact q _ s.toks (.bool _)

theorem strs_of {P : Params} {ws : Ws} {h : Heap} : ∀ {xs : List Str} {vs : List Value}, RVs P ws h (xs.map .str) vs → ∃ l : List (Str × Tok), vs = strValues l ∧ l.map (·.1) = xs
  | [], _, .nil => ⟨[], rfl, rfl⟩
  | x :: xs, _, .cons _ _ _ _ (.str _ t) r => let ⟨l, e1, e2⟩ := strs_of r; ⟨(x, t) :: l, by rw [e1]; rfl, by rw [← e2]; rfl⟩
theorem of_strs {P : Params} {ws : Ws} {h : Heap} : ∀ (l : List (Str × Tok)), RVs P ws h ((l.map (·.1)).map .str) (strValues l)
  | [] => .nil
  | (x, t) :: l => .cons _ _ _ _ (.str _ t) (of_strs l)
theorem Mt.join {x : Str} : Mt c (.str x) σ "join" (.builtin "str.join") := by
  intro A ws s val pl Q R r q
  cases r with
  | str _ t => exact GM.join (q s.toks)
theorem Mt.split {x : Str} : Mt c (.str x) σ "split" (.builtin "str.split") := by
  intro A ws s val pl Q R r q
  cases r with
  | str _ t => exact GM.split (q s.toks)
theorem B.join {x : Str} {v : V} {xs : List Str} (hv : Lq σ v (xs.map .str)) (hok : JoinOk x xs = true) (k : K (.str (Txt.join x xs)) σ) : Cl c A (.builtin "str.join") [.str x, v] σ K := by
  intro ws s vals Q R r q
  cases r with
  | cons _ a _ bs r rs =>
    cases rs with
    | cons _ b _ cs r' rs' =>
      cases rs'
      cases r with
      | str _ t =>
        obtain ⟨ax, vs, rfl, hl, rl⟩ := hv.in R r'
        obtain ⟨l, rfl, e⟩ := strs_of rl
        exact SC.join hl e hok fun t' kk => q ws { s with toks := kk } _ _ σ k (.refl ..) (R.tok kk) (.str _ _)
theorem B.split {x y : Str} (hy : (y.length == 0) = false) (hz : x.length ≤ 1000000) (k : K (.arr ((Txt.split x y).map .str)) σ) : Cl c A (.builtin "str.split") [.str x, .str y] σ K := by
  intro ws s vals Q R r q
  cases r with
  | cons _ a _ bs r rs =>
    cases rs with
    | cons _ b _ cs r' rs' =>
      cases rs'
      cases r with
      | str _ t =>
        cases r' with
        | str _ u =>
          have hsz : x.length ≤ sizeLine := by rw [sizeLine_eq]; omega
          have one : ∀ tk, Txt.split x y = [x] → Q (.ref s.heap.objs.size) { s with heap := s.heap.push { cls := .type "list", data := .seq (strValues [(x, t)]).toArray }, toks := tk } := fun tk e => by
            refine q ws _ _ _ σ k (Ext.push [] ws s.heap _) (R.push _ tk) ?_
            rw [e]
            exact .arr _ _ (strValues [(x, t)]) (R.fz (get_size _)) ⟨_, Heap.get?_push_size _ rfl, rfl, _, rfl⟩ (of_strs [(x, t)])
          cases h1 : (decide (x.length < y.length) || decide (strKind x < strKind y))
          · cases hf : (occurrences x y 0 x.length (x.length + 1)).isEmpty
            · have hsz2 : (partsBetween x (occurrences x y 0 x.length (x.length + 1)) y.length).length ≤ sizeLine := by
                rw [len_partsBetween, sizeLine_eq]
                have := StrLaws.occ_length_le x y 0 x.length (x.length + 1)
                omega
              refine call_meets PySem.F.slot_str_split (typeIs_str _ _ _) PySem.F.entry_str_split (PySem.F.args_str_split_2 _ _) (meets_str_split_sep x y t u h1 hy hf hsz hsz2) ?_
              show Q (.ref s.heap.objs.size) { s with toks := _, heap := s.heap.push { cls := .type "list", data := .seq (strsFrom s.toks (partsBetween x (occurrences x y 0 x.length (x.length + 1)) y.length)).toArray } }
              rw [strsFrom_eq]
              refine q ws _ _ _ σ k (Ext.push [] ws s.heap _) (R.push _ _) ?_
              have e : Txt.split x y = (numbered s.toks (partsBetween x (occurrences x y 0 x.length (x.length + 1)) y.length)).map (·.1) :=
                ((if_neg (by rw [h1]; exact Bool.false_ne_true)).trans (if_neg (by rw [hf]; exact Bool.false_ne_true))).trans (numbered_texts _ _).symm
              rw [e]
              exact .arr _ _ (strValues (numbered s.toks _)) (R.fz (get_size _)) ⟨_, Heap.get?_push_size _ rfl, rfl, _, rfl⟩ (of_strs _)
            · exact call_meets PySem.F.slot_str_split (typeIs_str _ _ _) PySem.F.entry_str_split (PySem.F.args_str_split_2 _ _) (meets_str_split_not_found x y t u h1 hy hf) (one _ ((if_neg (by rw [h1]; exact Bool.false_ne_true)).trans (if_pos hf)))
          · exact call_meets PySem.F.slot_str_split (typeIs_str _ _ _) PySem.F.entry_str_split (PySem.F.args_str_split_2 _ _) (meets_str_split_cannot_occur x y t u h1) (one _ (if_pos h1))

/-! ## Texts by '%' -/
section
variable {prog : Program} {w : World} {E : Value → Shared → Prop} {s : Shared} {Q : Value → Shared → Prop} {y : Str} {n : Int} {t u : Tok}
theorem pct_add (h0 : 0 ≤ n) (h1 : n < 10 ^ 10) (h : ∀ t' k, Q (.str (Str.ofString "vsp = vsp + " ++ Str.ofString (toString n)) t') { s with toks := k }) :
    wpAny (model prog w) A (binaryOp .Mod (.str (Str.ofString "vsp = vsp + %u") t) (.int n u)) Q E s := by
  refine' KPc.mod_int ?kpcF ?kpcl ?kpch ?kpcm ?_
  case kpcF => kpc_eq
  case kpcl => exact h0
  case kpch => exact h1
  case kpcm => kpc_run
  exact h
theorem pct_sub (h0 : 0 ≤ n) (h1 : n < 10 ^ 10) (h : ∀ t' k, Q (.str (Str.ofString "vsp = vsp - " ++ Str.ofString (toString n)) t') { s with toks := k }) :
    wpAny (model prog w) A (binaryOp .Mod (.str (Str.ofString "vsp = vsp - %u") t) (.int n u)) Q E s := by
  refine' KPc.mod_int ?kpcF ?kpcl ?kpch ?kpcm ?_
  case kpcF => kpc_eq
  case kpcl => exact h0
  case kpch => exact h1
  case kpcm => kpc_run
  exact h
theorem pct_reg (h0 : 0 ≤ n) (h1 : n < 10 ^ 10) (h : ∀ t' k, Q (.str (Str.ofString "vsp = r" ++ Str.ofString (toString n)) t') { s with toks := k }) :
    wpAny (model prog w) A (binaryOp .Mod (.str (Str.ofString "vsp = r%u") t) (.int n u)) Q E s := by
  refine' KPc.mod_int ?kpcF ?kpcl ?kpch ?kpcm ?_
  case kpcF => kpc_eq
  case kpcl => exact h0
  case kpch => exact h1
  case kpcm => kpc_run
  exact h
theorem pct_pop (hy : y.length ≤ 1000000) (h : ∀ t' k, Q (.str (Str.ofString "pop " ++ y) t') { s with toks := k }) :
    wpAny (model prog w) A (binaryOp .Mod (.str (Str.ofString "pop %s") t) (.str y u)) Q E s := by
  refine' KPc.mod_str (T := fun y => Str.ofString "pop " ++ y) ?kpcF ?kpcl ?kpcm ?_
  case kpcF => kpc_eq
  case kpcl => exact hy
  case kpcm => kpc_run_s
  exact h
theorem pct_brace (hy : y.length ≤ 1000000) (h : ∀ t' k, Q (.str (Str.ofString "{" ++ y ++ Str.ofString "}") t') { s with toks := k }) :
    wpAny (model prog w) A (binaryOp .Mod (.str (Str.ofString "{%s}") t) (.str y u)) Q E s := by
  refine' KPc.mod_str (T := fun y => Str.ofString "{" ++ y ++ Str.ofString "}") ?kpcF ?kpcl ?kpcm ?_
  case kpcF => kpc_eq
  case kpcl => exact hy
  case kpcm => kpc_run_s
  exact h
end
end
section
variable {c : Cx} {A : Around} {σ : List O} {K : V → List O → Prop}
theorem X.pctAdd {n : Int} (h0 : 0 ≤ n) (h1 : n < 10 ^ 10) (k : K (.str (Str.ofString "vsp = vsp + " ++ Str.ofString (toString n))) σ) : Op2 c A (binaryOp .Mod) (.str (Str.ofString "vsp = vsp + %u")) (.int n) σ K := .here k fun P ws s va vb Q r r' q => by
  cases r; cases r'; exact pct_add h0 h1 fun t' tk => q _ tk (.str _ _)
theorem X.pctSub {n : Int} (h0 : 0 ≤ n) (h1 : n < 10 ^ 10) (k : K (.str (Str.ofString "vsp = vsp - " ++ Str.ofString (toString n))) σ) : Op2 c A (binaryOp .Mod) (.str (Str.ofString "vsp = vsp - %u")) (.int n) σ K := .here k fun P ws s va vb Q r r' q => by
  cases r; cases r'; exact pct_sub h0 h1 fun t' tk => q _ tk (.str _ _)
theorem X.pctReg {n : Int} (h0 : 0 ≤ n) (h1 : n < 10 ^ 10) (k : K (.str (Str.ofString "vsp = r" ++ Str.ofString (toString n))) σ) : Op2 c A (binaryOp .Mod) (.str (Str.ofString "vsp = r%u")) (.int n) σ K := .here k fun P ws s va vb Q r r' q => by
  cases r; cases r'; exact pct_reg h0 h1 fun t' tk => q _ tk (.str _ _)
theorem X.pctPop {y : Str} (h : y.length ≤ 1000000) (k : K (.str (Str.ofString "pop " ++ y)) σ) : Op2 c A (binaryOp .Mod) (.str (Str.ofString "pop %s")) (.str y) σ K := .here k fun P ws s va vb Q r r' q => by
  cases r; cases r'; exact pct_pop h fun t' tk => q _ tk (.str _ _)
theorem X.pctBrace {y : Str} (h : y.length ≤ 1000000) (k : K (.str (Str.ofString "{" ++ y ++ Str.ofString "}")) σ) : Op2 c A (binaryOp .Mod) (.str (Str.ofString "{%s}")) (.str y) σ K := .here k fun P ws s va vb Q r r' q => by
  cases r; cases r'; exact pct_brace h fun t' tk => q _ tk (.str _ _)
end
end Mine
end
section
set_option maxRecDepth 100000
set_option Elab.async false
set_option linter.unusedVariables false
namespace Mine
open PySem PySem.W PySem.Calls PyProof.Rows
open PySem.Builtin.Bytes (joined takeBufferQuiet? takeBuffer? joinLetGo)
section
variable {prog : Program} {w : World} {A : Around} {E : Value → Shared → Prop} {s : Shared} {Q : Value → Shared → Prop}
theorem take_bytes {id : String} {b : Array UInt8} {t : Tok} : takeBufferQuiet? id (.bytes b t) 0 = pure (some (b, none)) := by
  unfold takeBufferQuiet? takeBuffer?
  rw [KBy.special_eq KBy.look_buffer, KBy.own_buffer]
  simp only [pure_bind, Bool.not_true, Bool.false_eq_true, if_false]
  rw [show ((0 : Int) == Builtin.Bytes.fullReadOnly) = false from by decide, KBy.buffer_eq]
  rfl
def bVals (l : List (Array UInt8 × Tok)) : List Value := l.map fun p => .bytes p.1 p.2
def bTaken (l : List (Array UInt8 × Tok)) : List (Value × Option Value) := l.map fun p => (.bytes p.1 p.2, none)
theorem wp_joinLetGo {Q : Unit → Shared → Prop} : ∀ (l : List (Array UInt8 × Tok)) (keep : List Value) (s : Shared), Q () s → wpAny (model prog w) A (joinLetGo (bTaken l) keep) Q E s
  | [], keep, s, h => wpAny_pure h
  | p :: l, keep, s, h => by
    show wpAny _ _ (letGo ([Value.bytes p.1 p.2] ++ []) _ >>= fun _ => joinLetGo (bTaken l) keep) _ _ s
    exact wpAny_bind (wpAny_letGo (wp_joinLetGo l keep s h))
theorem taken_noHeap (l : List (Array UInt8 × Tok)) : ((bTaken l).any fun x => x.1.onHeap) = false := by
  induction l with
  | nil => rfl
  | cons p l ih => simp only [bTaken, List.map_cons, List.any_cons] at ih ⊢; rw [ih]; rfl
theorem joined_flat (parts : List (Array UInt8)) : joined #[] parts = ((parts.map (·.toList)).flatten).toArray := by
  unfold joined
  have e : ∀ (xs : List (Array UInt8)) (k : Nat) (out : Array UInt8), (xs.zipIdx k).foldl (fun out (p, i) => (if i > 0 then out ++ #[] else out) ++ p) out = out ++ ((xs.map (·.toList)).flatten).toArray := by
    intro xs
    induction xs with
    | nil => intro k out; simp
    | cons x xs ih =>
      intro k out
      rw [List.zipIdx_cons, List.foldl_cons, ih]
      have : (if k > 0 then out ++ #[] else out) = out := by split <;> simp
      simp only [this, List.map_cons, List.flatten_cons]
      apply Array.toList_inj.mp
      simp
  have := e parts 0 #[]
  rw [this]
  simp
theorem flat_size (parts : List (Array UInt8)) : (((parts.map (·.toList)).flatten).toArray).size = (parts.map (·.size)).sum := by
  induction parts with
  | nil => rfl
  | cons x xs ih => simp at ih ⊢; omega
theorem join_many {a : Nat} {t : Tok} {l : List (Array UInt8 × Tok)} (hl : s.heap.IsList a (bVals l).toArray) (h1 : ∀ p, l ≠ [p]) (hs : (l.map fun p => p.1.size).sum ≤ 1000000)
    {R : Fin → Shared → Prop} (h : ∀ t' k, R (.done (.ret (.bytes (joined #[] (l.map (·.1))) t'))) { s with toks := k }) : wpAny (model prog w) A (Builtin.«bytes.join» ⟨[.bytes #[] t, .ref a], []⟩) R E s := by
  obtain ⟨o, ho, hc, n, hd⟩ := id hl
  unfold Builtin.«bytes.join» Builtin.Bytes.joinM
  refine wpAny_bind (wpAny_pure ?_)
  dsimp only
  refine wpAny_bind ?_
  refine wpAny_bind (wpAny_typeOf hl.typeIs ?_)
  refine wpAny_pure ?_
  refine wpAny_bind (wpAny_seqItems ho hd ?_)
  dsimp only
  have szl : (bVals l).toArray.size = l.length := by simp [bVals]
  have getl : ∀ i p, l[i]? = some p → (bVals l).toArray.getD i Value.none = .bytes p.1 p.2 := fun i p e => by
    have : (bVals l)[i]? = some (.bytes p.1 p.2) := by simp [bVals, e]
    simp [Array.getD_eq_getD_getElem?, this]
  have fin : ∀ s', s' = s → wpAny (model prog w) A (do
      let sep ← Builtin.Bytes.payload (.bytes #[] t)
      if Builtin.Bytes.tooLong ((l.map (·.1)).toArray.foldl (· + ·.size) (sep.size * ((l.map (·.1)).toArray.size - 1))) then unsupported (toString (toString Builtin.Bytes.Kind.bytes.name ++ toString ".join") ++ toString ":memory")
      let result ← Builtin.Bytes.Kind.bytes.new (joined sep (l.map (·.1)).toArray.toList)
      holding (result :: (bTaken l).flatMap fun (y, u) => y :: u.toList) point
      joinLetGo (bTaken l) [result]
      ret result) R E s' := by
    rintro s' rfl
    refine wpAny_bind (wpAny_of_eq (a := #[]) rfl ?_)
    have small : ((l.map (·.1)).toArray.foldl (· + ·.size) ((#[] : Array UInt8).size * ((l.map (·.1)).toArray.size - 1))) ≤ 1000000 := by
      have e : ∀ (xs : List (Array UInt8)) (k : Nat), xs.foldl (· + ·.size) k = k + (xs.map (·.size)).sum := by
        intro xs
        induction xs with
        | nil => intro k; rfl
        | cons x xs ih => intro k; rw [List.foldl_cons, ih, List.map_cons, List.sum_cons]; omega
      rw [List.foldl_toArray, e]
      simp only [List.map_map]
      have : (l.map ((fun x => Array.size x) ∘ fun x => x.1)).sum = (l.map fun p => p.1.size).sum := rfl
      rw [this]
      simp
      omega
    have small2 : (joined #[] (l.map (·.1)).toArray.toList).size ≤ 1000000 := by
      rw [joined_flat, flat_size]
      have : ((l.map (·.1)).toArray.toList.map (·.size)).sum = (l.map fun p => p.1.size).sum := by simp [Function.comp_def]
      omega
    refine wpAny_ite ?_
    rw [if_neg (by rw [KBy.tooLong_not (by omega)]; decide)]
    show wpAny _ _ (mkBytes (joined #[] (l.map (·.1)).toArray.toList) >>= _) _ _ s'
    refine wpAny_bind (wpAny_mkBytes ?_ (by rw [sizeLine_eq]; omega))
    refine wpAny_bind (wpAny_holding (wpAny_point ?_))
    refine wpAny_bind (wp_joinLetGo l _ _ ?_)
    exact wpAny_pure (h _ _)
  have turn : ∀ (f : Nat → Array (Array UInt8) × List (Value × Option Value) → Sem (ForInStep (Array (Array UInt8) × List (Value × Option Value)))) (K : Array (Array UInt8) × List (Value × Option Value) → Shared → Prop),
      (∀ i p tk, l[i]? = some p → tk = bTaken (l.take i) → ∀ (P : Array (Array UInt8)) (Q : ForInStep (Array (Array UInt8) × List (Value × Option Value)) → Shared → Prop), Q (.yield (P.push p.1, tk ++ [(.bytes p.1 p.2, none)])) s → wpAny (model prog w) A (f i (P, tk)) Q E s) →
      K ((l.map (·.1)).toArray, bTaken l) s → wpAny (model prog w) A (forIn (List.range' 0 (bVals l).toArray.size 1) (#[], []) f) K E s := by
    intro f K hf hK
    refine wpAny_forIn_list f (fun rest b s' => ∃ i, rest = List.range' i (l.length - i) 1 ∧ i ≤ l.length ∧ b = (((l.take i).map (·.1)).toArray, bTaken (l.take i)) ∧ s' = s) K ?_ ?_ _ _ ⟨0, by rw [szl]; rfl, Nat.zero_le _, rfl, rfl⟩
    · rintro x rest b s' ⟨i, e, hi, rfl, rfl⟩
      have hlt : i < l.length := by
        rcases Nat.lt_or_ge i l.length with q | q
        · exact q
        · have : l.length - i = 0 := by omega
          rw [this] at e; cases e
      have e2 : l.length - i = (l.length - (i + 1)) + 1 := by omega
      rw [e2, List.range'_succ] at e
      cases e
      have ei : l[x]? = some l[x] := List.getElem?_eq_getElem hlt
      refine hf x l[x] _ ei rfl _ _ ⟨x + 1, rfl, hlt, ?_, rfl⟩
      have et : l.take (x + 1) = l.take x ++ [l[x]] := by rw [List.take_add_one, ei]; rfl
      rw [et]
      simp only [bTaken, List.map_append, List.map_cons, List.map_nil, List.push_toArray]
    · rintro b s' ⟨i, e, hi, rfl, rfl⟩
      have : i = l.length := by
        rcases Nat.lt_or_ge i l.length with q | q
        · have e2 : l.length - i = (l.length - (i + 1)) + 1 := by omega
          rw [e2, List.range'_succ] at e; cases e
        · omega
      subst this
      rw [List.take_length]
      exact hK
  rcases l with _ | ⟨p, _ | ⟨q, l⟩⟩
  rotate_left
  · exact absurd rfl (h1 p)
  all_goals
    refine wpAny_ite ?_
    split
    rotate_left
    · rename_i hk; exact absurd rfl hk
    refine wpAny_bind ?_
    rw [KPc.range_list]
    refine turn _ _ (fun i p tk ei etk P Q hQ => ?_) ?_
    · dsimp only
      refine wpAny_bind (wpAny_seqItems ho hd ?_)
      dsimp only
      refine wpAny_ite ?_
      rw [if_neg (by rw [etk, taken_noHeap]; decide)]
      refine wpAny_bind (wpAny_holding ?_)
      rw [getl i p ei]
      refine wpAny_of_eq take_bytes ?_
      dsimp only
      refine wpAny_bind (wpAny_seqItems ho hd ?_)
      dsimp only
      refine wpAny_ite ?_
      rw [if_neg (by simp)]
      exact wpAny_pure hQ
    · exact fin s rfl
end
end Mine
end
section
set_option maxRecDepth 100000
set_option Elab.async false
set_option linter.unusedVariables false
namespace Mine
open PySem PySem.W PySem.Calls PyProof.Rows
open PySem.Builtin.Bytes (joined)
theorem slot_bytes_join : Slot "bytes" "join" "bytes.join" :=
  .of (owner := "bytes") (n := "join") (by rw [typeLookup_type, builtinLookup_eq_fast]; kernel_rfl) (by decide +kernel) (by decide +kernel) (by decide +kernel)
    (by first | exact .inl (by decide +kernel) | exact .inr (by decide +kernel)) (by rw [isSubtype_type]; kernel_rfl)
theorem type_bytes_join : typeOf (.builtin "bytes.join") = pure (.type "method_descriptor") := by show builtinType _ = _; rw [builtinType_eq_fast]; kernel_rfl
theorem entry_bytes_join : entryFor table "bytes.join" = some Builtin.«bytes.join» := entryFor_of_tree (by kernel_rfl)
theorem args_bytes_join (a b : Value) : argsOk "bytes.join" ⟨[a, b], []⟩ := by unfold argsOk; kernel_rfl
theorem plainAttrs_bytes : PlainAttrs "bytes" := by
  exact ⟨⟨"bytes.__getattribute__", by rw [typeLookup_type, builtinLookup_eq_fast]; kernel_rfl, by decide +kernel⟩, by rw [typeLookup_type, builtinLookup_eq_fast]; kernel_rfl⟩
theorem join_one {prog : Program} {w : World} {A : Around} {E : Value → Shared → Prop} {s : Shared} {a : Nat} {t : Tok} {p : Array UInt8 × Tok} (hl : s.heap.IsList a (bVals [p]).toArray)
    {R : Fin → Shared → Prop} (h : R (.done (.ret (.bytes p.1 p.2))) s) : wpAny (model prog w) A (Builtin.«bytes.join» ⟨[.bytes #[] t, .ref a], []⟩) R E s := by
  obtain ⟨o, ho, hc, n, hd⟩ := id hl
  unfold Builtin.«bytes.join» Builtin.Bytes.joinM
  refine wpAny_bind (wpAny_pure ?_)
  dsimp only
  refine wpAny_bind ?_
  refine wpAny_bind (wpAny_typeOf hl.typeIs ?_)
  refine wpAny_pure ?_
  refine wpAny_bind (wpAny_seqItems ho hd ?_)
  dsimp only
  refine wpAny_ite ?_
  split
  rotate_left
  · rename_i hk; exact absurd rfl hk
  refine wpAny_bind (wpAny_typeOf (typeIs_bytes s p.1 p.2) ?_)
  refine wpAny_ite ?_
  rw [if_pos (by decide)]
  exact wpAny_bind (wpAny_rule (wpAny_pure h))
section
variable {c : Cx} {fm : Fm} {A : Around} {ρ : Ρ} {σ : List O} {K : V → List O → Prop}
theorem Mt.bjoin {b : Array UInt8} : Mt c (.bytes b) σ "join" (.builtin "bytes.join") := by
  intro A ws s val pl Q R r q
  cases r with
  | bytes _ t => exact getMethod_builtin (typeIs_bytes s b t) plainAttrs_bytes slot_bytes_join type_bytes_join (fun _ e => nomatch e) (q s.toks)
theorem bytess_of {P : Params} {ws : Ws} {h : Heap} : ∀ {xs : List (Array UInt8)} {vs : List Value}, RVs P ws h (xs.map .bytes) vs → ∃ l : List (Array UInt8 × Tok), vs = bVals l ∧ l.map (·.1) = xs
  | [], _, .nil => ⟨[], rfl, rfl⟩
  | x :: xs, _, .cons _ _ _ _ (.bytes _ t) r => let ⟨l, e1, e2⟩ := bytess_of r; ⟨(x, t) :: l, by rw [e1]; rfl, by rw [← e2]; rfl⟩
theorem B.bjoin {v : V} {xs : List (Array UInt8)} (hv : Lq σ v (xs.map .bytes)) (hs : (xs.map (·.size)).sum ≤ 1000000) (k : K (.bytes ((xs.map (·.toList)).flatten).toArray) σ) : Cl c A (.builtin "bytes.join") [.bytes #[], v] σ K := by
  intro ws s vals Q R r q
  cases r with
  | cons _ a _ bs r rs =>
    cases rs with
    | cons _ b _ cs r' rs' =>
      cases rs'
      cases r with
      | bytes _ t =>
        obtain ⟨ax, vs, rfl, hl, rl⟩ := hv.in R r'
        obtain ⟨l, rfl, e⟩ := bytess_of rl
        subst e
        refine wpAny_call_entry slot_bytes_join (typeIs_bytes s _ t) entry_bytes_join ?_ (args_bytes_join _ _)
        by_cases h1 : ∀ p, l ≠ [p]
        · refine join_many hl h1 (by simpa [Function.comp_def] using hs) fun t' kk => ⟨_, rfl, ?_⟩
          rw [joined_flat]
          exact q ws { s with toks := kk } _ _ σ k (.refl ..) (R.tok kk) (.bytes _ _)
        · have : ∃ p, l = [p] := by
            cases Classical.em (∃ p, l = [p]) with
            | inl h => exact h
            | inr h => exact absurd (fun p e => h ⟨p, e⟩) h1
          obtain ⟨p, rfl⟩ := this
          refine join_one hl ⟨_, rfl, q ws s _ _ σ k (.refl ..) R ?_⟩
          have e : ((([p].map (·.1)).map fun x : Array UInt8 => x.toList).flatten).toArray = p.1 := by simp
          rw [e]
          exact .bytes _ _
/-! ## Bytes and lists -/
theorem Ev.bytes {x : List UInt8} {kd pos} (h : K (.bytes x.toArray) σ) : Ev c fm A (eval (.Constant (.bytes x) kd pos) fm.env) ρ σ K :=
  Ev.here h fun ws s Q R L q => Constant_bytes (q _ (.bytes _ _) _)
theorem X.bytesAdd {x y : Array UInt8} (hz : x.size + y.size ≤ 1000000) (k : K (.bytes (x ++ y)) σ) : Op2 c A (binaryOp .Add) (.bytes x) (.bytes y) σ K := .here k fun P ws s va vb Q r r' q => by
  cases r; cases r'; exact KBy.add_bytes (by omega) fun t' tk => q _ tk (.bytes _ _)
end
end Mine
end
section
set_option maxRecDepth 100000
set_option Elab.async false
set_option linter.unusedVariables false
namespace Mine
open PySem PySem.W PySem.Calls PyProof.Rows
section
variable {c : Cx} {fm : Fm} {A : Around} {ρ : Ρ} {σ : List O} {K : V → List O → Prop}

theorem X.listAdd {v u : V} {l m : List V} (q : Lq σ v l) (q' : Lq σ u m) (hz : l.length + m.length ≤ 1000000) (k : K (.lst (l ++ m)) σ) : Op2 c A (binaryOp .Add) v u σ K := by
  intro ws s va vb Q R r r' qq
  obtain ⟨a, vs, rfl, hl, rs⟩ := q.in R r
  obtain ⟨b, us, rfl, hb, rs'⟩ := q'.in R r'
  obtain ⟨⟨cls, dd, data, sl⟩, ho, hc, n, hd⟩ := id hl
  obtain ⟨⟨cls2, dd2, data2, sl2⟩, ho2, hc2, n2, hd2⟩ := id hb
  simp only at hc hd hc2 hd2
  subst hc hd hc2 hd2
  have e : vs.toArray ++ us.toArray = (vs ++ us).toArray := by simp
  have hsz : vs.toArray.size + us.toArray.size ≤ sizeLine := by rw [List.size_toArray, List.size_toArray, ← rs.length, ← rs'.length, sizeLine_eq]; omega
  refine concat_meets ⟨_, ho, rfl⟩ ⟨_, ho2, rfl⟩ noFill_list_add seq_list_add PySem.F.slot_list_add PySem.F.entry_list_add (PySem.F.args_list_add_2 _ _) (list_addW a b vs.toArray us.toArray n n2 dd dd2 sl sl2 hsz) ⟨ho, ho2, ?_⟩
  rw [e]
  have P := Ext.push [] ws s.heap (listObj (vs ++ us) 0)
  exact qq ws _ (.lst (l ++ m)) _ σ k P (R.push _ s.toks) (R.newLst (rs.append rs'))
/-- two lists of the same ints -/
theorem X.intsNe {n : Nat} (ao : AOk A n) {v u : V} {ns : List Int} (q : Lq σ v (ns.map .int)) (q' : Lq σ u (ns.map .int)) (k : K (.bool false) σ) : Op2 c A (compareOp .NotEq) v u σ K := by
  intro ws s va vb Q R r r' qq
  obtain ⟨a, vs, rfl, hl, rs⟩ := q.in R r
  obtain ⟨b, us, rfl, hb, rs'⟩ := q'.in R r'
  have e1 : vs.length = us.length := by rw [← rs.length, ← rs'.length]
  have main := PySem.SeqAt.RcNeAt.lists (A := A) (e := fun _ => true) hl hb (by simpa using e1) ao.croom (fun j h1 h2 => ?_) c.prog c.w NoE Q (by
    have e : (List.range vs.toArray.size).all (fun _ => true) = true := by simp
    rw [e]
    exact qq ws s _ _ σ k (.refl ..) R (.bool _))
  · exact main
  · have h1' : j < ns.length := by rw [← List.length_map (f := V.int), rs.length]; simpa using h1
    have ej : (ns.map V.int)[j]? = some (.int ns[j]) := by simp [h1']
    obtain ⟨x, ex, rx⟩ := rs.get ej
    obtain ⟨y, ey, ry⟩ := rs'.get ej
    have hx : vs.toArray[j] = x := by
      have := List.getElem?_eq_some_iff.mp ex
      obtain ⟨_, e⟩ := this
      simpa using e
    have hy : us.toArray[j] = y := by
      have := List.getElem?_eq_some_iff.mp ey
      obtain ⟨_, e⟩ := this
      simpa using e
    rw [hx, hy]
    cases rx with
    | int _ t => cases ry with
      | int _ t' =>
        have := PySem.SeqAt.EqAt.int_int (A := A.in1) (s := s) ns[j] t ns[j] t'
        rwa [beq_self_eq_true] at this
theorem X.isNone {v : V} (hv : (∃ b, v = .int b) ∨ v = .none) (k : K (.bool (match v with | .none => true | _ => false)) σ) : Op2 c A (compareOp .Is) v .none σ K := .here k fun P ws s va vb Q r r' q => by
  cases r'
  rcases hv with ⟨b, rfl⟩ | rfl
  · cases r; exact is_int_none (q _ s.toks (.bool _))
  · cases r; exact is_none_none (q _ s.toks (.bool _))
theorem X.inInts {x : Int} {ns : List Int} (k : K (.bool (ns.any (· == x))) σ) : Op2 c A (compareOp .In) (.int x) (.tup (ns.map .int)) σ K := by
  intro ws s va vb Q R r r' qq
  cases r with
  | int _ t => cases r' with
    | tup _ a vs n f e rs => exact in_tuple_ints (items := vs.toArray) ⟨_, e, rfl, _, rfl⟩ (by simpa using ints_of rs) (qq ws s _ _ σ k (.refl ..) R (.bool _))
theorem strsAre_of {P : Params} {ws : Ws} {h : Heap} : ∀ {xs : List Str} {vs : List Value}, RVs P ws h (xs.map .str) vs → StrsAre vs xs
  | [], _, .nil => .nil
  | x :: xs, _, .cons _ _ _ _ (.str _ t) r => .cons x t (strsAre_of r)
theorem X.inStrs {x : Str} {ns : List Str} (k : K (.bool (ns.any (· == x))) σ) : Op2 c A (compareOp .In) (.str x) (.tup (ns.map .str)) σ K := by
  intro ws s va vb Q R r r' qq
  cases r with
  | str _ t => cases r' with
    | tup _ a vs n f e rs => exact in_tuple_strs (items := vs.toArray) ⟨_, e, rfl, _, rfl⟩ (by simpa using strsAre_of rs) (qq ws s _ _ σ k (.refl ..) R (.bool _))
theorem X.bytesMul {b : List UInt8} {n : Int} (hb : b ≠ []) (h0 : 0 ≤ n) (hn : n ≤ 1000) (hs : b.length ≤ 16) (k : K (.bytes ((List.replicate n.toNat b).flatten).toArray) σ) : Op2 c A (binaryOp .Mult) (.bytes b.toArray) (.int n) σ K := .here k fun P ws s va vb Q r r' q => by
  cases r with
  | bytes _ t => cases r' with
    | int _ u => exact bytes_mul_any hb (by omega) (by omega) hs fun t' tk => q _ tk (.bytes _ _)
/-- list.extend -/
theorem L.extend {k : Nat} {l m : List V} {u : V} (e : σ[k]? = some (.list l)) (q' : Lq σ u m) (hl : l.length + m.length < 1000000) (hne : u ≠ .ref k) (kk : K .none (σ.set k (.list (l ++ m)))) : Cl c A (.builtin "list.extend") [.ref k, u] σ K := by
  intro ws s vals Q R r q
  cases r with
  | cons _ x _ xs r rs =>
    cases rs with
    | cons _ y _ ys ry rs =>
      cases rs
      cases r with
      | ref _ p e' =>
        obtain ⟨vs, n, h1, h2, rs⟩ := R.at e e'
        obtain ⟨b, us, rfl, hb, rs'⟩ := q'.in R ry
        obtain ⟨o2, ho2, hc2, n2, hd2⟩ := id hb
        have hz : vs.toArray.size ≤ sizeLine := by rw [List.size_toArray, ← rs.length, sizeLine_eq]; omega
        have hz2 : (vs.toArray ++ us.toArray).size ≤ sizeLine + 1 := by rw [Array.size_append, List.size_toArray, List.size_toArray, ← rs.length, ← rs'.length, sizeLine_eq]; omega
        have hT : s.TypeIs (.ref p.1) "list" := ⟨_, h1, rfl⟩
        refine wpAny_call_entry PySem.F.slot_list_extend hT PySem.F.entry_list_extend ?_ (PySem.F.args_list_extend_2 _ _)
        show wpAny _ _ (Builtin.List.listExtendWith (.ref p.1) (.ref b) .none) _ _ s
        unfold Builtin.List.listExtendWith
        refine wpAny_bind (wpAny_typeOf hb.typeIs ?_)
        refine wpAny_ite ?_
        rw [if_pos (by simp)]
        refine wpAny_bind ?_
        unfold Builtin.List.listItems
        refine wpAny_bind (wpAny_seqItems ho2 hd2 (wpAny_pure ?_))
        refine wpAny_bind (wpAny_bind (wpAny_seqItems h1 rfl (wpAny_pure ?_)))
        refine wpAny_ite ?_
        rw [if_neg (by
          have : Builtin.List.listTooLong (vs.toArray.size + us.toArray.size) = false := by
            unfold Builtin.List.listTooLong
            rw [List.size_toArray, List.size_toArray, ← rs.length, ← rs'.length, sizeLine_eq]
            simp; omega
          rw [this]; simp)]
        show wpAny _ _ (updateSeq p.1 (· ++ us.toArray) >>= fun _ => PySem.ret .none) _ _ s
        refine wpAny_bind (wpAny_updateSeq h1 rfl (wpAny_pure ⟨.none, rfl, ?_⟩) hz hz2)
        obtain ⟨n', hself⟩ : ∃ n', (s.heap.update p.1 (Obj.mapSeq (· ++ us.toArray))).get? p.1 = some (listObj (vs ++ us) n') := by
          rw [Heap.get?_update_self _ h1 (by rfl)]
          have : vs.toArray ++ us.toArray = (vs ++ us).toArray := by simp
          simp only [Obj.mapSeq, this]
          exact ⟨_, rfl⟩
        have sb := Heap.SameBut.update s.heap p.1 (Obj.mapSeq (· ++ us.toArray))
        obtain ⟨R', E'⟩ := R.cellTurn (h' := s.heap.update p.1 (Obj.mapSeq (· ++ us.toArray))) (o' := .list (l ++ m)) e' (fun a o ea n1 _ => (sb.2 a n1).trans ea)
          (fun a o ea => by
            by_cases qa : a = p.1
            · subst qa; exact ⟨_, hself⟩
            · exact ⟨o, (sb.2 a qa).trans ea⟩)
          (fun S => ⟨vs ++ us, n', hself, h2, (rs.mono S).append (rs'.mono S)⟩) s.toks
        exact q ws _ .none .none _ kk E' R' .none
theorem Mt.extend {k : Nat} {l : List V} (e : σ[k]? = some (.list l)) : Mt c (.ref k) σ "extend" (.builtin "list.extend") := by
  intro A ws s val pl Q R r q
  cases r with
  | ref _ p e' =>
    obtain ⟨vs, n, h1, h2, rs⟩ := R.at e e'
    exact getMethod_builtin (s := s) ⟨_, h1, rfl⟩ PySem.F.plainAttrs_list PySem.F.slot_list_extend PySem.F.type_list_extend (fun a ha => by cases ha; exact ⟨_, h1, rfl⟩) (q s.toks)
end
end Mine
end
section
set_option maxRecDepth 100000
set_option Elab.async false
set_option linter.unusedVariables false
set_option linter.unusedSectionVars false
namespace Mine
open PySem PySem.W PySem.Calls PyProof.Rows

section
variable {κ : Type} [DecidableEq κ]
def getE (es : List (κ × V)) (k : κ) : Option V := (es.find? fun x => x.1 = k).map (·.2)
def setE (es : List (κ × V)) (k : κ) (v : V) : List (κ × V) := if es.any (fun x => x.1 = k) then es.map (fun x => if x.1 = k then (x.1, v) else x) else es ++ [(k, v)]
variable {P : Params} {ws : Ws} {h : Heap}
theorem RKs.get : ∀ {es : List (κ × V)} {kvs : List (κ × Value)}, RKs P ws h es kvs → ∀ k, (getE es k = none ∧ valueAt kvs k = none) ∨ ∃ v x, getE es k = some v ∧ valueAt kvs k = some x ∧ RV P ws h v x
  | [], [], _, k => .inl ⟨rfl, rfl⟩
  | (a, v) :: es, (a', x) :: kvs, ⟨e, r, rs⟩, k => by
    subst e
    by_cases q : a = k
    · exact .inr ⟨v, x, by simp [getE, q], by simp [valueAt, q], r⟩
    · have := RKs.get rs k
      simpa [getE, valueAt, List.find?, q] using this
theorem RKs.keys : ∀ {es : List (κ × V)} {kvs : List (κ × Value)}, RKs P ws h es kvs → es.map (·.1) = kvs.map (·.1)
  | [], [], _ => rfl
  | (a, v) :: es, (a', x) :: kvs, ⟨e, r, rs⟩ => by simp only [List.map_cons]; rw [e, RKs.keys rs]
theorem RKs.any {es : List (κ × V)} {kvs : List (κ × Value)} (r : RKs P ws h es kvs) (k : κ) : es.any (fun x => x.1 = k) = kvs.any (fun x => x.1 = k) := by
  have e := r.keys
  have e1 : es.any (fun x => x.1 = k) = (es.map (·.1)).any (fun x => x = k) := by rw [List.any_map]; rfl
  have e2 : kvs.any (fun x => x.1 = k) = (kvs.map (·.1)).any (fun x => x = k) := by rw [List.any_map]; rfl
  rw [e1, e2, e]
theorem RKs.map' : ∀ {es : List (κ × V)} {kvs : List (κ × Value)}, RKs P ws h es kvs → ∀ k {v : V} {x : Value}, RV P ws h v x → RKs P ws h (es.map fun y => if y.1 = k then (y.1, v) else y) (kvs.map fun y => if y.1 = k then (y.1, x) else y)
  | [], [], _, k, v, x, _ => trivial
  | (a, _) :: es, (a', _) :: kvs, ⟨e, r, rs⟩, k, v, x, rx => by
    subst e
    simp only [List.map_cons]
    by_cases q : a = k
    · rw [if_pos q, if_pos q]; exact ⟨rfl, rx, RKs.map' rs k rx⟩
    · rw [if_neg q, if_neg q]; exact ⟨rfl, r, RKs.map' rs k rx⟩
theorem RKs.snoc : ∀ {es : List (κ × V)} {kvs : List (κ × Value)}, RKs P ws h es kvs → ∀ k {v : V} {x : Value}, RV P ws h v x → RKs P ws h (es ++ [(k, v)]) (kvs ++ [(k, x)])
  | [], [], _, k, v, x, rx => ⟨rfl, rx, trivial⟩
  | (a, _) :: es, (a', _) :: kvs, ⟨e, r, rs⟩, k, v, x, rx => ⟨e, r, RKs.snoc rs k rx⟩
theorem RKs.set {es : List (κ × V)} {kvs : List (κ × Value)} (r : RKs P ws h es kvs) (k : κ) {v : V} {x : Value} (rx : RV P ws h v x) : RKs P ws h (setE es k v) (stored kvs k x) := by
  unfold setE stored
  rw [r.any k]
  split
  · exact r.map' k rx
  · exact r.snoc k rx
theorem RKs.length {es : List (κ × V)} {kvs : List (κ × Value)} (r : RKs P ws h es kvs) : es.length = kvs.length := by
  have := congrArg List.length r.keys
  simpa using this
end

/-- a kind of dict of the store -/
structure Dk (c : Cx) (κ : Type) [DecidableEq κ] where
  knd : KeyKind c.prog c.w κ
  box : List (κ × V) → O
  kv : κ → V
  ro : ∀ ws h p es, RO c ws h p (box es) ↔ ∃ kvs, h.DictOf knd p.1 kvs ∧ p.2 = p.1 ∧ RKs c.P ws h es kvs
  key : ∀ ws h k x, RV c.P ws h (kv k) x → knd.is k x = true
def strD (c : Cx) : Dk c Str := ⟨PySem.strKind c.prog c.w, .sdict, .str, fun _ _ _ _ => Iff.rfl, fun ws h k x r => by cases r; exact strKind_is c.prog c.w _ _⟩
def intD (c : Cx) : Dk c Int := ⟨PySem.intKind c.prog c.w, .idict, .int, fun _ _ _ _ => Iff.rfl, fun ws h k x r => by cases r; exact intKind_is c.prog c.w _ _⟩

section
variable {c : Cx} {fm : Fm} {A : Around} {ρ : Ρ} {σ : List O} {K : V → List O → Prop} {κ : Type} [DecidableEq κ] (d : Dk c κ)
theorem Rel.notMods {ws : Ws} {s : Shared} (R : Rel c ws σ s) {k : Nat} {p : Nat × Nat} (e : ws.cs[k]? = some p) : (p.1 == sysModules) = false := beq_false_of_ne (R.mods p (List.mem_of_getElem? e))
theorem D.get {value slice : Expr} {k : Nat} {es : List (κ × V)} {key : κ} {v : V} (e : σ[k]? = some (d.box es)) (g : getE es key = some v) (kk : K v σ)
    (hs : ∀ o i, subscripted slice false o i = operate [o, i] (getItem o i) := by intros; with_unfolding_all rfl) : Op2 c A (subscriptTail value slice) (.ref k) (d.kv key) σ K := by
  intro ws s va vb Q R r r' qq
  cases r with
  | ref _ p e' =>
    obtain ⟨kvs, hd, h2, rs⟩ := (d.ro ws s.heap p es).mp (R.at e e')
    rcases rs.get key with ⟨g', _⟩ | ⟨v', x, g', hx, rx⟩
    · rw [g] at g'; cases g'
    · rw [g] at g'; cases g'
      exact tail_any hd.typeIs slot_dict_getitem.lookup (wpAny_getItem_of (d.key ws _ _ _ r') hd.mapOf hx (qq ws { s with toks := s.toks + 1 } _ _ σ kk (.refl ..) (R.tok _) rx)) (hs _ _)
theorem D.set {k : Nat} {es : List (κ × V)} {key : κ} {v : V} {KO : List O → Prop} (e : σ[k]? = some (d.box es)) (hl : es.length ≤ 1000000) (kk : KO (σ.set k (d.box (setE es key v)))) :
    Op3 c A setItem (.ref k) (d.kv key) v σ KO := by
  intro ws s va vb vd Q R ra rb rd q
  cases ra with
  | ref _ p e' =>
    obtain ⟨kvs, hd, h2, rs⟩ := (d.ro ws s.heap p es).mp (R.at e e')
    refine wpAny_setItem_pairs (d.key ws _ _ _ rb) hd (fun h' hd' hs' => ?_) (by rw [← rs.length, sizeLine_eq]; omega)
    have there : ∀ (a : Nat) o, s.heap.get? a = some o → ∃ o', h'.get? a = some o' := fun a o ea => by
      by_cases qa : a = p.1
      · subst qa; obtain ⟨o', _, _, eo, _⟩ := hd'; exact ⟨o', eo⟩
      · exact ⟨o, (hs'.2 a qa).trans ea⟩
    obtain ⟨R', E'⟩ := R.cellTurn (o' := d.box (setE es key v)) e' (fun a o ea n1 _ => (hs'.2 a n1).trans ea) there (fun S => (d.ro ws h' p _).mpr ⟨_, hd', h2, (rs.mono S).set key (rd.mono S)⟩) (s.toks + 1)
    exact q ws _ _ kk E' R'
theorem D.notIn {k : Nat} {es : List (κ × V)} {key : κ} (e : σ[k]? = some (d.box es)) (kk : K (.bool (!(getE es key).isSome)) σ) : Op2 c A (compareOp .NotIn) (d.kv key) (.ref k) σ K := by
  intro ws s va vb Q R r r' qq
  cases r' with
  | ref _ p e' =>
    obtain ⟨kvs, hd, h2, rs⟩ := (d.ro ws s.heap p es).mp (R.at e e')
    refine wpAny_notIn_of (d.key ws _ _ _ r) (R.notMods e') hd.mapOf ?_
    have : (valueAt kvs key).isSome = (getE es key).isSome := by
      rcases rs.get key with ⟨g, h⟩ | ⟨v, x, g, h, _⟩ <;> rw [g, h] <;> rfl
    rw [this]
    exact qq ws { s with toks := s.toks + 1 } _ _ σ kk (.refl ..) (R.tok _) (.bool _)
/-- dict(d) -/
theorem D.copy {mg mb : Str → Option Value} (G : Gr c mg mb) {k : Nat} {es : List (κ × V)} (e : σ[k]? = some (d.box es)) (hl : es.length ≤ 1000000) (kk : K (.ref σ.length) (σ ++ [d.box es])) : Cl c A (.type "dict") [.ref k] σ K := by
  intro ws s vals Q R r q
  cases r with
  | cons _ x _ xs r rs =>
    cases rs
    cases r with
    | ref _ p e' =>
      obtain ⟨kvs, hd, h2, rs⟩ := (d.ro ws s.heap p es).mp (R.at e e')
      refine kt_call_dict (R.notMods e') hd (by rw [← rs.length, sizeLine_eq]; omega) fun h' hd' hs' => ?_
      have keep : ∀ (b : Nat) o, s.heap.get? b = some o → h'.get? b = some o := fun b o eb => (hs'.2 b (fun q => by rw [q, get_size] at eb; cases eb)).trans (Heap.get?_push_of_some _ eb)
      obtain ⟨R', E'⟩ := R.newCell (p := (s.heap.objs.size, s.heap.objs.size)) (o := d.box es) keep (get_size _) (get_size _) (by obtain ⟨o', _, _, eo, _⟩ := hd'; exact ⟨o', eo⟩) (by obtain ⟨o', _, _, eo, _⟩ := hd'; exact ⟨o', eo⟩) (R.size_ne G)
        (fun E => (d.ro _ h' _ _).mpr ⟨kvs, hd', rfl, rs.mono (E.step (by simp))⟩) s.toks
      exact q _ _ (.ref σ.length) _ _ kk E' R' (.ref σ.length (s.heap.objs.size, s.heap.objs.size) (by rw [R.len]; simp [Ws.grow]))
end
end Mine
end
section
set_option maxRecDepth 100000
set_option Elab.async false
set_option linter.unusedVariables false
set_option linter.unusedSectionVars false
namespace Mine
open PySem PySem.W PySem.Calls PyProof.Rows

section
variable {c : Cx} {fm : Fm} {A : Around} {ρ : Ρ} {σ : List O} {K : V → List O → Prop} {κ : Type} [DecidableEq κ] (d : Dk c κ)

theorem RKs.nil {P : Params} {ws : Ws} {h : Heap} : RKs P ws h ([] : List (κ × V)) [] := trivial
theorem D.new {mg mb : Str → Option Value} (G : Gr c mg mb) {ws : Ws} {s : Shared} (R : Rel c ws σ s) (t : Nat) :
    Rel c (ws.grow (s.heap.objs.size, s.heap.objs.size)) (σ ++ [d.box []]) { s with heap := s.heap.push { cls := .type "dict", data := .dict #[] }, toks := t } ∧
    Ext [] ws s.heap (ws.grow (s.heap.objs.size, s.heap.objs.size)) (s.heap.push { cls := .type "dict", data := .dict #[] }) :=
  R.newCell (p := (s.heap.objs.size, s.heap.objs.size)) (fun a o e => Heap.get?_push_of_some _ e) (get_size _) (get_size _) ⟨_, Heap.get?_push_size _ rfl⟩ ⟨_, Heap.get?_push_size _ rfl⟩ (R.size_ne G)
    (fun E => (d.ro _ _ _ _).mpr ⟨[], Heap.DictOf.new s.heap, rfl, RKs.nil⟩) t
/-- {} -/
theorem Ev.dict0 {mg mb : Str → Option Value} (G : Gr c mg mb) {pos : Pos} (k : K (.ref σ.length) (σ ++ [d.box []])) : Ev c fm A (eval (.Dict [] [] pos) fm.env) ρ σ K := by
  intro ws s Q R L q
  refine wpAny_Dict_empty ?_
  obtain ⟨R', E'⟩ := D.new d G R s.toks
  exact q _ _ (.ref σ.length) _ _ k E' R' (L.ext R E') (.ref σ.length (s.heap.objs.size, s.heap.objs.size) (by rw [R.len]; simp [Ws.grow]))

/-- pairs of a display, constant keys -/
def Eps (c : Cx) (fm : Fm) (A : Around) (t : Sem (List (Value × Value))) (ρ : Ρ) (σ : List O) (d : Dk c κ) (K : List (κ × V) → List O → Prop) : Prop :=
  ∀ ws s (Q : List (Value × Value) → Shared → Prop), Rel c ws σ s → Loc c fm ws ρ s.heap →
    (∀ ws' s' vs es σ', K es σ' → Ext [] ws s.heap ws' s'.heap → Rel c ws' σ' s' → Loc c fm ws' ρ s'.heap → (∃ kvs, Carries d.knd vs kvs ∧ RKs c.P ws' s'.heap es kvs) → Q vs s') → wpAny (model c.prog c.w) A t Q NoE s
theorem Eps.nil {KE : List (κ × V) → List O → Prop} (k : KE [] σ) : Eps c fm A (evalPairs []) ρ σ d KE :=
  fun ws s Q R L q => wpAny_pure (q ws s [] [] σ k (.refl ..) R L ⟨[], trivial, trivial⟩)
theorem Eps.cons {KE : List (κ × V) → List O → Prop} {kt vt : Sem Value} {rest : List (Sem Value × Sem Value)} {key : κ} (h : Ev c fm A kt ρ σ fun kv σ₁ => kv = d.kv key ∧ Ev c fm A vt ρ σ₁ fun v σ₂ => Eps c fm A (evalPairs rest) ρ σ₂ d fun es σ₃ => KE ((key, v) :: es) σ₃) :
    Eps c fm A (evalPairs ((kt, vt) :: rest)) ρ σ d KE := by
  intro ws s Q R L q
  unfold evalPairs
  refine wpAny_bind (h ws s _ R L fun ws₁ s₁ kv kval σ₁ k₁ E₁ R₁ L₁ r₁ => ?_)
  obtain ⟨rfl, k₁⟩ := k₁
  refine wpAny_bind (wpAny_holding (k₁ ws₁ s₁ _ R₁ L₁ fun ws₂ s₂ v val σ₂ k₂ E₂ R₂ L₂ r₂ => ?_))
  refine wpAny_bind (wpAny_holding (k₂ ws₂ s₂ _ R₂ L₂ fun ws₃ s₃ vs es σ₃ k₃ E₃ R₃ L₃ r₃ => ?_))
  obtain ⟨kvs, cs, rs⟩ := r₃
  exact wpAny_pure (q ws₃ s₃ _ ((key, v) :: es) σ₃ k₃ ((E₁.trans E₂).trans E₃) R₃ L₃ ⟨(key, val) :: kvs, ⟨d.key ws₁ _ _ _ r₁, rfl, cs⟩, rfl, r₂.mono E₃.st, rs⟩)
theorem RKs.merged {P : Params} {ws : Ws} {h : Heap} : ∀ {es : List (κ × V)} {kvs : List (κ × Value)}, RKs P ws h es kvs → ∀ {es₀ : List (κ × V)} {kvs₀ : List (κ × Value)}, RKs P ws h es₀ kvs₀ → RKs P ws h (es.foldl (fun acc x => setE acc x.1 x.2) es₀) (PySem.merged kvs₀ kvs)
  | [], [], _, _, _, r => r
  | (k, v) :: es, (k', x) :: kvs, ⟨e, r, rs⟩, es₀, kvs₀, r₀ => by
    subst e
    exact RKs.merged rs (r₀.set k r)
/-- {k: v, ..} -/
theorem Ev.dict {mg mb : Str → Option Value} (G : Gr c mg mb) {keys : List (Option Expr)} {values : List Expr} {pos : Pos} {pairs : List (Sem Value × Sem Value)}
    (hshape : (evalEachOpt keys fm.env).zip ((evalEach values fm.env).map fun v => do let x ← v; standAt pos; pure x) = pairs.map fun p => (some p.1, p.2)) (h0 : pairs ≠ []) (hlen : pairs.length ≤ 15)
    (h : Eps c fm A (evalPairs pairs) ρ (σ ++ [d.box []]) d fun es σ₁ => σ₁ = σ ++ [d.box []] ∧ K (.ref σ.length) (σ ++ [d.box (es.foldl (fun acc x => setE acc x.1 x.2) [])])) :
    Ev c fm A (eval (.Dict keys values pos) fm.env) ρ σ K := by
  intro ws s Q R L q
  refine wpAny_Dict_pairs (knd := d.knd) hshape h0 hlen ?_
  obtain ⟨R₀, E₀⟩ := D.new d G R s.toks
  refine h _ _ _ R₀ (L.ext R E₀) fun ws₁ s₁ vs es σ₁ k₁ E₁ R₁ L₁ r₁ => ?_
  obtain ⟨rfl, k₁⟩ := k₁
  obtain ⟨kvs, cs, rs⟩ := r₁
  have e0 : (ws.grow (s.heap.objs.size, s.heap.objs.size)).cs[σ.length]? = some (s.heap.objs.size, s.heap.objs.size) := by rw [R.len]; simp [Ws.grow]
  have ek : ws₁.cs[σ.length]? = some (s.heap.objs.size, s.heap.objs.size) := E₁.st.cs _ _ e0
  have ro := R₁.objs σ.length (d.box []) _ (by simp) ek
  obtain ⟨kvs₀, hd, h2, rs₀⟩ := (d.ro _ _ _ _).mp ro
  have hk0 : kvs₀ = [] := by cases kvs₀ with
    | nil => rfl
    | cons => exact rs₀.elim
  subst hk0
  refine ⟨kvs, cs, hd, fun h' hd' hs' => ?_⟩
  have there : ∀ (a : Nat) o, s₁.heap.get? a = some o → ∃ o', h'.get? a = some o' := fun a o ea => by
    by_cases qa : a = s.heap.objs.size
    · subst qa; obtain ⟨o', _, _, eo, _⟩ := hd'; exact ⟨o', eo⟩
    · exact ⟨o, (hs'.2 a qa).trans ea⟩
  obtain ⟨R', E'⟩ := R₁.cellTurn (o' := d.box (es.foldl (fun acc x => setE acc x.1 x.2) [])) ek (fun a o ea n1 _ => (hs'.2 a n1).trans ea) there (fun S => (d.ro _ h' _ _).mpr ⟨_, hd', rfl, (rs.mono S).merged RKs.nil⟩) (s₁.toks + vs.length)
  have eσ : (σ ++ [d.box []]).set σ.length (d.box (es.foldl (fun acc x => setE acc x.1 x.2) [])) = σ ++ [d.box (es.foldl (fun acc x => setE acc x.1 x.2) [])] := by simp
  rw [eσ] at R'
  exact q _ _ (.ref σ.length) _ _ k₁ ((E₀.trans E₁).trans E') R' (L₁.ext R₁ E') (.ref σ.length _ (E'.st.cs _ _ ek))

theorem Mt.get {k : Nat} {es : List (κ × V)} (e : σ[k]? = some (d.box es)) : Mt c (.ref k) σ "get" (.builtin "dict.get") := by
  intro A ws s val pl Q R r q
  cases r with
  | ref _ p e' =>
    obtain ⟨kvs, hd, h2, rs⟩ := (d.ro ws s.heap p es).mp (R.at e e')
    exact getMethod_builtin (s := s) hd.typeIs PySem.F.plainAttrs_dict PySem.F.slot_dict_get PySem.F.type_dict_get hd.mapOf.noDict (q s.toks)
theorem B.get {k : Nat} {es : List (κ × V)} {key : κ} {v : V} (e : σ[k]? = some (d.box es)) (kk : K ((getE es key).getD v) σ) : Cl c A (.builtin "dict.get") [.ref k, d.kv key, v] σ K := by
  intro ws s vals Q R r q
  cases r with
  | cons _ x _ xs r rs =>
    cases rs with
    | cons _ y _ ys ry rs =>
      cases rs with
      | cons _ z _ zs rz rs =>
        cases rs
        cases r with
        | ref _ p e' =>
          obtain ⟨kvs, hd, h2, rs⟩ := (d.ro ws s.heap p es).mp (R.at e e')
          refine call_meetsIn PySem.F.slot_dict_get hd.typeIs PySem.F.entry_dict_get (PySem.F.args_dict_get_3 _ _ _) (meets_dict_get_default d.knd p.1 (d.key ws _ _ _ ry) (R.notMods e') z) ⟨_, hd.mapOf, ?_⟩
          rcases rs.get key with ⟨g, hx⟩ | ⟨w, x, g, hx, rx⟩
          · rw [hx]; rw [g] at kk
            exact q ws { s with toks := s.toks + 1 } _ _ σ kk (.refl ..) (R.tok _) rz
          · rw [hx]; rw [g] at kk
            exact q ws { s with toks := s.toks + 1 } _ _ σ kk (.refl ..) (R.tok _) rx
end
end Mine
end
section
set_option maxRecDepth 100000
set_option Elab.async false
set_option linter.unusedVariables false
set_option linter.unusedSectionVars false
namespace Mine
open PySem PySem.W PySem.Calls PyProof.Rows

section
variable {c : Cx} {fm : Fm} {A : Around} {ρ : Ρ} {σ : List O} {K : V → List O → Prop}

theorem hits_of {κ : Type} [DecidableEq κ] {P : Params} {ws : Ws} {s : Shared} {eb : List (κ × V)} {kb : List (κ × Value)} (rb : RKs P ws s.heap eb kb) : ∀ {es : List (κ × V)} {kvs : List (κ × Value)}, RKs P ws s.heap es kvs →
    (∀ x ∈ es, ∃ n, x.2 = .int n ∧ getE eb x.1 = some (.int n)) → KeqHits A.in1 s kb kvs true
  | [], [], _, _ => .nil
  | (k, v) :: es, (k', x) :: kvs, ⟨e, r, rs⟩, h => by
    subst e
    obtain ⟨n, hv, hg⟩ := h (k, v) (.head _)
    have hv' : v = .int n := hv
    subst hv'
    have ih := hits_of rb rs fun x hx => h x (.tail _ hx)
    rcases rb.get k with ⟨g, _⟩ | ⟨w, y, g, hy, ry⟩
    · have hg' : getE eb k = some (.int n) := hg
      rw [hg'] at g; cases g
    · have hg' : getE eb k = some (.int n) := hg
      rw [hg'] at g; cases g
      cases r with
      | int _ t => cases ry with
        | int _ u =>
          have e := PySem.SeqAt.EqAt.int_int (A := A.in1) (s := s) n t n u
          have := KeqHits.hit (k := k) hy e ih
          simpa using this
/-- two dicts of the same ints -/
theorem D.eq {n : Nat} (ao : AOk A n) {k j : Nat} {es es' : List (Str × V)} (e : σ[k]? = some (.sdict es)) (e2 : σ[j]? = some (.sdict es')) (hl : es.length = es'.length)
    (h : ∀ x ∈ es, ∃ n, x.2 = .int n ∧ getE es' x.1 = some (.int n)) (kk : K (.bool true) σ) : Op2 c A (compareOp .Eq) (.ref k) (.ref j) σ K := by
  intro ws s va vb Q R r r' qq
  cases r with
  | ref _ p ep =>
    cases r' with
    | ref _ p' ep' =>
      obtain ⟨kvs, hd, h2, rs⟩ := R.at e ep
      obtain ⟨kvs', hd', h2', rs'⟩ := R.at e2 ep'
      have len : kvs.length = kvs'.length := by rw [← rs.length, ← rs'.length, hl]
      refine keq_eq (r := true) (R.notMods ep) (R.notMods ep') hd hd' ao.croom (fun _ => hits_of rs' rs h) ?_
      rw [len, beq_self_eq_true]
      exact qq ws s _ _ σ kk (.refl ..) R (.bool _)

/-! ## Iterating over a dict's keys -/
theorem Rel.same {ws : Ws} {s : Shared} (R : Rel c ws σ s) {k : Nat} {o o' : O} (e : σ[k]? = some o) (h : ∀ p, ws.cs[k]? = some p → RO c ws s.heap p o → RO c ws s.heap p o') : Rel c ws (σ.set k o') s := by
  refine ⟨R.base, R.gens, R.os, by simp [R.len], fun j o₁ q h1 h2 => ?_, R.there, R.fresh, R.apart, R.dist, R.mods⟩
  by_cases hj : j = k
  · subst hj
    have hlt := (List.getElem?_eq_some_iff.mp e).1
    rw [List.getElem?_set_self hlt] at h1
    cases h1
    exact h q h2 (R.objs j o q e h2)
  · rw [List.getElem?_set_ne (Ne.symm hj)] at h1
    exact R.objs j o₁ q h1 h2
/-- a dict's time is seen -/
theorem Ex.see {KK : FV → Ρ → List O → Prop} {t : Sem Flow} {k : Nat} {es : List (Str × V)} (e : σ[k]? = some (.sdict es)) (h : ∀ ep, Ex c fm A t ρ (σ.set k (.kdict es ep)) KK) : Ex c fm A t ρ σ KK := by
  intro ws s Q R L q
  have hlt : k < ws.cs.length := by rw [← R.len]; exact (List.getElem?_eq_some_iff.mp e).1
  have ep : ws.cs[k]? = some ws.cs[k] := List.getElem?_eq_getElem hlt
  obtain ⟨kvs, hd, h2, rs⟩ := R.at e ep
  obtain ⟨n, hat⟩ := hd.dictAt
  refine h n ws s Q (R.same e fun p hp _ => ?_) L q
  rw [ep] at hp; cases hp
  exact ⟨kvs, hat, h2, rs⟩
theorem keyIter_there {h : Heap} {a d i n ep : Nat} (x : h.IsKeyIter a d i n ep) : ∃ o, h.get? a = some o := let ⟨o, e, _⟩ := x; ⟨o, e⟩
theorem It.keys {k : Nat} {es : List (Str × V)} {ep : Nat} : It c (.ref k) (es.map fun x => .str x.1) fun σ => σ[k]? = some (.kdict es ep) := by
  refine ⟨fun val a i h => ∃ d, val = .ref d ∧ h.IsKeyIter a d i es.length ep, fun val a i h h' kp ⟨d, e, o, ho, r⟩ => ⟨d, e, o, kp _ ho, r⟩, ?_, ?_, ?_, ?_, ?_⟩
  · intro A ws σ s val Q g R r q
    cases r with
    | ref _ p e' =>
      obtain ⟨kvs, hat, h2, rs⟩ := R.at g e'
      refine wpAny_pyIter_dict (R.notMods e') hat (q _ rfl ⟨p.1, rfl, ?_⟩)
      rw [rs.length]
      exact ⟨_, Heap.get?_push_size _ rfl, rfl, rfl⟩
  · intro A ws σ s val a i x Q hh hx ha g R r st q
    cases r with
    | ref _ p e' =>
      obtain ⟨kvs, hat, h2, rs⟩ := R.at g e'
      obtain ⟨dd, e, hit⟩ := st
      cases e
      rw [rs.length] at hit
      have hi : i < es.length := by simpa using (List.getElem?_eq_some_iff.mp hx).1
      have ex : x = .str es[i].1 := by
        have : (es.map fun x => V.str x.1)[i]? = some (.str es[i].1) := by simp [hi]
        rw [this] at hx; cases hx; rfl
      subst ex
      have hi' : i < kvs.length := by rw [← rs.length]; exact hi
      have ekk : es[i].1 = kvs[i].1 := by
        have := rs.keys
        have h1 : (es.map (·.1))[i]? = some es[i].1 := by simp [hi]
        have h2 : (kvs.map (·.1))[i]? = some kvs[i].1 := by simp [hi']
        rw [this, h2] at h1
        exact (Option.some.inj h1).symm
      refine wpAny_pyNext_dict_item hit hat (k := kvs[i].1) (v := kvs[i].2) (by rw [List.getElem?_eq_getElem hi']) fun key h' hkey hit' sb => ?_
      have : ∃ t, key = .str kvs[i].1 t := Value.isStrOf_shape hkey
      obtain ⟨t, rfl⟩ := this
      refine q h' _ s.toks ⟨p.1, rfl, by rw [rs.length]; exact hit'⟩ (keyIter_there hit') sb ?_
      rw [ekk]
      exact .str _ t
  · intro A ws σ s val a i Q hh hx hi ha g R r st q
    cases r with
    | ref _ p e' =>
      obtain ⟨kvs, hat, h2, rs⟩ := R.at g e'
      obtain ⟨dd, e, hit⟩ := st
      cases e
      rw [rs.length] at hit
      refine wpAny_pyNext_dict_end hh hit hat (List.getElem?_eq_none ?_) fun h' eb => q h' s.toks eb
      have := List.getElem?_eq_none_iff.mp hx
      rw [← rs.length]
      simpa using this
  · rintro A s val a i Q ⟨d, rfl, hit⟩ q
    exact wpAny_pyIter_keyiter hit q
  · rintro A s val a i target v Q ⟨d, rfl, hit⟩ q
    exact letGo_keyiter hit q
end
end Mine
end
section
set_option maxRecDepth 100000
set_option Elab.async false
set_option linter.unusedVariables false
set_option linter.unusedSectionVars false
namespace Mine
open PySem PySem.W PySem.Calls PyProof.Rows

section
variable {prog : Program} {w : World} {A : Around} {E : Value → Shared → Prop} {s : Shared} {K : Frag} {x C dx : Addr} {es : List DictEntry} {n : Nat} {name : Str} {v : Value}
theorem own_attr {R : Result → Shared → Prop} {tk : Tok} (X : K.In s.heap) (hx : s.heap.get? x = some (instObj C dx)) (D : s.heap.get? dx = some (dictOf es n))
    (hp : plainOver K C = true) (ht : takerIn K C name = some none) (hh : hasDictIn K C = true) (hl : (getL name es).isSome = true)
    (hz : (putL name (PyData.keyHash w.params name) (.str name s.toks) v es).length ≤ 1000)
    (h : ∀ h', h'.get? dx = some (dictOf (putL name (PyData.keyHash w.params name) (.str name s.toks) v es) (putN name es n)) → Heap.SameBut dx s.heap h' → R (.ok (.ret .none)) { s with heap := h', toks := s.toks + 1 }) :
    codeAny (model prog w) A (.call (.builtin "object.__setattr__") ⟨[.ref x, .str name tk, v], []⟩) R s := by
  have I : InstAt s.heap x (instObj C dx) C (some (dictOf es n)) := ⟨hx, rfl, rfl, D⟩
  refine osa_open X I hp ht fun b => ?_
  obtain ⟨cd, hc, hd'⟩ := any_some hh
  refine wpAny_bind (wpAny_pure (wpAny_bind (wpAny_bind (wpAny_loadPart hx (wpAny_bind ((looks_clsIn X hc).here ?_))))))
  rw [hd']
  refine wpAny_pure (a := some dx) (wpAny_bind (wpAny_pure (wpAny_bind ?_)))
  unfold nsSet
  refine wpAny_bind (wpAny_bind (wpAny_askSetting (wpAny_pure (wpAny_bind (wpAny_mkText (wpAny_bind (wpAny_loadPart D ?_)))))))
  dsimp only
  have c : (!es.toArray.any (·.key.isStr name) && es.toArray.any (·.refKey)) = false := by
    unfold getL at hl
    rw [← Array.any_toList, ← Array.any_toList]
    split at hl
    · rename_i en he
      have he' : es.find? (·.key.isStr name) = some en := he
      rw [List.any_eq_true.mpr ⟨en, List.mem_of_find?_eq_some he', List.find?_some he'⟩]; rfl
    · split at hl
      · cases hl
      · rename_i z
        rw [Bool.not_eq_true] at z
        rw [z, Bool.and_false]
  rw [aRefKeyMayBeTheName_at, c]
  refine wpAny_updatePart D ?_
  have hself : (s.heap.update dx (Obj.putName name (PyData.keyHash w.params name) (.str name s.toks) v)).get? dx = some (dictOf (putL name (PyData.keyHash w.params name) (.str name s.toks) v es) (putN name es n)) := by
    rw [Heap.get?_update_self _ D (by rw [putName_dict]; rfl), putName_dict]
  refine wpAny_bind (wpAny_lookBehind hself (pastItsLine_dict (by rw [List.size_toArray, sizeLine_eq]; omega)) ?_)
  exact wpAny_pure (h _ hself (Heap.SameBut.update ..))
theorem set_attr {Q : Unit → Shared → Prop} (X : K.In s.heap) (hx : s.heap.get? x = some (instObj C dx)) (D : s.heap.get? dx = some (dictOf es n))
    (hs : findIn K (.ref C) "__setattr__" = some (some (.builtin "object.__setattr__"))) (hp : plainOver K C = true) (ht : takerIn K C name = some none) (hh : hasDictIn K C = true) (hl : (getL name es).isSome = true)
    (hz : (putL name (PyData.keyHash w.params name) (.str name (s.toks + 1)) v es).length ≤ 1000)
    (h : ∀ h', h'.get? dx = some (dictOf (putL name (PyData.keyHash w.params name) (.str name (s.toks + 1)) v es) (putN name es n)) → Heap.SameBut dx s.heap h' → Q () { s with heap := h', toks := s.toks + 2 }) :
    wpAny (model prog w) A (setAttr (.ref x) name v) Q E s :=
  set_plain (od := some (dictOf es n)) X ⟨hx, rfl, rfl, D⟩ hs (own_attr (s := { s with toks := s.toks + 1 }) X hx D hp ht hh hl hz h)
end
end Mine
end
section
set_option maxRecDepth 100000
set_option Elab.async false
set_option linter.unusedVariables false
set_option linter.unusedSectionVars false
namespace Mine
open PySem PySem.W PySem.Calls PyProof.Rows

section
variable {c : Cx} {A : Around} {σ : List O} {K : V → List O → Prop}
/-- a call's code -/
def Cc (c : Cx) (A : Around) (f : Value) (args : List V) (σ : List O) (K : V → List O → Prop) : Prop :=
  ∀ ws s vals (R : Result → Shared → Prop), Rel c ws σ s → RVs c.P ws s.heap args vals →
    (∀ ws' s' v val σ', K v σ' → Ext [] ws s.heap ws' s'.heap → Rel c ws' σ' s' → RV c.P ws' s'.heap v val → R (.ok (.ret val)) s') → codeAny (model c.prog c.w) A (.call f ⟨vals, []⟩) R s
theorem Cc.def {n : Nat} {fa : Nat} {fd : FuncData} {body : List Stmt} {xs : List String} {args : List V} {mg mb : Str → Option Value} (G : Gr c mg mb) (D : Def c fa fd body xs) (a : AOk A (n + 1)) (hl : args.length = xs.length)
    (hcell : ∀ x ∈ fd.scope.names, x.2 ≠ .cell) (hloc : ∀ x ∈ xs, fd.scope.names.lookup (Str.ofString x) = some .local)
    (h : ∀ (fm : Fm) (A' : Around), fm.env.scope = fd.scope → AOk A' n → Ex c fm A' (execs body fm.env) (xs.zip args) σ (back K)) :
    Cc c A (.ref fa) args σ K := by
  intro ws s vals RR R r q
  obtain ⟨o, ho, hd⟩ := D.obj
  refine codeAny_call_def (binds := (xs.map Str.ofString).zip vals) a.room (R.base _ _ ho) hd (G.nolimit.keeps R.base) (D.code.keeps R.base) D.body (D.bind _ _ (by rw [← r.length, hl])) hcell (fun x hx => ?_) (fun h₁ hns hk₁ => ?_) D.co D.gen D.kind
  · obtain ⟨y, hy, e⟩ := List.mem_map.mp (List.of_mem_zip hx).1
    rw [← e]; exact hloc y hy
  · have g : s.heap.get? s.heap.objs.size = none := get_size _
    have tL : ∃ o, h₁.get? s.heap.objs.size = some o := by obtain ⟨o, _, _, e, _⟩ := hns; exact ⟨o, e⟩
    have R₁ := R.heat g tL hk₁ (s.toks + ((xs.map Str.ofString).zip vals).length)
    have S₁ := heat_step ws g hk₁
    have kl : ∀ x ∈ xs, (callEnv fd s.heap.objs.size fa).kindOf (Str.ofString x) = some .local := hloc
    have L₁ : Loc c ⟨callEnv fd s.heap.objs.size fa, [s.heap.objs.size]⟩ (ws.heat s.heap.objs.size) (xs.zip args) h₁ := by
      refine ⟨D.kind, D.glob, D.blt, List.mem_singleton.mpr rfl, by simp [Ws.heat], ⟨_, hns, fun x v e _ => ?_⟩, fun x v e => .inl (kl x (zip_mem e)), fun x ca e => ?_, fun x y ca e => ?_⟩
      · obtain ⟨val, h1, h2⟩ := zip_lookup r D.nodup e
        exact ⟨val, h1, h2.mono S₁⟩
      · have e' : fd.closure.lookup x = some ca := e
        rw [D.closure] at e'; cases e'
      · have e' : fd.closure.lookup x = some ca := e
        rw [D.closure] at e'; cases e'
    have fin : ∀ ws' s' v val σ', K v σ' → Ext [s.heap.objs.size] (ws.heat s.heap.objs.size) h₁ ws' s'.heap → Rel c ws' σ' s' → RV c.P ws' s'.heap v val → RR (.ok (.ret val)) s' := by
      intro ws' s' v val σ' k E R' r'
      obtain ⟨e, E'⟩ := Ext.cool g hk₁ E
      rw [e] at R' r'
      exact q _ s' v val σ' k E' R'.cool (r'.mono (cool_step _ _ _))
    refine wpAny_mono (h ⟨callEnv fd s.heap.objs.size fa, [s.heap.objs.size]⟩ (A.deeper (callEnv fd s.heap.objs.size fa)) rfl a.deeper _ _ (fun f s' => RR (.ok (.ret (match f with | .ret v => v | _ => .none))) s') R₁ L₁ fun ws' s' f fl ρ' σ' k E R' L' rf => ?_) (fun f s' hq => ?_) fun e s' hq => hq.elim
    · cases rf with
      | ret v x rv => exact fin ws' s' v x σ' k E R' rv
      | next => exact fin ws' s' .none .none σ' k E R' .none
      | brk => exact k.elim
      | cont => exact k.elim
    · exact hq

end

/-! ## Instances -/
def lookA (as : List (Str × V)) (x : Str) : Option V := (as.find? fun y => y.1 == x).map (·.2)
def setA : List (Str × V) → Str → V → List (Str × V)
  | [], x, v => [(x, v)]
  | (y, w) :: r, x, v => if y == x then (y, v) :: r else (y, w) :: setA r x v
section
variable {P : Params} {ws : Ws} {h : Heap}
theorem RAs.get : ∀ {as : List (Str × V)} {es : List DictEntry}, RAs P ws h as es → ∀ x, (lookA as x = none ∧ getL x es = some none) ∨ ∃ v y, lookA as x = some v ∧ getL x es = some (some y) ∧ RV P ws h v y
  | _, _, .nil, x => .inl ⟨rfl, rfl⟩
  | _, _, .cons z t v y l es r rs, x => by
    cases q : z == x with
    | true => exact .inr ⟨v, y, by simp [lookA, q], by simp [getL, Value.isStr, q], r⟩
    | false =>
      rcases RAs.get rs x with ⟨h1, h2⟩ | ⟨v', y', h1, h2, h3⟩
      · refine .inl ⟨by simpa [lookA, q] using h1, ?_⟩
        unfold getL at h2 ⊢
        simp only [List.find?_cons, Value.isStr, q, List.any_cons, DictEntry.refKey, Bool.false_or] at h2 ⊢
        exact h2
      · refine .inr ⟨v', y', by simpa [lookA, q] using h1, ?_, h3⟩
        unfold getL at h2 ⊢
        simp only [List.find?_cons, Value.isStr, q, List.any_cons, DictEntry.refKey, Bool.false_or] at h2 ⊢
        exact h2
theorem RAs.put : ∀ {as : List (Str × V)} {es : List DictEntry}, RAs P ws h as es → ∀ (x : Str) (t : Tok) {v : V} {y : Value}, RV P ws h v y → RAs P ws h (setA as x v) (putL x (PyData.keyHash P x) (.str x t) y es)
  | _, _, .nil, x, t, v, y, r => .cons x t v y [] [] r .nil
  | _, _, .cons z t' w y' l es r rs, x, t, v, y, r' => by
    by_cases q : (z == x) = true
    · have a1 : setA ((z, w) :: l) x v = (z, v) :: l := if_pos q
      have a2 : putL x (PyData.keyHash P x) (.str x t) y (⟨PyData.keyHash P z, .str z t', y'⟩ :: es) = ⟨PyData.keyHash P z, .str z t', y⟩ :: es := if_pos q
      rw [a1, a2]; exact .cons z t' v y l es r' rs
    · have a1 : setA ((z, w) :: l) x v = (z, w) :: setA l x v := if_neg q
      have a2 : putL x (PyData.keyHash P x) (.str x t) y (⟨PyData.keyHash P z, .str z t', y'⟩ :: es) = ⟨PyData.keyHash P z, .str z t', y'⟩ :: putL x (PyData.keyHash P x) (.str x t) y es := if_neg q
      rw [a1, a2]; exact .cons z t' w y' _ _ r (RAs.put rs x t r')
theorem RAs.length : ∀ {as : List (Str × V)} {es : List DictEntry}, RAs P ws h as es → as.length = es.length
  | _, _, .nil => rfl
  | _, _, .cons _ _ _ _ _ _ _ rs => congrArg (· + 1) rs.length
theorem putL_length (x : Str) (hs : Int) (k v : Value) : ∀ es : List DictEntry, (putL x hs k v es).length ≤ es.length + 1
  | [] => by simp [putL]
  | e :: r => by
    unfold putL
    have := putL_length x hs k v r
    split <;> simp <;> omega
end
section
variable {c : Cx} {fm : Fm} {A : Around} {ρ : Ρ} {σ : List O} {K : V → List O → Prop}
def Hd (v : V) : Prop := match v with | .con _ => False | _ => True
theorem Hd.in {P : Params} {ws : Ws} {h : Heap} {v : V} {x : Value} (hv : Hd v) (r : RV P ws h v x) : handedIn x = true := by
  cases r <;> first | rfl | exact hv.elim
/-- a field of its own -/
theorem N.get {mg mb : Str → Option Value} (G : Gr c mg mb) {k C : Nat} {as : List (Str × V)} {name : Str} {v : V} {attr : Option Value} (e : σ[k]? = some (.inst C as)) (g : lookA as name = some v) (hv : Hd v)
    (hg : plainGet c.K C name = true) (hh : hasDictIn c.K C = true) (ha : findIn c.K (.ref C) name = some attr) (hn : noGet c.K attr = true) (kk : K v σ) : Op1 c A (fun x => getAttr x name true) (.ref k) σ K := by
  intro ws s va Q R r q
  cases r with
  | ref _ p e' =>
    obtain ⟨des, n, hx, hd, rs⟩ := R.at e e'
    rcases rs.get name with ⟨g', _⟩ | ⟨v', y, g', hy, ry⟩
    · rw [g] at g'; cases g'
    · rw [g] at g'; cases g'
      exact get_value (od := some (dictOf des n)) (G.X.keeps R.base) ⟨hx, rfl, rfl, hd⟩ (plainGet_of hg).1 (findObj_own hh ha hn (by rw [lookIn_dict]; exact hy)) (hv.in ry) (q ws { s with toks := s.toks + 1 } v y σ kk (.refl ..) (R.tok _) ry)
/-- a field of its class -/
theorem N.cls {mg mb : Str → Option Value} (G : Gr c mg mb) {k C : Nat} {as : List (Str × V)} {name : Str} {v : V} {a : Value} (e : σ[k]? = some (.inst C as)) (g : lookA as name = none)
    (hr : ∀ ws s, Rel c ws σ s → RV c.P ws s.heap v a)
    (hg : plainGet c.K C name = true) (hh : hasDictIn c.K C = true) (ha : findIn c.K (.ref C) name = some (some a)) (hn : specialIn c.K a "__get__" = some none) (hv : handedIn a = true) (hc : copiedNames.contains name = false) (kk : K v σ) :
    Op1 c A (fun x => getAttr x name true) (.ref k) σ K := by
  intro ws s va Q R r q
  cases r with
  | ref _ p e' =>
    obtain ⟨des, n, hx, hd, rs⟩ := R.at e e'
    rcases rs.get name with ⟨_, hy⟩ | ⟨v', y, g', _⟩
    · exact get_value (od := some (dictOf des n)) (G.X.keeps R.base) ⟨hx, rfl, rfl, hd⟩ (plainGet_of hg).1 (findObj_cls hh ha hn hv hc (by rw [lookIn_dict]; exact hy)) hv (q ws { s with toks := s.toks + 1 } v a σ kk (.refl ..) (R.tok _) (hr ws _ (R.tok _)))
    · rw [g] at g'; cases g'
theorem Mt.inst {mg mb : Str → Option Value} (G : Gr c mg mb) {k C f : Nat} {as : List (Str × V)} {name : Str} (e : σ[k]? = some (.inst C as)) (g : lookA as name = none)
    (hg : plainGet c.K C name = true) (hf : findIn c.K (.ref C) name = some (some (.ref f))) (ht : isFn c.K (.ref f) = true) : Mt c (.ref k) σ name (.ref f) := by
  intro A ws s val pl Q R r q
  cases r with
  | ref _ p e' =>
    obtain ⟨des, n, hx, hd, rs⟩ := R.at e e'
    rcases rs.get name with ⟨_, hy⟩ | ⟨v', y, g', _⟩
    · exact method_fn (od := some (dictOf des n)) (G.X.keeps R.base) ⟨hx, rfl, rfl, hd⟩ (plainGet_of hg).1 (plainGet_of hg).2 hf (beq_iff_eq.mp ht) (by show (lookIn name (dictOf des n)).map _ = _; rw [lookIn_dict, hy]; rfl) (q s.toks)
    · rw [g] at g'; cases g'
/-- a field is stored -/
theorem N.set {mg mb : Str → Option Value} (G : Gr c mg mb) {k C : Nat} {as : List (Str × V)} {name : Str} {v : V} {KO : List O → Prop} (e : σ[k]? = some (.inst C as)) (hl : as.length ≤ 900)
    (hs : findIn c.K (.ref C) "__setattr__" = some (some (.builtin "object.__setattr__"))) (hp : plainOver c.K C = true) (ht : takerIn c.K C name = some none) (hh : hasDictIn c.K C = true) (kk : KO (σ.set k (.inst C (setA as name v)))) :
    Op3 c A (fun x _ v => setAttr x name v) (.ref k) .none v σ KO := by
  intro ws s va vb vd Q R ra rb rd q
  cases ra with
  | ref _ p e' =>
    obtain ⟨des, n, hx, hd, rs⟩ := R.at e e'
    have some' : (getL name des).isSome = true := by
      rcases rs.get name with ⟨_, hy⟩ | ⟨v', y, _, hy, _⟩ <;> rw [hy] <;> rfl
    have hne : p.1 ≠ p.2 := fun q => by rw [q, hd] at hx; cases hx
    refine set_attr (G.X.keeps R.base) hx hd hs hp ht hh some' (Nat.le_trans (putL_length _ _ _ _ _) (by rw [← rs.length]; omega)) fun h' hd' sb => ?_
    obtain ⟨R', E'⟩ := R.cellTurn (o' := .inst C (setA as name v)) e' (fun a o ea _ n2 => (sb.2 a n2).trans ea) (fun a o ea => by
        by_cases qa : a = p.2
        · subst qa; exact ⟨_, hd'⟩
        · exact ⟨o, (sb.2 a qa).trans ea⟩)
      (fun S => ⟨_, _, (sb.2 _ hne).trans hx, hd', (rs.mono S).put name (s.toks + 1) (rd.mono S)⟩) (s.toks + 2)
    exact q ws _ _ kk E' R'
end
end Mine
end
section
set_option maxRecDepth 100000
set_option Elab.async false
set_option linter.unusedVariables false
set_option linter.unusedSectionVars false
namespace Mine
open PySem PySem.W PySem.Calls PyProof.Rows
theorem under_call {A : Around} {C : Nat} {vals : List Value} {n : Nat} (a : AOk A (n + 1)) : AOk (A.under (.builtin "type.__call__" ⟨.ref C :: vals, []⟩)) n := by
  have e1 : (A.under (.builtin "type.__call__" ⟨.ref C :: vals, []⟩)).depth = A.depth + 1 := rfl
  have e2 : (A.under (.builtin "type.__call__" ⟨.ref C :: vals, []⟩)).units = A.units + 1 := by
    first | rfl | simp [Around.under, Code.cUnits, Code.frames, Code.isFrame]
  refine ⟨a.handled, ?_, ?_⟩
  · have := a.depth
    rw [e1]; omega
  · have := a.units
    rw [e2]; omega
section
variable {c : Cx} {A : Around} {σ : List O} {K : V → List O → Prop}
/-- an instance is made -/
theorem N.make {mg mb : Str → Option Value} (G : Gr c mg mb) {C fI : Nat} {args : List V} (hm : makesIn c.K C = true) (hi : findIn c.K (.ref C) "__init__" = some (some (.ref fI))) (hf : isFn c.K (.ref fI) = true)
    (h : ∀ vals, Cc c (A.under (.builtin "type.__call__" ⟨.ref C :: vals, []⟩)) (.ref fI) (.ref σ.length :: args) (σ ++ [.inst C []]) fun v σ' => v = .none ∧ K (.ref σ.length) σ') : Cl c A (.ref C) args σ K := by
  intro ws s vals Q R r q
  refine wpAny_call ?_
  obtain ⟨hh, g, d, t, os⟩ := s
  refine make_core (makes_of (G.X.keeps R.base) hm) (looks_findIn (G.X.keeps R.base) hi) (fun self => bind_fn (G.X.keeps R.base) self (beq_iff_eq.mp hf)) (.inl rfl) ?_
  have k1 : ∀ (b : Nat) o, hh.get? b = some o → (hh.push emptyDict).get? b = some o := fun b o e => Heap.get?_push_of_some _ e
  have k2 : ∀ (b : Nat) o, hh.get? b = some o → ((hh.push emptyDict).push (instObj C hh.objs.size)).get? b = some o := fun b o e => Heap.get?_push_of_some _ (k1 b o e)
  have e1 : (hh.push emptyDict).objs.size = hh.objs.size + 1 := Heap.size_push _ _
  have gx : ((hh.push emptyDict).push (instObj C hh.objs.size)).get? (hh.objs.size + 1) = some (instObj C hh.objs.size) := by rw [← e1]; exact Heap.get?_push_size _ rfl
  have gd : ((hh.push emptyDict).push (instObj C hh.objs.size)).get? hh.objs.size = some emptyDict := Heap.get?_push_of_some _ (Heap.get?_push_size _ rfl)
  have n1 : hh.get? (hh.objs.size + 1) = none := by
    cases w : hh.get? (hh.objs.size + 1) with
    | none => rfl
    | some o => exact absurd (Heap.lt_size w) (Nat.not_lt.mpr (Nat.le_succ _))
  have n2 : hh.get? hh.objs.size = none := get_size hh
  have sm := R.size_ne G
  have ml := modules_low (G.nolimit.keeps R.base)
  obtain ⟨R', E'⟩ := R.newCell (p := (hh.objs.size + 1, hh.objs.size)) (o := .inst C []) (h' := (hh.push emptyDict).push (instObj C hh.objs.size)) k2 n1 n2 ⟨_, gx⟩ ⟨_, gd⟩ (Nat.ne_of_gt (Nat.lt_succ_of_lt ml))
    (fun E => ⟨[], 0, gx, gd, .nil⟩) t
  have rs := r.mono E'.st
  have e0 : (ws.grow (hh.objs.size + 1, hh.objs.size)).cs[σ.length]? = some (hh.objs.size + 1, hh.objs.size) := by rw [R.len]; simp [Ws.grow]
  refine h vals _ _ _ _ R' (.cons _ _ _ _ (.ref σ.length _ e0) rs) fun ws' s' v val σ' k E'' R'' rv => ?_
  obtain ⟨rfl, k⟩ := k
  cases rv
  exact ⟨rfl, q ws' s' (.ref σ.length) _ σ' k (E'.trans E'') R'' (.ref σ.length _ (E''.st.cs _ _ e0))⟩
end
end Mine
end
section
set_option maxRecDepth 100000
set_option Elab.async false
set_option linter.unusedVariables false
set_option linter.unusedSectionVars false
namespace Mine
open PySem PySem.W PySem.Calls PyProof.Rows
section
variable {c : Cx} {fm : Fm} {A : Around} {ρ : Ρ} {σ : List O} {K : V → List O → Prop}

theorem B.typeStr {x : Str} (k : K (.con (.type "str")) σ) : Cl c A (.type "type") [.str x] σ K := .here1 k fun ws s va Q R r q => by
  cases r; exact call_type_of (typeIs_str s x _) (by decide) (q _ s.heap s.toks (fun _ _ e => e) fun _ => .con _)
theorem X.isNotType {T : String} (k : K (.bool false) σ) : Op2 c A (compareOp .IsNot) (.con (.type T)) (.con (.type T)) σ K := .here k fun P ws s va vb Q r r' q => by
  cases r; cases r'; exact isnot_type_same (q _ s.toks (.bool _))
theorem T.list {v : V} {l : List V} {KB : Bool → List O → Prop} (q : Lq σ v l) (hl : l.length ≤ 1000000) (k : KB (!l.isEmpty) σ) : Ot1 c A v σ KB := by
  intro ws s va Q R r qq
  obtain ⟨a, vs, rfl, h, rs⟩ := q.in R r
  have e : (!l.isEmpty) = (!vs.isEmpty) := by
    have := rs.length
    cases l <;> cases vs <;> simp_all
  refine wpAny_truthy_list h (by rw [List.size_toArray, ← rs.length]; omega) ?_
  have e2 : (!vs.toArray.isEmpty) = !l.isEmpty := by rw [e]; simp
  rw [e2]
  exact qq _ _ k rfl (R.tok _)
theorem Cl.of_Cc {f : Value} {args : List V} (h : Cc c A f args σ K) : Cl c A f args σ K := by
  intro ws s vals Q R r q
  exact wpAny_call (h ws s vals _ R r fun ws' s' v val σ' k E R' rv => q ws' s' v val σ' k E R' rv)
/-- getattr(self, name): a method bound -/
theorem B.getattr {mg mb : Str → Option Value} (G : Gr c mg mb) {k C f : Nat} {as : List (Str × V)} {name : Str} (e : σ[k]? = some (.inst C as)) (g : lookA as name = none)
    (hg : plainGet c.K C name = true) (hh : hasDictIn c.K C = true) (ha : findIn c.K (.ref C) name = some (some (.ref f))) (hf : isFn c.K (.ref f) = true)
    (hgf : specialIn c.K (.ref f) "__get__" = some (some (.builtin "function.__get__"))) (ht : takesIn c.K (.ref f) = some false) (hc : copiedNames.contains name = false) (kk : K (.bm f k) σ) :
    Cl c A (.builtin "getattr") [.ref k, .str name] σ K := by
  intro ws s vals Q R r q
  cases r with
  | cons _ x _ xs r rs =>
    cases rs with
    | cons _ y _ ys ry rs =>
      cases rs
      cases ry with
      | str _ t =>
        cases r with
        | ref _ p e' =>
          obtain ⟨des, n, hx, hd, rs⟩ := R.at e e'
          rcases rs.get name with ⟨_, hy⟩ | ⟨v', y, g', _⟩
          · refine kbm_getattr2 (kbm_bind (od := dictOf des n) (G.X.keeps R.base) ⟨hx, rfl, rfl, hd⟩ (plainGet_of hg).1 (findObj_fn hh ha hgf ht hc (by show lookIn name (dictOf des n) = _; rw [lookIn_dict, hy])) (plainGet_of hg).2
              (wpAny_call (fn_get (G.X.keeps R.base) (beq_iff_eq.mp hf) (handed_on rfl ?_))))
            have P := Ext.push [] ws s.heap (methodObj (.ref f) (.ref p.1))
            exact q ws _ (.bm f k) _ σ kk P (R.push _ s.toks) (.bm f k p _ e' (R.fz (get_size _)) (Heap.get?_push_size _ rfl))
          · rw [g] at g'; cases g'
/-- a call of what an expression gives: a bound method, no arguments -/
theorem Ev.callBm {mg mb : Str → Option Value} (G : Gr c mg mb) {func : Expr} {pos : Pos} (h : Ev c fm A (eval func fm.env) ρ σ fun w σ₁ => ∃ f k, w = .bm f k ∧ fnIn c.K f = true ∧ Cc c A (.ref f) [.ref k] σ₁ K)
    (he : eval (.Call func [] [] pos) fm.env = (do callWith pos (← eval func fm.env) [] (backTo pos (starEach [] fm.env)) (backToKw pos (keywordEach [] fm.env))) := by rfl) : Ev c fm A (eval (.Call func [] [] pos) fm.env) ρ σ K := by
  intro ws s Q R L q
  refine Call_ (h ws s _ R L fun ws₁ s₁ w val σ₁ k₁ E₁ R₁ L₁ r₁ => ?_) he
  obtain ⟨f, k, rfl, hf, cc⟩ := k₁
  cases r₁ with
  | bm _ _ p b e fz ho =>
    refine callWith_M0 ⟨ho, G.X.keeps R₁.base⟩ hf (wpAny_call (method_call ho ?_))
    exact cc ws₁ s₁ [.ref p.1] _ R₁ (.cons _ _ _ _ (.ref k p e) .nil) fun ws' s' v val σ' kk E R' rv => q ws' s' v val σ' kk (E₁.trans E) R' (L₁.ext R₁ E) rv
end
end Mine
end
section
set_option maxRecDepth 100000
set_option Elab.async false
set_option linter.unusedVariables false
set_option linter.unusedSectionVars false
namespace Mine
open PySem PySem.W PySem.Calls PyProof.Rows
section
variable {prog : Program} {w : World} {A : Around} {E : Value → Shared → Prop} {s : Shared} {b : Array UInt8} {t : Tok}
theorem hint_bytes {Q : Bool → Shared → Prop} (h : Q false s) : wpAny (model prog w) A (Builtin.List.listLengthHint (.bytes b t)) Q E s := by
  unfold Builtin.List.listLengthHint
  refine wpAny_bind (wpAny_specialOf (typeIs_bytes s b t) FB.slot_bytes_len.lookup ?_)
  generalize hid : ("bytes.__len__" : String) = id0
  wp_delta
  rw [show splitId id0 = some ("bytes", "__len__") from by subst hid; decide +kernel]
  subst hid
  refine wpAny_bind (wpAny_isInstance (T := "bytes") (b := true) (typeIs_bytes s b t) (by rw [isSubtype_type]; kernel_rfl) ?_)
  refine wpAny_ite_split (fun hab => absurd hab (by decide)) (fun _ => ?_)
  refine wpAny_ite_split (fun _ => ?_) (fun hab => absurd (by decide +kernel) hab)
  refine wpAny_bind (wpAny_typeOf (typeIs_bytes s b t) ?_)
  exact wpAny_pure h
theorem extend_bytes {R : Result → Shared → Prop} (hh : A.handled = none) (hlen : b.size ≤ 1000000) (S : Nat) (res : Value) (c₀ : Nat) (hS : s.heap.get? S = some { cls := .type "list", data := .seq #[] c₀ })
    (hR : ∀ h' tk acc' c', (∀ (a : Nat) o, a ≠ S → s.heap.get? a = some o → h'.get? a = some o) → h'.get? S = some { cls := .type "list", dict := none, data := .seq acc' c', slots := #[] } →
      ItemsOf (fun i v => ∃ c u, b[i]? = some c ∧ v = .int (c.toNat : Int) u) acc' b.size → R (.ok (.ret res)) { s with heap := h', toks := tk }) :
    wpAny (model prog w) A.in1 (Builtin.List.listExtendWith (.ref S) (.bytes b t) res)
      (fun fin s' => match fin with | .done f => R (.ok f) s' | .again c' => c'.quiet = true ∧ codeAny (model prog w) A c' R s') (fun e s' => R (.error e) s') s := by
  have hSlt : S < s.heap.objs.size := Heap.lt_size hS
  have hSI : S ≠ s.heap.objs.size := Nat.ne_of_lt hSlt
  have hSf : S ∉ [s.heap.objs.size] := fun hm => hSI (List.mem_singleton.mp hm)
  have W := (KBw.walks (prog := prog) (w := w) (A := A.in1) hh s.heap.objs.size b t).toS
  unfold Builtin.List.listExtendWith
  refine wpAny_bind (wpAny_typeOf (typeIs_bytes s b t) ?_)
  refine wpAny_ite ?_
  rw [if_neg (by rw [show Builtin.List.listSameRef (.ref S) (.bytes b t) = false from rfl]; decide)]
  refine wpAny_bind (KBw.pyIter_bytes ?_)
  refine wpAny_bind (wpAny_holding (hint_bytes ?_))
  have hS₁ := Heap.get?_push_of_some { cls := .type "bytes_iterator", data := .fields #[.bytes b t, .int 0 0] } hS
  have hit : KBw.IsBytesIter (s.heap.push { cls := .type "bytes_iterator", data := .fields #[.bytes b t, .int 0 0] }) s.heap.objs.size b t 0 := ⟨_, Heap.get?_push_size _ rfl, rfl, rfl⟩
  refine wpAny_ite ?_
  rw [if_neg (by decide)]
  refine wpAny_pure ⟨plainId_quiet PySem.F.plain_extend_loop _, ?_⟩
  refine codeAny_extend_loopS W (by rw [sizeLine_eq]; omega) S hSf res b.size 0 _ #[] c₀ rfl (Nat.zero_le _) hit hS₁ (ItemsOf.nil _) fun s' acc' c' hm hS' hacc => ?_
  rw [Moved.eq_with hm]
  refine hR s'.heap s'.toks acc' c' (fun a o ha e => hm.heap a o (fun hmem => ?_) (Heap.get?_push_of_some _ e)) hS' hacc
  rcases List.mem_cons.mp hmem with e' | hmem
  · exact ha e'
  · exact absurd (Heap.lt_size e) (by rw [List.mem_singleton.mp hmem]; exact Nat.lt_irrefl _)
theorem init_bytes {R : Result → Shared → Prop} (hh : A.handled = none) (hlen : b.size ≤ 1000000) (S : Nat) (hS : s.heap.get? S = some { cls := .type "list", data := .seq #[] })
    (hR : ∀ h' tk acc' c', (∀ (a : Nat) o, a ≠ S → s.heap.get? a = some o → h'.get? a = some o) → h'.get? S = some { cls := .type "list", dict := none, data := .seq acc' c', slots := #[] } →
      ItemsOf (fun i v => ∃ c u, b[i]? = some c ∧ v = .int (c.toNat : Int) u) acc' b.size → R (.ok (.ret .none)) { s with heap := h', toks := tk }) :
    wpAny (model prog w) A.in1 (Builtin.«list.__init__» ⟨[.ref S, .bytes b t], []⟩)
      (fun fin s' => match fin with | .done f => R (.ok f) s' | .again c' => c'.quiet = true ∧ codeAny (model prog w) A c' R s') (fun e s' => R (.error e) s') s := by
  show wpAny _ _ (do let old ← Builtin.List.listItems (.ref S); Builtin.List.listUpdate (.ref S) (fun _ => #[]); letGo old.toList.reverse; Builtin.List.listExtendWith (.ref S) (.bytes b t) .none) _ _ s
  refine wpAny_bind ?_
  unfold Builtin.List.listItems
  refine wpAny_bind (wpAny_seqItems hS rfl (wpAny_pure ?_))
  show wpAny _ _ (updateSeq S (fun _ => #[]) >>= fun _ => letGo (#[] : Array Value).toList.reverse >>= fun _ => Builtin.List.listExtendWith (.ref S) (.bytes b t) .none) _ _ s
  refine wpAny_bind (wpAny_updateSeq hS rfl ?_)
  have hS₂ := Heap.get?_update_self (Obj.mapSeq (fun _ => (#[] : Array Value))) hS rfl
  have oth : ∀ (a : Nat) o, a ≠ S → s.heap.get? a = some o → (s.heap.update S (Obj.mapSeq (fun _ => (#[] : Array Value)))).get? a = some o :=
    fun a o ha e => (Heap.get?_update_other _ _ (Ne.symm ha)).trans e
  refine wpAny_bind (wpAny_letGo ?_)
  refine extend_bytes hh hlen S .none _ hS₂ fun h' tk acc' c' hk hS' hacc => ?_
  exact hR h' tk acc' c' (fun a o ha e => hk a o ha (oth a o ha e)) hS' hacc
theorem list_bytes {Q : Value → Shared → Prop} (hh : A.handled = none) (hlen : b.size ≤ 1000000)
    (hQ : ∀ h' tk acc' c', (∀ (a : Nat) o, s.heap.get? a = some o → h'.get? a = some o) →
      h'.get? s.heap.objs.size = some { cls := .type "list", dict := none, data := .seq acc' c', slots := #[] } → ItemsOf (fun i v => ∃ c u, b[i]? = some c ∧ v = .int (c.toNat : Int) u) acc' b.size → Q (.ref s.heap.objs.size) { s with heap := h', toks := tk }) :
    wpAny (model prog w) A (call (.type "list") [.bytes b t]) Q E s := by
  refine callType_codes (Q₁ := fun obj s₁ => obj = .ref s.heap.objs.size ∧ s₁ = { s with heap := s.heap.push { cls := .type "list", data := .seq #[] } }) PySem.F.called_list (PySem.F.typeCall_list_1 _) PySem.F.entry_list_init
    (code_list_new _ ⟨rfl, rfl⟩) fun obj s₁ h₁ => ?_
  obtain ⟨rfl, rfl⟩ := h₁
  have hS : (s.heap.push { cls := .type "list", data := .seq #[] }).get? s.heap.objs.size = some { cls := .type "list", data := .seq #[] } := Heap.get?_push_size _ rfl
  refine ⟨⟨_, hS, rfl⟩, PySem.F.args_list_init_2 _ _, init_bytes (A := A.in1) hh hlen _ hS fun h' tk acc' c' hk hS' hacc => ?_⟩
  exact ⟨rfl, hQ h' tk acc' c' (fun a o e => hk a o (Nat.ne_of_lt (Heap.lt_size e)) (Heap.get?_push_of_some _ e)) hS' hacc⟩
end
def bL (b : Array UInt8) : List V := b.toList.map fun c => V.int (c.toNat : Int)
section
variable {c : Cx} {A : Around} {σ : List O} {K : V → List O → Prop}
theorem B.listBytes {n : Nat} (ao : AOk A n) {b : Array UInt8} (hlen : b.size ≤ 1000000) (k : K (.arr (bL b)) σ) : Cl c A (.type "list") [.bytes b] σ K := .here1 k fun ws s va Q R r q => by
  cases r with
  | bytes _ t =>
    refine list_bytes ao.handled hlen fun h' tk acc' c' hk hD ho => q _ h' tk hk fun S => ?_
    refine .arr _ _ acc'.toList (R.fz (get_size _)) ⟨_, hD, rfl, c', by simp⟩ ?_
    have h1 : acc'.size = b.size := ho.1
    have h2 := ho.2
    have main : ∀ (xs : List UInt8) (vs : List Value), xs.length = vs.length → (∀ (i : Nat) (x : UInt8) (v : Value), xs[i]? = some x → vs[i]? = some v → ∃ u, v = Value.int (x.toNat : Int) u) → RVs c.P ws h' (xs.map fun c => V.int (c.toNat : Int)) vs := by
      intro xs
      induction xs with
      | nil => intro vs e _; cases vs with
        | nil => exact .nil
        | cons => cases e
      | cons x xs ih => intro vs e hx; cases vs with
        | nil => cases e
        | cons v vs =>
          obtain ⟨u, rfl⟩ := hx 0 x v rfl rfl
          exact .cons _ _ _ _ (.int _ u) (ih vs (by simpa using e) fun i y w e1 e2 => hx (i + 1) y w (by simpa using e1) (by simpa using e2))
    refine main b.toList acc'.toList (by simp [h1]) fun i x v e1 e2 => ?_
    obtain ⟨c, u, hc, rfl⟩ := h2 i v (by simpa using e2)
    have : b[i]? = some x := by simpa using e1
    rw [this] at hc; cases hc
    exact ⟨u, rfl⟩
end
end Mine
end
section
set_option maxRecDepth 100000
set_option Elab.async false
set_option linter.unusedVariables false
set_option linter.unusedSectionVars false
namespace Mine
open PySem PySem.W PySem.Calls PyProof.Rows
section
variable {P : Params} {ws : Ws} {h : Heap}
theorem at_lt {k : Nat} {p : Nat × Nat} (e : ws.cs[k]? = some p) : k < ws.cs.length := (List.getElem?_eq_some_iff.mp e).1
mutual
theorem RV.und : ∀ {v : V} {x : Value}, RV P ws h v x → v.und ws.cs.length = true
  | _, _, .none => rfl
  | _, _, .bool b => rfl
  | _, _, .int i t => rfl
  | _, _, .str x t => rfl
  | _, _, .bytes b t => rfl
  | _, _, .con v => rfl
  | _, _, .ref k p e => by simpa [V.und] using at_lt e
  | _, _, .tup l a vs n f e r => by simpa [V.und] using RVs.und r
  | _, _, .lst l a vs n f e r => by simpa [V.und] using RVs.und r
  | _, _, .arr l a vs f e r => by simpa [V.und] using RVs.und r
  | _, _, .obj C as a d des n f g e i r => by simpa [V.und] using RAs.und r
  | _, _, .rng a b r t u v f e => rfl
  | _, _, .sli l u s a f e => rfl
  | _, _, .bm f k p q e g i => by simpa [V.und] using at_lt e
theorem RVs.und : ∀ {l : List V} {xs : List Value}, RVs P ws h l xs → unds ws.cs.length l = true
  | _, _, .nil => rfl
  | _, _, .cons v x l xs a r => by simp [unds, RV.und a, RVs.und r]
theorem RAs.und : ∀ {l : List (Str × V)} {es : List DictEntry}, RAs P ws h l es → undAs ws.cs.length l = true
  | _, _, .nil => rfl
  | _, _, .cons x t v y l es a r => by simp [undAs, RV.und a, RAs.und r]
end
theorem RKs.und {κ : Type} : ∀ {es : List (κ × V)} {kvs : List (κ × Value)}, RKs P ws h es kvs → undEs ws.cs.length es = true
  | [], [], _ => rfl
  | (k, v) :: es, (k', x) :: kvs, ⟨e, r, rs⟩ => by
    have := RKs.und rs
    simp only [undEs, List.all_cons] at this ⊢
    rw [r.und, this]; rfl
end
section
variable {c : Cx} {ws : Ws} {σ : List O} {s : Shared}
theorem RO.und {p : Nat × Nat} : ∀ {o : O}, RO c ws s.heap p o → o.und ws.cs.length = true
  | .list l, ⟨vs, n, a, b, r⟩ => r.und
  | .arr l, ⟨vs, a, b, r⟩ => r.und
  | .sdict es, ⟨kvs, a, b, r⟩ => r.und
  | .idict es, ⟨kvs, a, b, r⟩ => r.und
  | .kdict es ep, ⟨kvs, a, b, r⟩ => r.und
  | .inst C as, ⟨des, n, a, b, r⟩ => r.und
theorem Rel.closed (R : Rel c ws σ s) : Mine.closed σ = true := by
  refine List.all_eq_true.mpr fun o ho => ?_
  obtain ⟨k, hk, e⟩ := List.mem_iff_getElem.mp ho
  have hk' : k < ws.cs.length := by rw [← R.len]; exact hk
  rw [R.len]
  exact (R.objs k o ws.cs[k] (by rw [List.getElem?_eq_getElem hk, e]) (List.getElem?_eq_getElem hk')).und
end
section
variable {c : Cx} {fm : Fm} {A : Around} {ρ : Ρ} {σ : List O}
/-- a frame whose values know of no later cells -/
theorem Loc.shr {n : Nat} {ws ws' : Ws} {h : Heap} (L : Loc c fm ws ρ h) (S : Shr n ws h ws' h) (hot : ws'.hot = ws.hot) (u : ∀ x v, ρ.lookup x = some v → v.und n = true) : Loc c fm ws' ρ h := by
  obtain ⟨m, hn, hm⟩ := L.ns
  refine ⟨L.kind, L.glob, L.blt, L.mem, fun a m => hot ▸ L.sub a m, ⟨m, hn, fun x v e k => let ⟨val, e', r⟩ := hm x v e k; ⟨val, e', r.shr S (u x v e)⟩⟩, fun x v e => ?_, fun x ca e => let ⟨a, b⟩ := L.cells x ca e; ⟨hot ▸ a, b⟩, L.cne⟩
  rcases L.cel x v e with k | ⟨k, ca, val, e1, e2, r⟩
  · exact .inl k
  · exact .inr ⟨k, ca, val, e1, e2, r.shr S (u x v e)⟩
theorem Loc.und {ws : Ws} {h : Heap} (L : Loc c fm ws ρ h) : ∀ x v, ρ.lookup x = some v → v.und ws.cs.length = true := by
  intro x v e
  obtain ⟨m, hn, hm⟩ := L.ns
  rcases L.cel x v e with k | ⟨k, ca, val, e1, e2, r⟩
  · obtain ⟨val, _, r⟩ := hm x v e k; exact r.und
  · exact r.und
/-- the last cell is forgotten -/
theorem Ev.drop {K : V → List O → Prop} {t : Sem Value} (h : Mine.closed σ = true → Ev c fm A t ρ σ fun v σ' => ∃ σ₁ o, σ' = σ₁ ++ [o] ∧ σ₁.length = σ.length ∧ Mine.closed σ₁ = true ∧ v.und σ.length = true ∧ K v σ₁) : Ev c fm A t ρ σ K := by
  intro ws s Q R L q
  refine h R.closed ws s Q R L fun ws' s' v val σ' k E R' L' r => ?_
  obtain ⟨σ₁, o, rfl, hl, hc, hv, k⟩ := k
  obtain ⟨more, e, m⟩ := E.cs
  have lm : more.length = 1 := by
    have h1 := R'.len
    have h2 := R.len
    rw [e] at h1
    simp at h1
    omega
  obtain ⟨p, rfl⟩ := List.length_eq_one_iff.mp lm
  have ew : ws' = ws.grow p := by
    have e1 := E.hot
    cases ws' with
    | mk a b =>
      have e1' : a = ws.hot := e1
      have e2' : b = ws.cs ++ [p] := e
      rw [e1', e2']; rfl
  subst ew
  obtain ⟨R'', f1, f2⟩ := R'.drop hc
  have S := drop_shr ws p s'.heap
  have hn : σ.length = ws.cs.length := R.len
  exact q ws s' v val σ₁ k ⟨rfl, ⟨[], by simp, by simp⟩, E.keep, E.there⟩ R'' (L'.shr S rfl (L.und)) (r.shr S (hn ▸ hv))
end
end Mine
end
section
set_option maxRecDepth 100000
set_option Elab.async false
set_option linter.unusedVariables false
set_option linter.unusedSectionVars false
namespace Mine
open PySem PySem.W PySem.Calls PyProof.Rows
section
variable {c : Cx} {σ : List O}
/-- what lay in the heap at the start -/
theorem Rel.fzK {ws : Ws} {s : Shared} (R : Rel c ws σ s) {a : Nat} {o : Obj} (e : c.h₀.get? a = some o) : Fz ws a :=
  ⟨fun m => (by have := R.fresh a (.inl m); rw [e] at this; cases this), fun m => (by have := R.fresh a (.inr m); rw [e] at this; cases this)⟩
theorem tupK {mg mb : Str → Option Value} (G : Gr c mg mb) {ws : Ws} {s : Shared} (R : Rel c ws σ s) {a : Nat} {vs : List Value} {n : Nat} {l : List V} (e : c.K.lookup a = some (tupObj vs n)) (r : RVs c.P ws s.heap l vs) : RV c.P ws s.heap (.tup l) (.ref a) :=
  .tup l a vs n (R.fzK (G.X _ _ e)) (R.base _ _ (G.X _ _ e)) r
end
end Mine
end
section
open PySem PySem.StrLaws PySem.Builtin PySem.Builtin.Str
namespace Mine

theorem slice_upto (x : Str) (k : Nat) : (Txt.slice x none (some (k : Int))).cps.toList = x.cps.toList.take k := by
  have hl : x.length = x.cps.toList.length := by simp [Str.length]
  by_cases h : k ≤ x.cps.toList.length
  · have := sliceText_to (x := x) (j := (k : Int)) ⟨by omega, by omega⟩
    show (sliceText x none (some (k : Int))).cps.toList = _
    rw [this]
    simp
  · have e : sliceText x none (some (k : Int)) = sliceText x none (some (x.cps.toList.length : Int)) := by
      unfold sliceText
      have : strSliceIndices none (some (k : Int)) 1 x.length = strSliceIndices none (some (x.cps.toList.length : Int)) 1 x.length := by
        have a : ¬ ((k : Int) < 0) := by omega
        have b : ¬ ((x.cps.toList.length : Int) < 0) := by omega
        have d : min (k : Int) (x.length : Int) = min (x.cps.toList.length : Int) (x.length : Int) := by omega
        simp only [strSliceIndices, a, b, if_false]
        rw [d]
        rfl
      rw [this]
    show (sliceText x none (some (k : Int))).cps.toList = _
    rw [e, sliceText_to (x := x) (j := (x.cps.toList.length : Int)) ⟨by omega, by omega⟩]
    show List.take _ (List.drop 0 _) = _
    rw [List.drop_zero, List.take_of_length_le (by omega), List.take_of_length_le (by omega)]
theorem slice_from (x : Str) (k : Nat) (h : k ≤ x.length) : (Txt.slice x (some (k : Int)) none).cps.toList = x.cps.toList.drop k := by
  have hl : x.length = x.cps.toList.length := by simp [Str.length]
  show (sliceText x (some (k : Int)) none).cps.toList = _
  rw [sliceText_from (x := x) (i := (k : Int)) ⟨by omega, by omega⟩]
  simp
  rw [List.take_of_length_le (by simp)]
theorem slice_mid (x : Str) (k : Nat) (h : k + 1 ≤ x.length) : (Txt.slice x (some (k : Int)) (some (-1))).cps.toList = (x.cps.toList.drop k).take (x.length - 1 - k) := by
  have hl : x.length = x.cps.toList.length := by simp [Str.length]
  show (sliceText x (some (k : Int)) (some (-1))).cps.toList = _
  rw [sliceText_neg_hi x _ (by omega) (by omega), sliceText_plain (x := x) ⟨by omega, by omega, by omega⟩]
  have e : (-1 + (x.length : Int) - (k : Int)).toNat = x.length - 1 - k := by omega
  rw [e]
  simp
theorem slice_last (x : Str) (h : 1 ≤ x.length) : (Txt.slice x (some (-1)) none).cps.toList = x.cps.toList.drop (x.length - 1) := by
  have hl : x.length = x.cps.toList.length := by simp [Str.length]
  show (sliceText x (some (-1)) none).cps.toList = _
  rw [sliceText_from_neg (by omega) (by omega)]
  have e : (-1 + (x.length : Int)).toNat = x.length - 1 := by omega
  rw [e]
  exact List.take_of_length_le (by rw [List.length_drop]; omega)
theorem str_ext {x y : Str} (h : x.cps.toList = y.cps.toList) : x = y := Str.ext' (Array.toList_inj.mp h)
theorem toList_add (x y : Str) : (x ++ y).cps.toList = x.cps.toList ++ y.cps.toList := by simp [Str.cps_append]
theorem len_list (x : Str) : x.length = x.cps.toList.length := by simp [Str.length]

def sepS : Str := Str.ofString ", "
theorem sep_list : sepS.cps.toList = [44, 32] := by decide +kernel
theorem sep_len : sepS.length = 2 := by decide +kernel

def jn : List Str → List Nat
  | [] => []
  | [p] => p.cps.toList
  | p :: r => p.cps.toList ++ [44, 32] ++ jn r
theorem jn_join : ∀ ps : List Str, (Txt.join sepS ps).cps.toList = jn ps := by
  intro ps
  show (glued sepS ps).cps.toList = _
  rw [StrLaws.glued_eq_join]
  induction ps with
  | nil => rfl
  | cons p r ih =>
    cases r with
    | nil => rfl
    | cons q r =>
      show (p ++ sepS ++ Str.join sepS (q :: r)).cps.toList = _
      rw [toList_add, toList_add, ih, sep_list]
      rfl

theorem at_iff (x : Str) (k : Nat) : At x sepS x.length k ↔ (x.cps.toList.drop k).take 2 = [44, 32] := by
  unfold At
  rw [subAt_eq, sep_len, sep_list]
  constructor
  · rintro ⟨a, b⟩
    exact eq_of_beq b
  · intro h
    refine ⟨?_, by rw [h]; rfl⟩
    have := congrArg List.length h
    simp at this
    have := len_list x
    have : x.cps.size = x.length := rfl
    omega

theorem parts_of (x : Str) (hx : ∀ n : Nat, x.cps.toList.length = n → True) : ∀ (ps : List Str) (a : Nat) (cuts : List Nat) (f : Nat), ps ≠ [] → (∀ p ∈ ps, 44 ∉ p.cps.toList) → x.cps.toList.drop a = jn ps → a ≤ x.length →
    ChainG x sepS x.length a cuts f → (∀ k, f ≤ k → ¬ At x sepS x.length k) → partsFrom x 2 a cuts = ps := by
  intro ps
  induction ps with
  | nil => intro a cuts f h; exact absurd rfl h
  | cons p r ih =>
    intro a cuts f _ hf hd ha hG hn
    have hl := len_list x
    -- a comma is never inside p
    have inP : ∀ c, a ≤ c → c < a + p.cps.toList.length → (∃ t, x.cps.toList.drop a = p.cps.toList ++ t) → ¬ At x sepS x.length c := by
      rintro c h1 h2 ⟨t, e⟩ hA
      rw [at_iff] at hA
      have e1 : x.cps.toList.drop c = (x.cps.toList.drop a).drop (c - a) := by rw [List.drop_drop]; congr 1; omega
      rw [e1, e, List.drop_append_of_le_length (by omega)] at hA
      have : (p.cps.toList.drop (c - a)) ≠ [] := by simp; have : p.cps.size = p.cps.toList.length := by simp
                                                    omega
      cases hh : p.cps.toList.drop (c - a) with
      | nil => exact this hh
      | cons y ys =>
        rw [hh] at hA
        simp at hA
        have : y ∈ p.cps.toList := List.mem_of_mem_drop (by rw [hh]; exact .head _)
        rw [hA.1] at this
        exact hf p (.head _) this
    cases r with
    | nil =>
      have hd' : x.cps.toList.drop a = p.cps.toList := hd
      have hlen : x.cps.toList.length - a = p.cps.toList.length := by rw [← List.length_drop, hd']
      have none : ∀ c, a ≤ c → ¬ At x sepS x.length c := by
        intro c h1 hA
        by_cases h2 : c < a + p.cps.toList.length
        · exact inP c h1 h2 ⟨[], by rw [hd', List.append_nil]⟩ hA
        · have := hA.1
          rw [sep_len] at this
          omega
      cases cuts with
      | nil =>
        show [strSub x a x.length] = [p]
        congr 1
        apply str_ext
        rw [strSub_toList, hd', List.take_of_length_le (by omega)]
      | cons c r => exact absurd hG.2.1 (none c hG.1)
    | cons q r =>
      have hd' : x.cps.toList.drop a = p.cps.toList ++ [44, 32] ++ jn (q :: r) := hd
      have hlen : x.cps.toList.length - a = p.cps.toList.length + 2 + (jn (q :: r)).length := by rw [← List.length_drop, hd']; simp; omega
      have hA : At x sepS x.length (a + p.cps.toList.length) := by
        rw [at_iff, ← List.drop_drop, hd', List.append_assoc, List.drop_left]
        rfl
      cases cuts with
      | nil =>
        have e : f = a := hG
        exact absurd hA (hn _ (by omega))
      | cons c cs =>
        have hc : c = a + p.cps.toList.length := by
          rcases Nat.lt_trichotomy c (a + p.cps.toList.length) with h | h | h
          · exact absurd hG.2.1 (inP c hG.1 h ⟨_, by rw [hd', List.append_assoc]⟩)
          · exact h
          · exact absurd hA (hG.2.2.1 _ (by omega) h)
        subst hc
        show strSub x a _ :: partsFrom x 2 (a + p.cps.toList.length + 2) cs = p :: q :: r
        congr 1
        · apply str_ext
          rw [strSub_toList, hd', List.append_assoc, List.take_append_of_le_length (by omega), List.take_of_length_le (by omega)]
        · refine ih _ _ f (by simp) (fun z hz => hf z (.tail _ hz)) ?_ (by omega) (by have := hG.2.2.2; rwa [sep_len] at this) hn
          rw [show a + p.cps.toList.length + 2 = a + (p.cps.toList.length + 2) by omega, ← List.drop_drop, hd']
          rw [show p.cps.toList.length + 2 = (p.cps.toList ++ [44, 32]).length by simp, List.drop_left]

theorem split_join {ps : List Str} (h0 : ps ≠ []) (hf : ∀ p ∈ ps, 44 ∉ p.cps.toList) : Txt.split (Txt.join sepS ps) sepS = ps := by
  obtain ⟨f, hG, hn⟩ := occ_tight (Txt.join sepS ps) sepS (by rw [sep_len]; omega)
  have key := fun cuts hc => parts_of (Txt.join sepS ps) (fun _ _ => trivial) ps 0 cuts f h0 hf (by rw [List.drop_zero, jn_join]) (Nat.zero_le _) hc hn
  have k1 : Str.strKind sepS = 1 := by decide +kernel
  have kge : ∀ y, 1 ≤ Str.strKind y := by intro y; unfold Str.strKind; split; omega; split <;> omega
  unfold Txt.split
  split
  · rename_i hc
    rw [Bool.or_eq_true, decide_eq_true_eq, decide_eq_true_eq] at hc
    rcases hc with h | h
    · -- too short for a separator: one part
      cases ps with
      | nil => exact absurd rfl h0
      | cons p r =>
        cases r with
        | nil => congr 1
        | cons q r =>
          have := len_list (Txt.join sepS (p :: q :: r))
          rw [jn_join, sep_len] at *
          simp only [jn, List.length_append, List.length_cons, List.length_nil] at this
          omega
    · have := kge (Txt.join sepS ps)
      omega
  · split
    · rename_i he
      have e0 := List.isEmpty_iff.mp he
      rw [e0] at hG
      have := key [] hG
      refine Eq.trans ?_ this
      show [Txt.join sepS ps] = [strSub _ 0 _]
      rw [sub_whole]
    · rw [partsBetween_eq]
      exact key _ hG
end Mine
end
section
open PySem PySem.W PyProof.Rows Mine PySem.Calls
set_option Elab.async false
set_option maxHeartbeats 4000000
namespace Mine
theorem num_len {number : Int} (h0 : 0 ≤ number) (h1 : number < 10 ^ 10) : (Str.ofString (toString number)).length ≤ 11 := by
  rw [PySem.ofString_length]
  exact int_text_length_le10 (by decide) (by omega)
theorem small_log {a : Int} (h0 : 0 ≤ a) (h1 : a < 1000000000) : a.natAbs.log2 < 1920 := by
  by_cases e : a.natAbs = 0
  · rw [e]; decide
  · refine (Nat.log2_lt e).mpr (Nat.lt_of_lt_of_le (show a.natAbs < 2 ^ 30 by omega) (Nat.pow_le_pow_right (n := 2) (by decide) (show 30 ≤ 1920 by decide)))
def nameOf (kind : Str) (n : Int) : Str :=
  if kind = Str.ofString "r" then (if n = 11 then Str.ofString "fp" else if n = 12 then Str.ofString "ip" else if n = 14 then Str.ofString "lr" else Str.ofString "r" ++ Str.ofString (toString n))
  else kind ++ Str.ofString (toString n)
theorem name_dict (number : Int) : (getE ([((11 : Int), V.str (Str.ofString "fp")), (12, .str (Str.ofString "ip")), (14, .str (Str.ofString "lr"))].foldl (fun acc x => setE acc x.1 x.2) []) number).getD (.str (Str.ofString "r" ++ Str.ofString (toString number))) = .str (nameOf (Str.ofString "r") number) := by
  have e : [((11 : Int), V.str (Str.ofString "fp")), (12, .str (Str.ofString "ip")), (14, .str (Str.ofString "lr"))].foldl (fun acc x => setE acc x.1 x.2) [] = [((11 : Int), V.str (Str.ofString "fp")), (12, .str (Str.ofString "ip")), (14, .str (Str.ofString "lr"))] := rfl
  rw [e]
  unfold nameOf
  rw [if_pos rfl]
  by_cases h1 : (11 : Int) = number
  · subst h1; rfl
  · by_cases h2 : (12 : Int) = number
    · subst h2; rfl
    · by_cases h3 : (14 : Int) = number
      · subst h3; rfl
      · rw [if_neg (Ne.symm h1), if_neg (Ne.symm h2), if_neg (Ne.symm h3)]
        simp [getE, h1, h2, h3]
def gprL : List String := ["r0", "r1", "r2", "r3", "r4", "r5", "r6", "r7", "r8", "r9", "r10", "fp", "ip", "sp", "lr", "pc"]
def bits (m n : Nat) : List Nat := (List.range n).filter fun i => m.testBit i
theorem bits_succ (m n : Nat) : bits m (n + 1) = if m.testBit n then bits m n ++ [n] else bits m n := by
  unfold bits
  rw [List.range_succ, List.filter_append]
  cases h : m.testBit n <;> simp [h]
theorem test_bit (m i : Nat) : ((((m &&& 1 * 2 ^ i : Nat) : Int)) != 0) = m.testBit i := by
  rw [Nat.one_mul]
  cases h : m.testBit i
  · have : m &&& 2 ^ i = 0 := by
      refine Nat.eq_of_testBit_eq fun k => ?_
      rw [Nat.testBit_and, Nat.testBit_two_pow, Nat.zero_testBit]
      by_cases q : i = k
      · subst q; simp [h]
      · simp [q]
    rw [this]; rfl
  · have : m &&& 2 ^ i ≠ 0 := by
      intro e
      have : (m &&& 2 ^ i).testBit i = true := by rw [Nat.testBit_and, h, Nat.testBit_two_pow_self]; rfl
      rw [e, Nat.zero_testBit] at this
      cases this
    have h2 : ((m &&& 2 ^ i : Nat) : Int) ≠ 0 := by omega
    simpa using h2
theorem CompOk.free1 {fm : Fm} {ρ : Ρ} {scope : Scope} {x : String} (z : String) (w : V) (h1 : scope.kind = .function) (h2 : ∀ y ∈ scope.names, y.2 ≠ .cell) (h3 : ∀ y ∈ scope.names, y.2 = .local → scope.names.lookup y.1 = some .local) (h4 : scope.names.lookup (Str.ofString x) = some .local)
    (h5 : ∀ y ∈ scope.names, y.2 = .free → y.1 = Str.ofString z) (h6 : ρ.lookup z = some w) (h7 : scope.names.lookup (Str.ofString z) = some .free) (h8 : fm.env.kindOf (Str.ofString z) ≠ some .local) : CompOk fm ρ [(z, w)] scope x :=
  ⟨h1, h2, h3, h4, fun y hy e => ⟨z, w, h5 y hy e, by simp [List.lookup]⟩, fun z' w' h => by
    by_cases q : z' = z
    · subst q
      simp [List.lookup] at h
      subst h
      exact ⟨h6, h7, h8⟩
    · have : (z' == z) = false := by simpa using q
      simp [List.lookup, this] at h⟩
theorem CompOk.free2 {fm : Fm} {ρ : Ρ} {scope : Scope} {x : String} (z : String) (w : V) (z2 : String) (w2 : V) (h1 : scope.kind = .function) (h2 : ∀ y ∈ scope.names, y.2 ≠ .cell) (h3 : ∀ y ∈ scope.names, y.2 = .local → scope.names.lookup y.1 = some .local) (h4 : scope.names.lookup (Str.ofString x) = some .local)
    (hne : z2 ≠ z) (h5 : ∀ y ∈ scope.names, y.2 = .free → y.1 = Str.ofString z ∨ y.1 = Str.ofString z2) (h6 : ρ.lookup z = some w) (h7 : scope.names.lookup (Str.ofString z) = some .free) (h8 : fm.env.kindOf (Str.ofString z) ≠ some .local) (h6' : ρ.lookup z2 = some w2) (h7' : scope.names.lookup (Str.ofString z2) = some .free) (h8' : fm.env.kindOf (Str.ofString z2) ≠ some .local) : CompOk fm ρ [(z, w), (z2, w2)] scope x := by
  have e0 : (z2 == z) = false := by simpa using hne
  refine ⟨h1, h2, h3, h4, fun y hy e => ?_, fun z' w' h => ?_⟩
  · rcases h5 y hy e with h | h
    · exact ⟨z, w, h, by simp [List.lookup]⟩
    · exact ⟨z2, w2, h, by simp [List.lookup, e0]⟩
  · by_cases q : z' = z
    · subst q
      simp [List.lookup] at h
      subst h
      exact ⟨h6, h7, h8⟩
    · have e1 : (z' == z) = false := by simpa using q
      by_cases q2 : z' = z2
      · subst q2
        simp [List.lookup, e1] at h
        subst h
        exact ⟨h6', h7', h8'⟩
      · have e2 : (z' == z2) = false := by simpa using q2
        simp [List.lookup, e1, e2] at h
theorem It.range0 {c : Cx} {n : Nat} {m : Int} (e : m = n) (hn : n < 1000000) : It c (.rng 0 m) (rngL 0 n) fun _ => True := by
  have := It.range (c := c) (a := 0) (n := n) (by omega) (by omega) hn
  rwa [Int.zero_add, ← e] at this
def gprN (i : Nat) : Str := Str.ofString (gprL.getD i "")
def brace (ns : List Str) : Str := Str.ofString "{" ++ Txt.join sepS ns ++ Str.ofString "}"
theorem sum_le {texts : List Str} (h : ∀ p ∈ texts, p.length ≤ 20) : (texts.map (·.length)).sum ≤ texts.length * 20 := by
  induction texts with
  | nil => simp
  | cons p r ih =>
    have h1 := h p (.head _)
    have h2 := ih fun q hq => h q (.tail _ hq)
    simp only [List.map_cons, List.sum_cons, List.length_cons]
    omega
theorem sepS_len : sepS.length = 2 := by decide +kernel
theorem join_ok {texts : List Str} (h : ∀ p ∈ texts, p.length ≤ 20) (h2 : texts.length ≤ 40) : JoinOk sepS texts = true := by
  unfold JoinOk Builtin.Str.tooLong
  rw [StrLaws.joinTotal, sepS_len]
  have := sum_le h
  have : sizeLine = 2 ^ 24 := rfl
  simp only [Bool.not_eq_true', decide_eq_false_iff_not]
  omega
theorem join_len {texts : List Str} (h : ∀ p ∈ texts, p.length ≤ 20) (h2 : texts.length ≤ 40) : (Txt.join sepS texts).length ≤ 880 := by
  have e : Txt.join sepS texts = Str.join sepS texts := StrLaws.glued_eq_join ..
  rw [e]
  have h1 := StrLaws.join_length_le sepS texts
  rw [sepS_len] at h1
  have := sum_le h
  omega
theorem bits_len (m n : Nat) : (bits m n).length ≤ n := by
  unfold bits
  exact Nat.le_trans (List.length_filter_le _ _) (by simp)
theorem gprN_len (i : Nat) : (gprN i).length ≤ 20 := by
  by_cases q : i < 16
  · have : ∀ i < 16, (gprN i).length ≤ 20 := by decide +kernel
    exact this i q
  · unfold gprN
    have e : gprL[i]? = none := List.getElem?_eq_none (by simpa [gprL] using q)
    rw [List.getD_eq_getElem?_getD, e]
    decide
def prN (p : Str) (i : Nat) : Str := p ++ Str.ofString (toString (i : Int))
theorem prN_len {p : Str} (hp : p.length ≤ 8) {i : Nat} (h : i < 100) : (prN p i).length ≤ 20 := by
  unfold prN
  rw [Str.length_append]
  have := num_len (number := (i : Int)) (by omega) (by omega)
  omega
theorem brace_len {texts : List Str} (h : ∀ p ∈ texts, p.length ≤ 20) (h2 : texts.length ≤ 40) : (brace texts).length ≤ 1000 := by
  unfold brace
  rw [Str.length_append, Str.length_append]
  have := join_len h h2
  have : (Str.ofString "{").length = 1 := by decide +kernel
  have : (Str.ofString "}").length = 1 := by decide +kernel
  omega
theorem names_g (x : Nat) : (∀ p ∈ (bits x 32).map gprN, p.length ≤ 20) ∧ ((bits x 32).map gprN).length ≤ 40 := by
  refine ⟨fun p hp => ?_, ?_⟩
  · obtain ⟨i, _, rfl⟩ := List.mem_map.mp hp
    exact gprN_len i
  · rw [List.length_map]; exact Nat.le_trans (bits_len x 32) (by decide)
theorem names_p {q : Str} (hq : q.length ≤ 8) (x : Nat) : (∀ p ∈ (bits x 32).map (prN q), p.length ≤ 20) ∧ ((bits x 32).map (prN q)).length ≤ 40 := by
  refine ⟨fun p hp => ?_, ?_⟩
  · obtain ⟨i, hi, rfl⟩ := List.mem_map.mp hp
    have : i < 32 := by have := (List.mem_filter.mp hi).1; simpa using this
    exact prN_len hq (by omega)
  · rw [List.length_map]; exact Nat.le_trans (bits_len x 32) (by decide)
def popT (ns : List Str) : Str := Str.ofString "pop " ++ brace ns
def kd (j : Nat) : String := if j < 14 then "r" else if j < 46 then "d" else if j < 62 then "wR" else "wCGR"
def nu (j : Nat) : Nat := if j < 13 then j else if j = 13 then 14 else if j < 46 then j - 14 else if j < 62 then j - 46 else j - 62
def nm (j : Nat) : Str := nameOf (Str.ofString (kd j)) (nu j : Nat)
def gi (i : Nat) : Nat := if i = 14 then 13 else i
theorem nm_g : ∀ i < 16, i ≠ 13 → i ≠ 15 → gprN i = nm (gi i) := by decide +kernel
theorem nm_d : ∀ i < 32, prN (Str.ofString "d") i = nm (14 + i) := by decide +kernel
theorem nm_w : ∀ i < 16, prN (Str.ofString "wR") i = nm (46 + i) := by decide +kernel
theorem nm_c : ∀ i < 4, prN (Str.ofString "wCGR") i = nm (62 + i) := by decide +kernel
inductive W where
  | add (n : Nat) | sub (n : Nat) | reg7 | fin | pop (js : List Nat)
def W.text : W → Str
  | .add n => Str.ofString "vsp = vsp + " ++ Str.ofString (toString (n : Int))
  | .sub n => Str.ofString "vsp = vsp - " ++ Str.ofString (toString (n : Int))
  | .reg7 => Str.ofString "vsp = r7"
  | .fin => Str.ofString "finish"
  | .pop js => popT (js.map nm)
def rm (s n : Nat) : Nat := (2 ^ (n + 1) - 1) * 2 ^ s
def gj (m : Nat) : List Nat := (bits m 32).map gi
def dj (m : Nat) : List Nat := (bits m 32).map (14 + ·)
def wj (m : Nat) : List Nat := (bits m 32).map (46 + ·)
def cj (m : Nat) : List Nat := (bits m 32).map (62 + ·)
inductive Item : List Nat → W → Prop
  | add (x : Nat) : x < 64 → Item [x] (.add (4 * x + 4))
  | sub (x : Nat) : x < 64 → Item [64 + x] (.sub (4 * x + 4))
  | reg7 : Item [151] .reg7
  | fin : Item [176] .fin
  | p4 (n : Nat) : n < 8 → Item [160 + n] (.pop (gj (rm 4 n)))
  | p4l (n : Nat) : n < 8 → Item [168 + n] (.pop (gj (rm 4 n ||| 1 * 2 ^ 14)))
  | m4 (m : Nat) : 0 < m → m < 16 → Item [177, m] (.pop (gj m))
  | m12 (m : Nat) : 0 < m → m < 4096 → (∀ i ∈ bits (16 * m) 32, i < 16 ∧ i ≠ 13 ∧ i ≠ 15) → Item [128 + m / 256, m % 256] (.pop (gj (16 * m)))
  | d8 (n : Nat) : n < 8 → Item [184 + n] (.pop (dj (rm 8 n)))
  | d8' (n : Nat) : n < 8 → Item [208 + n] (.pop (dj (rm 8 n)))
  | d16 (s n : Nat) : s < 8 → n < 8 → Item [200, 16 * s + n] (.pop (dj (rm (16 + s) n)))
  | dd (s n : Nat) : s < 16 → n < 8 → Item [201, 16 * s + n] (.pop (dj (rm s n)))
  | wr (s n : Nat) : s < 12 → n < 4 → Item [198, 16 * s + n] (.pop (wj (rm s n)))
  | cg (m : Nat) : 0 < m → m < 16 → Item [199, m] (.pop (cj m))
theorem bits_lt {m n i : Nat} (h : i ∈ bits m n) : i < n := by
  have := (List.mem_filter.mp h).1
  simpa using this
theorem map_g {m : Nat} (h : ∀ i ∈ bits m 32, i < 16 ∧ i ≠ 13 ∧ i ≠ 15) : (bits m 32).map gprN = (gj m).map nm := by
  unfold gj
  rw [List.map_map]
  exact List.map_congr_left fun i hi => nm_g i (h i hi).1 (h i hi).2.1 (h i hi).2.2
theorem map_d (m : Nat) : (bits m 32).map (prN (Str.ofString "d")) = (dj m).map nm := by
  unfold dj
  rw [List.map_map]
  exact List.map_congr_left fun i hi => nm_d i (bits_lt hi)
theorem map_w {m : Nat} (h : ∀ i ∈ bits m 32, i < 16) : (bits m 32).map (prN (Str.ofString "wR")) = (wj m).map nm := by
  unfold wj
  rw [List.map_map]
  exact List.map_congr_left fun i hi => nm_w i (h i hi)
theorem map_c {m : Nat} (h : ∀ i ∈ bits m 32, i < 4) : (bits m 32).map (prN (Str.ofString "wCGR")) = (cj m).map nm := by
  unfold cj
  rw [List.map_map]
  exact List.map_congr_left fun i hi => nm_c i (h i hi)
structure Opn where
  oct : List Nat
  far : Option Nat
  row : List Nat
  its : List (List Nat × W)
inductive OpOk (seven : Bool) : Opn → Prop
  | add (f : Nat) : f < 8 → OpOk seven ⟨[7 * f], some (28 * f + 4), [], [([7 * f], .add (4 * (7 * f) + 4))]⟩
  | addsub (f m : Nat) : f < 8 → m < 20 → OpOk seven ⟨[f + m, 64 + f], some (4 * m), [], [([f + m], .add (4 * (f + m) + 4)), ([64 + f], .sub (4 * f + 4))]⟩
  | pop (oct row : List Nat) : Item oct (.pop row) → row ≠ [] → (∀ j ∈ row, j < 66) → (7 ∈ row → seven = true) → OpOk seven ⟨oct, some 0, row, [(oct, .pop row)]⟩
def pairV (j : Nat) : V := .tup [.str (Str.ofString (kd j)), .int (nu j : Nat)]
def farV : Option Nat → V
  | none => .none
  | some d => .int d
def opV (o : Opn) : V := .tup [.bytes (byteArr (o.oct.map fun (x : Nat) => (x : Int))), farV o.far, .lst (o.row.map pairV)]
def vspS : Str := Str.ofString "vsp"
def wd (j : Nat) : Nat := if 14 ≤ j ∧ j < 62 then 8 else 4
def upd (g : Nat → Int) (j : Nat) (x : Int) : Nat → Int := fun i => if i = j then x else g i
theorem dictL_ex : ∃ d : Int → (Nat → Int) → List (Str × V), ∀ v f, d v f = (vspS, .int v) :: (List.range 66).map fun j => (nm j, .int (f j)) := ⟨_, fun _ _ => rfl⟩
noncomputable def dictL : Int → (Nat → Int) → List (Str × V) := Classical.choose dictL_ex
theorem dictL_eq (v : Int) (f : Nat → Int) : dictL v f = (vspS, .int v) :: (List.range 66).map fun j => (nm j, .int (f j)) := Classical.choose_spec dictL_ex v f
abbrev RS := Int × (Nat → Int)
def pops (M : List (Int × V)) : List Nat → RS → Option RS
  | [], s => some s
  | j :: r, s => match getE M s.1 with
    | some (.int x) => pops M r (s.1 + wd j, upd s.2 j x)
    | _ => none
def uw (M : List (Int × V)) : W → RS → Option RS
  | .add n, s => some (s.1 + n, s.2)
  | .sub n, s => some (s.1 - n, s.2)
  | .reg7, s => some (s.2 7, s.2)
  | .fin, s => some s
  | .pop js, s => pops M js s
def uws (M : List (Int × V)) : List W → RS → Option RS
  | [], s => some s
  | w :: r, s => (uw M w s).bind (uws M r)
theorem nm_nodup : ((List.range 66).map nm).Nodup := by decide +kernel
theorem nm_vsp : ∀ j < 66, nm j ≠ vspS := by decide +kernel
theorem nm_inj {i j : Nat} (hi : i < 66) (hj : j < 66) (h : nm i = nm j) : i = j := by
  have n := List.pairwise_map.mp nm_nodup
  have n2 := List.pairwise_iff_getElem.mp n
  rcases Nat.lt_trichotomy i j with q | q | q
  · have := n2 i j (by simpa using hi) (by simpa using hj) q
    simp at this
    exact absurd h this
  · exact q
  · have := n2 j i (by simpa using hj) (by simpa using hi) q
    simp at this
    exact absurd h.symm this
theorem getE_map {l : List Nat} {f : Nat → Int} {j : Nat} (hl : ∀ i ∈ l, i < 66) (hj : j < 66) (h : j ∈ l) : getE (l.map fun j => (nm j, V.int (f j))) (nm j) = some (.int (f j)) := by
  induction l with
  | nil => cases h
  | cons a r ih =>
    unfold getE
    rw [List.map_cons, List.find?_cons]
    by_cases e : a = j
    · subst e; simp
    · have : ¬ (nm a = nm j) := fun q => e (nm_inj (hl a (.head _)) hj q)
      simp only [this, decide_false]
      exact ih (fun i hi => hl i (.tail _ hi)) (by rcases List.mem_cons.mp h with q | q; exact absurd q.symm e; exact q)
theorem dict_get (v : Int) (f : Nat → Int) {j : Nat} (hj : j < 66) : getE (dictL v f) (nm j) = some (.int (f j)) := by
  rw [dictL_eq]
  have : ¬ (vspS = nm j) := fun q => nm_vsp j hj q.symm
  have e := getE_map (l := List.range 66) (f := f) (fun i hi => by simpa using hi) hj (by simpa using hj)
  unfold getE at e ⊢
  rw [List.find?_cons]
  simp only [this, decide_false]
  exact e
theorem dict_vsp (v : Int) (f : Nat → Int) : getE (dictL v f) vspS = some (.int v) := by
  rw [dictL_eq]
  unfold getE
  rw [List.find?_cons]
  simp
theorem dict_set (v : Int) (f : Nat → Int) {j : Nat} (hj : j < 66) (x : Int) : setE (dictL v f) (nm j) (.int x) = dictL v (upd f j x) := by
  have h1 : ¬ (vspS = nm j) := fun q => nm_vsp j hj q.symm
  have h2 : (dictL v f).any (fun x => x.1 = nm j) = true := by
    rw [List.any_eq_true]
    refine ⟨(nm j, .int (f j)), ?_, by simp⟩
    rw [dictL_eq]
    exact .tail _ (List.mem_map.mpr ⟨j, by simpa using hj, rfl⟩)
  unfold setE
  rw [if_pos h2]
  rw [dictL_eq, dictL_eq]
  rw [List.map_cons, if_neg h1, List.map_map]
  congr 1
  refine List.map_congr_left fun i hi => ?_
  have hi' : i < 66 := by simpa using hi
  simp only [Function.comp, upd]
  by_cases e : i = j
  · subst e; simp
  · have : ¬ (nm i = nm j) := fun q => e (nm_inj hi' hj q)
    rw [if_neg this, if_neg e]
theorem dict_setv (v : Int) (f : Nat → Int) (x : Int) : setE (dictL v f) vspS (.int x) = dictL x f := by
  have h2 : (dictL v f).any (fun x => x.1 = vspS) = true := by
    rw [dictL_eq]
    rw [List.any_cons]; simp
  unfold setE
  rw [if_pos h2]
  rw [dictL_eq, dictL_eq]
  rw [List.map_cons, if_pos rfl, List.map_map]
  refine congrArg _ ?_
  refine List.map_congr_left fun i hi => ?_
  have hi' : i < 66 := by simpa using hi
  simp only [Function.comp]
  rw [if_neg (nm_vsp i hi')]
theorem dict_len (v : Int) (f : Nat → Int) : (dictL v f).length = 67 := by simp [dictL_eq]
-- texts
theorem sl_pre {A B : Str} (k : Nat) (h : A.cps.toList.length = k) : Txt.slice (A ++ B) none (some (k : Int)) = A := by
  apply str_ext
  rw [slice_upto, toList_add, ← h, List.take_left]
theorem sl_post {A B : Str} (k : Nat) (h : A.cps.toList.length = k) : Txt.slice (A ++ B) (some (k : Int)) none = B := by
  apply str_ext
  rw [slice_from _ _ (by rw [len_list, toList_add, List.length_append]; omega), toList_add, ← h, List.drop_left]
theorem sl_head {A B C : Str} {k : Nat} {c d : Nat} (hk : 0 < k) (hA : A.cps.toList.head? = some c) (hC : C.cps.toList.head? = some d) (hcd : c ≠ d) : Txt.slice (A ++ B) none (some (k : Int)) ≠ C := by
  intro e
  have e1 := slice_upto (A ++ B) k
  rw [e, toList_add] at e1
  cases hl : A.cps.toList with
  | nil => rw [hl] at hA; cases hA
  | cons a r =>
    rw [hl] at hA e1
    cases hA
    cases k with
    | zero => omega
    | succ k =>
      rw [List.cons_append, List.take_succ_cons] at e1
      rw [e1] at hC
      cases hC
      exact hcd rfl
theorem pop_text (ns : List Str) : (popT ns).cps.toList = (Str.ofString "pop {").cps.toList ++ ((Txt.join sepS ns).cps.toList ++ [125]) := by
  unfold popT brace
  rw [toList_add, toList_add, toList_add]
  have e1 : (Str.ofString "pop {").cps.toList = (Str.ofString "pop ").cps.toList ++ (Str.ofString "{").cps.toList := by decide +kernel
  have e2 : (Str.ofString "}").cps.toList = [125] := by decide +kernel
  rw [e1, e2]
  simp
theorem pop_eq (ns : List Str) : popT ns = Str.ofString "pop {" ++ (Txt.join sepS ns ++ Str.ofString "}") := by
  apply str_ext
  have e2 : (Str.ofString "}").cps.toList = [125] := by decide +kernel
  rw [pop_text, toList_add, toList_add, e2]
theorem pop_len (ns : List Str) : (popT ns).length = 6 + (Txt.join sepS ns).length := by
  have e : (Str.ofString "pop {").cps.toList.length = 5 := by decide +kernel
  rw [len_list, pop_text, List.length_append, List.length_append, e, len_list]
  simp
  omega
theorem pop_5 (ns : List Str) : Txt.slice (popT ns) none (some 5) = Str.ofString "pop {" := by
  rw [pop_eq]; exact sl_pre 5 (by decide +kernel)
theorem pop_last (ns : List Str) : Txt.slice (popT ns) (some (-1)) none = Str.ofString "}" := by
  apply str_ext
  have e2 : (Str.ofString "}").cps.toList = [125] := by decide +kernel
  have e : (Str.ofString "pop {").cps.toList.length = 5 := by decide +kernel
  rw [slice_last _ (by rw [pop_len]; omega), pop_len, pop_text, e2, ← List.append_assoc, List.drop_append_of_le_length (by rw [List.length_append, e, ← len_list]; omega), List.drop_of_length_le (by rw [List.length_append, e, ← len_list]; omega)]
  rfl
theorem pop_mid (ns : List Str) : Txt.slice (popT ns) (some 5) (some (-1)) = Txt.join sepS ns := by
  apply str_ext
  have e : (Str.ofString "pop {").cps.toList.length = 5 := by decide +kernel
  have := slice_mid (popT ns) 5 (by rw [pop_len]; omega)
  refine this.trans ?_
  rw [pop_len, pop_text, ← e, List.drop_left, e, List.take_append_of_le_length (by rw [← len_list]; omega), List.take_of_length_le (by rw [← len_list]; omega)]
theorem nm_comma : ∀ j < 66, 44 ∉ (nm j).cps.toList := by decide +kernel
theorem nm_len : ∀ j < 66, (nm j).length ≤ 20 := by decide +kernel
theorem pop_split {js : List Nat} (h0 : js ≠ []) (h : ∀ j ∈ js, j < 66) : Txt.split (Txt.join sepS (js.map nm)) sepS = js.map nm :=
  split_join (by simpa using h0) fun p hp => by
    obtain ⟨j, hj, rfl⟩ := List.mem_map.mp hp
    exact nm_comma j (h j hj)
theorem nm_wide : ∀ j < 66, ((Txt.slice (nm j) none (some 1) = Str.ofString "d") ∨ (Txt.slice (nm j) none (some 2) = Str.ofString "wR")) ↔ (14 ≤ j ∧ j < 62) := by decide +kernel
inductive Mi where
  | adj (d : Nat) | seven (t : Nat) | push (j : Nat)
structure PS where
  v : Int
  f : Nat → Int
  mem : List (Int × V)
  fresh : Int
  pop : List Nat
def addP (l : List Nat) (j : Nat) : List Nat := if j ∈ l then l else l ++ [j]
def ps0 : PS := ⟨1000000, fun j => 5000 + (j : Int), [], 9000, []⟩
def PS.step (s : PS) : Mi → PS
  | .adj d => { s with v := s.v - d }
  | .seven t => { s with f := upd s.f 7 s.v, v := s.v - t }
  | .push j => ⟨s.v - wd j, upd s.f j (s.fresh + 1), setE s.mem (s.v - wd j) (.int (s.f j)), s.fresh + 1, addP s.pop j⟩
def pro : List Mi → PS
  | [] => ps0
  | m :: S => (pro S).step m
def und (M : List (Int × V)) : List Mi → RS → Option RS
  | [], s => some s
  | .adj d :: S, s => und M S (s.1 + d, s.2)
  | .seven _ :: S, s => und M S (s.2 7, s.2)
  | .push j :: S, s => match getE M s.1 with
    | some (.int x) => und M S (s.1 + wd j, upd s.2 j x)
    | _ => none
def hasS : List Mi → Bool
  | [] => false
  | .seven _ :: _ => true
  | _ :: S => hasS S
def MOk : List Mi → Prop
  | [] => True
  | .adj _ :: S => MOk S
  | .seven _ :: S => hasS S = false ∧ MOk S
  | .push j :: S => (j = 7 → hasS S = false) ∧ MOk S
theorem wd_pos (j : Nat) : 0 < wd j := by unfold wd; split <;> omega
theorem getE_set {es : List (Int × V)} {k : Int} {v : V} (a : Int) : getE (setE es k v) a = if k = a then some v else getE es a := by
  unfold setE
  split
  · rename_i h
    induction es with
    | nil => simp at h
    | cons x r ih =>
      unfold getE at ih ⊢
      rw [List.map_cons]
      by_cases e : x.1 = k
      · rw [if_pos e, List.find?_cons, List.find?_cons]
        by_cases q : k = a
        · subst q; simp [e]
        · have q' : ¬ (x.1 = a) := by rw [e]; exact q
          simp only [q', decide_false, if_neg q]
          by_cases h2 : (r.any fun x => decide (x.1 = k)) = true
          · have := ih h2
            rw [if_neg q] at this
            exact this
          · congr 1
            have : ∀ y ∈ r, (if y.1 = k then (y.1, v) else y) = y := by
              intro y hy
              rw [if_neg]
              intro e2
              exact h2 (List.any_eq_true.mpr ⟨y, hy, by simpa using e2⟩)
            rw [List.map_congr_left (g := id) (by simpa using this), List.map_id]
      · have h2 : (r.any fun x => decide (x.1 = k)) = true := by
          rw [List.any_cons] at h
          simpa [e] using h
        have := ih h2
        rw [if_neg e, List.find?_cons, List.find?_cons]
        by_cases q : x.1 = a
        · have : ¬ (k = a) := fun h => e (q.trans h.symm)
          simp [q, this]
        · simp only [q, decide_false]
          exact this
  · rename_i h
    unfold getE
    rw [List.find?_append]
    by_cases q : k = a
    · subst q
      have : es.find? (fun x => decide (x.1 = k)) = none := by
        rw [List.find?_eq_none]
        intro x hx hk
        exact h (List.any_eq_true.mpr ⟨x, hx, hk⟩)
      rw [this, if_pos rfl]
      simp
    · rw [if_neg q]
      simp [q]
theorem keys_ge (S : List Mi) : ∀ a x, getE (pro S).mem a = some x → (pro S).v ≤ a := by
  induction S with
  | nil => intro a x h; cases h
  | cons m S ih =>
    intro a x h
    cases m with
    | adj d => have := ih a x h; show (pro S).v - d ≤ a; omega
    | seven t => have := ih a x h; show (pro S).v - t ≤ a; omega
    | push j =>
      have h' : getE (setE (pro S).mem ((pro S).v - wd j) (.int ((pro S).f j))) a = some x := h
      rw [getE_set] at h'
      show (pro S).v - wd j ≤ a
      split at h'
      · omega
      · have := ih a x h'; omega
theorem keep_f (S : List Mi) (x : Nat) (h : x ∉ (pro S).pop) (h7 : x = 7 → hasS S = false) : (pro S).f x = 5000 + (x : Int) := by
  induction S with
  | nil => rfl
  | cons m S ih =>
    cases m with
    | adj d => exact ih h h7
    | seven t =>
      show upd (pro S).f 7 (pro S).v x = _
      unfold upd
      by_cases e : x = 7
      · have := h7 e; simp [hasS] at this
      · rw [if_neg e]
        exact ih h fun q => absurd q e
    | push j =>
      have h' : x ∉ addP (pro S).pop j := h
      have hx : x ≠ j ∧ x ∉ (pro S).pop := by
        unfold addP at h'
        split at h'
        · rename_i hj
          exact ⟨fun e => h' (e ▸ hj), h'⟩
        · simp at h'
          exact ⟨h'.2, h'.1⟩
      show upd (pro S).f j ((pro S).fresh + 1) x = _
      unfold upd
      rw [if_neg hx.1]
      exact ih hx.2 h7
theorem und_pro : ∀ (S : List Mi), MOk S → ∀ (M : List (Int × V)), (∀ a x, getE (pro S).mem a = some x → getE M a = some x) → ∀ (g : Nat → Int), (hasS S = true → g 7 = (pro S).f 7) →
    und M S ((pro S).v, g) = some (1000000, fun x => if x ∈ (pro S).pop then 5000 + (x : Int) else g x) := by
  intro S
  induction S with
  | nil =>
    intro _ M _ g _
    show some ((1000000 : Int), g) = _
    congr 2
  | cons m S ih =>
    intro ok M hM g h7
    cases m with
    | adj d =>
      have := ih ok M hM g h7
      show und M S ((pro S).v - d + d, g) = _
      rw [Int.sub_add_cancel]
      exact this
    | seven t =>
      have e : g 7 = (pro S).v := by
        rw [h7 rfl]
        show upd (pro S).f 7 (pro S).v 7 = _
        simp [upd]
      show und M S (g 7, g) = _
      rw [e]
      exact ih ok.2 M hM g fun h => absurd h (by rw [ok.1]; simp)
    | push j =>
      have hg : getE M ((pro S).v - wd j) = some (.int ((pro S).f j)) := by
        refine hM _ _ ?_
        show getE (setE (pro S).mem ((pro S).v - wd j) (.int ((pro S).f j))) _ = _
        rw [getE_set, if_pos rfl]
      have hM' : ∀ a x, getE (pro S).mem a = some x → getE M a = some x := by
        intro a x h
        refine hM a x ?_
        show getE (setE (pro S).mem ((pro S).v - wd j) (.int ((pro S).f j))) _ = _
        have := keys_ge S a x h
        have := wd_pos j
        rw [getE_set, if_neg (by omega)]
        exact h
      have h7' : hasS S = true → upd g j ((pro S).f j) 7 = (pro S).f 7 := by
        intro h
        unfold upd
        by_cases e : (7 : Nat) = j
        · rw [if_pos e, e]
        · rw [if_neg e]
          have := h7 h
          rw [this]
          show upd (pro S).f j _ 7 = _
          unfold upd
          rw [if_neg e]
      have key := ih ok.2 M hM' (upd g j ((pro S).f j)) h7'
      show (match getE M ((pro S).v - wd j) with
        | some (.int x) => und M S ((pro S).v - wd j + wd j, upd g j x)
        | _ => none) = _
      rw [hg, Int.sub_add_cancel]
      refine key.trans ?_
      congr 2
      funext x
      show _ = if x ∈ addP (pro S).pop j then 5000 + (x : Int) else g x
      by_cases hx : x ∈ (pro S).pop
      · have : x ∈ addP (pro S).pop j := by unfold addP; split; exact hx; exact List.mem_append_left _ hx
        rw [if_pos hx, if_pos this]
      · rw [if_neg hx]
        by_cases e : x = j
        · subst e
          have : x ∈ addP (pro S).pop x := by unfold addP; rw [if_neg hx]; simp
          rw [if_pos this]
          unfold upd
          rw [if_pos rfl]
          exact keep_f S x hx ok.1
        · have : x ∉ addP (pro S).pop j := by
            unfold addP; split
            · exact hx
            · simp [hx, e]
          rw [if_neg this]
          unfold upd
          rw [if_neg e]
def sevO : Opn := ⟨[151], none, [], [([151], .reg7)]⟩
inductive Seq : Bool → List Opn → Prop
  | nil (b : Bool) : Seq b []
  | sev {l : List Opn} : Seq true l → Seq false (sevO :: l)
  | op {b : Bool} {o : Opn} {l : List Opn} : OpOk b o → Seq b l → Seq b (o :: l)
def mic (o : Opn) (t : Nat) : List Mi := (match o.far with | some d => .adj d | none => .seven t) :: o.row.map .push
inductive Mics : List Opn → List Mi → Prop
  | nil : Mics [] []
  | cons (o : Opn) (t : Nat) {l : List Opn} {S : List Mi} : Mics l S → Mics (o :: l) (mic o t ++ S)
theorem hasS_push (row : List Nat) (S : List Mi) : hasS (row.map Mi.push ++ S) = hasS S := by
  induction row with
  | nil => rfl
  | cons j r ih => exact ih
theorem mok_push (row : List Nat) (S : List Mi) (h : 7 ∈ row → hasS S = false) (ok : MOk S) : MOk (row.map Mi.push ++ S) := by
  induction row with
  | nil => exact ok
  | cons j r ih =>
    refine ⟨fun e => ?_, ih fun h7 => h (.tail _ h7)⟩
    show hasS (r.map Mi.push ++ S) = false
    rw [hasS_push]
    exact h (e ▸ .head _)
theorem OpOk.far' {b : Bool} {o : Opn} (h : OpOk b o) : ∃ d, o.far = some d := by
  cases h <;> exact ⟨_, rfl⟩
theorem seq_mok {b : Bool} {ops : List Opn} (q : Seq b ops) : ∀ {S : List Mi}, Mics ops S → (b = true → hasS S = false) ∧ MOk S := by
  induction q with
  | nil b => intro S m; cases m; exact ⟨fun _ => rfl, trivial⟩
  | sev _ ih =>
    intro S m
    cases m with
    | cons o t m' =>
      obtain ⟨h1, h2⟩ := ih m'
      exact ⟨fun h => absurd h (by simp), h1 rfl, h2⟩
  | @op b o l h _ ih =>
    intro S m
    cases m with
    | @cons _ t _ S' m' =>
      obtain ⟨h1, h2⟩ := ih m'
      obtain ⟨d, hd⟩ := h.far'
      have hrow : 7 ∈ o.row → hasS S' = false := by
        intro h7
        cases h with
        | add => cases h7
        | addsub => cases h7
        | pop oct row it ne lt s7 => exact h1 (s7 h7)
      unfold mic
      rw [hd]
      refine ⟨fun hb => ?_, ?_⟩
      · show hasS (o.row.map Mi.push ++ S') = false
        rw [hasS_push]; exact h1 hb
      · exact mok_push o.row S' hrow h2
theorem uws_append (M : List (Int × V)) (a b : List W) (s : RS) : uws M (a ++ b) s = (uws M a s).bind (uws M b) := by
  induction a generalizing s with
  | nil => rfl
  | cons w r ih =>
    show (uw M w s).bind (uws M (r ++ b)) = ((uw M w s).bind (uws M r)).bind (uws M b)
    cases uw M w s with
    | none => rfl
    | some s' => exact ih s'
theorem und_append (M : List (Int × V)) (a b : List Mi) (s : RS) : und M (a ++ b) s = (und M a s).bind (und M b) := by
  induction a generalizing s with
  | nil => rfl
  | cons m r ih =>
    cases m with
    | adj d => exact ih _
    | seven t => exact ih _
    | push j =>
      show (match getE M s.1 with | some (.int x) => und M (r ++ b) (s.1 + wd j, upd s.2 j x) | _ => none) = (match getE M s.1 with | some (.int x) => und M r (s.1 + wd j, upd s.2 j x) | _ => none).bind (und M b)
      cases getE M s.1 with
      | none => rfl
      | some v => cases v <;> first | rfl | exact ih _
theorem und_push (M : List (Int × V)) (row : List Nat) (s : RS) : und M (row.map Mi.push) s = pops M row s := by
  induction row generalizing s with
  | nil => rfl
  | cons j r ih =>
    show (match getE M s.1 with | some (.int x) => und M (r.map Mi.push) (s.1 + wd j, upd s.2 j x) | _ => none) = (match getE M s.1 with | some (.int x) => pops M r (s.1 + wd j, upd s.2 j x) | _ => none)
    cases getE M s.1 with
    | none => rfl
    | some v => cases v <;> first | rfl | exact ih _
def wds (o : Opn) : List W := o.its.map (·.2)
theorem op_und {b : Bool} {o : Opn} (h : OpOk b o ∨ o = sevO) (M : List (Int × V)) (t : Nat) (s : RS) : uws M (wds o) s = und M (mic o t) s := by
  rcases h with h | rfl
  · cases h with
    | add f hf =>
      show some (s.1 + ((4 * (7 * f) + 4 : Nat) : Int), s.2) = some (s.1 + ((28 * f + 4 : Nat) : Int), s.2)
      congr 2; omega
    | addsub f m hf hm =>
      show some (s.1 + ((4 * (f + m) + 4 : Nat) : Int) - ((4 * f + 4 : Nat) : Int), s.2) = some (s.1 + ((4 * m : Nat) : Int), s.2)
      congr 2; omega
    | pop oct row it ne lt s7 =>
      show (pops M row s).bind some = und M (row.map Mi.push) (s.1 + ((0 : Nat) : Int), s.2)
      rw [und_push]
      have e : (s.1 + ((0 : Nat) : Int), s.2) = s := by
        rw [show s.1 + ((0 : Nat) : Int) = s.1 by omega]
      rw [e]
      cases pops M row s <;> rfl
  · rfl
theorem seq_mem {b : Bool} {ops : List Opn} (q : Seq b ops) : ∀ o ∈ ops, (∃ b, OpOk b o) ∨ o = sevO := by
  induction q with
  | nil => intro o h; cases h
  | sev _ ih =>
    intro o h
    rcases List.mem_cons.mp h with h | h
    · exact .inr h
    · exact ih o h
  | op hh _ ih =>
    intro o h
    rcases List.mem_cons.mp h with h | h
    · subst h; exact .inl ⟨_, hh⟩
    · exact ih o h
theorem ops_und {ops : List Opn} {S : List Mi} (m : Mics ops S) (hq : ∀ o ∈ ops, (∃ b, OpOk b o) ∨ o = sevO) (M : List (Int × V)) (s : RS) : uws M (ops.flatMap wds) s = und M S s := by
  induction m generalizing s with
  | nil => rfl
  | cons o t m ih =>
    rw [List.flatMap_cons, uws_append, und_append]
    have e : uws M (wds o) s = und M (mic o t) s := by
      rcases hq o (.head _) with ⟨b, h⟩ | h
      · exact op_und (.inl h) M t s
      · exact op_und (b := false) (.inr h) M t s
    rw [e]
    cases und M (mic o t) s with
    | none => rfl
    | some s' => exact ih (fun o h => hq o (.tail _ h)) s'
theorem uws_fin (M : List (Int × V)) (n : Nat) (s : RS) : uws M (List.replicate n .fin) s = some s := by
  induction n with
  | zero => rfl
  | succ n ih => exact ih
/-- the law in plain words -/
theorem law_und {ops : List Opn} {S : List Mi} (q : Seq false ops) (m : Mics ops S) (e : Nat) :
    uws (pro S).mem (ops.flatMap wds ++ List.replicate e .fin) ((pro S).v, (pro S).f) = some (1000000, fun x => if x ∈ (pro S).pop then 5000 + (x : Int) else (pro S).f x) := by
  rw [uws_append, ops_und m (seq_mem q), und_pro S (seq_mok q m).2 _ (fun _ _ h => h) _ (fun _ => rfl)]
  exact uws_fin _ _ _
end Mine
end
open PySem PySem.W PyProof.Rows
set_option maxHeartbeats 8000000
namespace Mine
open_top hd for PySem.Challenge.rw_ez0262_01
open Mine PySem.Calls
set_option maxHeartbeats 100000000
structure Tp (c : Cx) (mg mb : Str → Option Value) : Prop where
  G : Gr c mg mb
  K : c.K = hd.heap_39 c.P
theorem Kp.K {c : Cx} {mg mb} (T : Tp c mg mb) {f : Value} (e : keepIn (hd.heap_39 c.P) f = true) : Kp c f := Kp.of T.G (by rw [T.K]; exact e)
theorem Tp.glob {c : Cx} {mg mb} (T : Tp c mg mb) {x : Str} {v : Value} (e : nsIn (hd.heap_39 c.P) mainGlobals x = some (some v)) : mg x = some v := mg_of T.G.X T.G.g (by rw [T.K]; exact e)
theorem Tp.none {c : Cx} {mg mb} (T : Tp c mg mb) {x : Str} (e : nsIn (hd.heap_39 c.P) mainGlobals x = some none) : mg x = none := mg_none_of T.G.X T.G.g (by rw [T.K]; exact e)
-- one step of a walk, by the tree's shape
local macro_rules | `(tactic| walk_at "S") => `(tactic| first
  | with_reducible refine Ex.cons ?_
  | with_reducible refine Ex.nil ?_
  | with_reducible refine Ex.if ?_
  | with_reducible refine Ex.ret ?_
  | with_reducible refine Ex.cont ?_
  | with_reducible refine Ex.brk ?_
  | ((with_reducible refine Ex.set ?_ ?hs); case hs => rfl)
  | ((with_reducible refine Ex.setSub ?_ ?hs); case hs => rfl)
  | ((with_reducible refine Ex.expr ?_ ?hs); case hs => rfl)
  | ((with_reducible refine Ev.call ?_ ?hp); case hp => rfl)
  | with_reducible refine Ev.name rfl ?_
  | with_reducible refine Ev.int ?_
  | with_reducible refine Ev.str ?_
  | with_reducible refine Ev.bool ?_
  | with_reducible refine Ev.none ?_
  | with_reducible refine Ev.bin ?_
  | with_reducible refine Ev.un ?_
  | with_reducible refine Ev.ifexp ?_
  | with_reducible refine Ev.sub ?_
  | with_reducible refine Et.cmp ?_
  | with_reducible refine Ev.cmp ?_
  | with_reducible refine Et.not ?_
  | with_reducible refine Et.and2 ?_
  | with_reducible refine Et.or2 ?_
  | with_reducible refine I.add ?_
  | with_reducible refine I.sub ?_
  | with_reducible refine I.eq ?_
  | with_reducible refine I.ne ?_
  | with_reducible refine I.lt ?_
  | with_reducible refine I.gt ?_
  | with_reducible refine I.ge ?_
  | with_reducible refine I.neg ?_
  | with_reducible refine T.bool ?_
  | with_reducible refine Evs.nil ?_
  | ((with_reducible refine Evs.cons ?_ ?he); (case he => rfl))
  )
theorem boot_len : bootBuiltins (Str.ofString "len") = some (.builtin "len") := rfl
theorem boot_abs : bootBuiltins (Str.ofString "abs") = some (.builtin "abs") := rfl
theorem boot_sum : bootBuiltins (Str.ofString "sum") = some (.builtin "sum") := rfl
theorem boot_sorted : bootBuiltins (Str.ofString "sorted") = some (.builtin "sorted") := rfl
theorem boot_getattr : bootBuiltins (Str.ofString "getattr") = some (.builtin "getattr") := rfl
theorem boot_int : bootBuiltins (Str.ofString "int") = some (.type "int") := rfl
theorem boot_range : bootBuiltins (Str.ofString "range") = some (.type "range") := rfl
theorem boot_bytes : bootBuiltins (Str.ofString "bytes") = some (.type "bytes") := rfl
theorem boot_list : bootBuiltins (Str.ofString "list") = some (.type "list") := rfl
theorem boot_dict : bootBuiltins (Str.ofString "dict") = some (.type "dict") := rfl
theorem boot_str : bootBuiltins (Str.ofString "str") = some (.type "str") := rfl
theorem boot_type : bootBuiltins (Str.ofString "type") = some (.type "type") := rfl
-- names of the module and of the machine
local macro_rules | `(tactic| walk_at "kind") => `(tactic| (rw [Env.kindOf, ‹Env.scope _ = _›]; rfl))
local macro_rules | `(tactic| walk_at "blt") => `(tactic| ((with_reducible refine' Ev.blt (Tp.G (by assumption)) ?h1 ?h2 ?h3 ?_ ?h4 ?h5); (case h1 => walk_at "kind"); (case h2 => exact Tp.none (by assumption) (by k_is)); (case h3 => first | exact boot_len | exact boot_abs | exact boot_int | exact boot_range | exact boot_bytes | exact boot_list | exact boot_dict | exact boot_sum | exact boot_sorted | exact boot_str | exact boot_getattr | exact boot_type); (case h4 => decide); (case h5 => decide)))
local macro_rules | `(tactic| walk_at "glob") => `(tactic| ((with_reducible refine' Ev.glob (Tp.G (by assumption)) ?h1 ?h2 ?_ ?h4); (case h1 => walk_at "kind"); (case h2 => exact Tp.glob (by assumption) (by k_is)); (case h4 => decide)))
local macro_rules | `(tactic| walk_at "st") => `(tactic| ((with_reducible refine store_local ?h1 ?_); (case h1 => walk_at "kind"); simp only [put, String.reduceEq, ↓reduceIte]))
def boxL (cell st pos : Int) (ns : List V) : List V := [.int cell, .int st, .int pos, .lst ns]
theorem IsP3g {a b d : V} {P : Option Int → Option Int → Option Int → Prop} (h : ∃ lo hi st, IsP a lo ∧ IsP b hi ∧ IsP d st ∧ P lo hi st) : ∃ lo hi st, IsP a lo ∧ IsP b hi ∧ IsP d st ∧ P lo hi st := h
theorem Op2.any {c : Cx} {A : Around} {f : Value → Value → Sem Value} {a b : V} {σ : List O} {K : V → List O → Prop} (h : Op2 c A f a b σ K) : Op2 c A f a b σ K := h
theorem Op3.any {c : Cx} {A : Around} {f : Value → Value → Value → Sem Unit} {a b d : V} {σ : List O} {K : List O → Prop} (h : Op3 c A f a b d σ K) : Op3 c A f a b d σ K := h
local macro_rules | `(tactic| walk_at "T") => `(tactic| repeat' (first | with_reducible refine Ex.cons ?_ | with_reducible refine Ex.nil ?_ | with_reducible refine Ex.if ?_ | with_reducible refine Ex.ret ?_ | with_reducible refine Ex.cont ?_ | with_reducible refine Ex.brk ?_ | ((with_reducible refine Ex.set ?_ ?hs); case hs => rfl) | ((with_reducible refine Ex.setSub ?_ ?hs); case hs => rfl) | ((with_reducible refine Ex.expr ?_ ?hs); case hs => rfl) | with_reducible refine Ev.name rfl ?_ | ((with_reducible refine Ev.call ?_ ?hp); case hp => rfl) | with_reducible refine Ev.int ?_ | with_reducible refine Ev.str ?_ | with_reducible refine Ev.bool ?_ | with_reducible refine Ev.none ?_ | with_reducible refine Ev.bin ?_ | with_reducible refine Ev.un ?_ | with_reducible refine Ev.ifexp ?_ | with_reducible refine Ev.sub ?_ | with_reducible refine Ev.slice ?_ | with_reducible refine Ev.partNone ?_ | with_reducible refine Ev.partSome ?_ | with_reducible refine Et.cmp ?_ | with_reducible refine Ev.cmp ?_ | with_reducible refine Et.not ?_ | with_reducible refine Et.and2 ?_ | with_reducible refine Et.or2 ?_ | with_reducible refine I.add ?_ | with_reducible refine I.sub ?_ | with_reducible refine I.eq ?_ | with_reducible refine I.ne ?_ | with_reducible refine I.lt ?_ | with_reducible refine I.gt ?_ | with_reducible refine I.ge ?_ | with_reducible refine I.neg ?_ | with_reducible refine T.bool ?_ | with_reducible refine Evs.nil ?_ | ((with_reducible refine Evs.cons ?_ ?he); (case he => rfl)) | ((with_reducible refine store_local ?h1 ?_); (case h1 => (rw [Env.kindOf, ‹Env.scope _ = _›]; rfl)); simp only [put, String.reduceEq, ↓reduceIte]) | (((with_reducible refine' Ev.blt (Tp.G (by assumption)) ?h1 ?h2 ?h3 ?_ ?h4 ?h5); (case h1 => (rw [Env.kindOf, ‹Env.scope _ = _›]; rfl)); (case h2 => exact Tp.none (by assumption) (by k_is)); (case h3 => first | exact boot_len | exact boot_abs | exact boot_int | exact boot_range | exact boot_bytes | exact boot_list | exact boot_dict | exact boot_sum | exact boot_sorted | exact boot_str | exact boot_getattr | exact boot_type); (case h4 => decide); (case h5 => decide)); refine ⟨_, rfl, Kp.builtin _, ?_⟩) | ((with_reducible refine Op2.any ?_); refine L.item (Sq.at (by assumption)) (by omega) (by omega) rfl ?_) | ((with_reducible refine Op3.any ?_); refine L.setAt (by assumption) (by omega) (by omega) (by simp only [List.length_cons, List.length_nil, List.length_set]; omega) ?_) | ((with_reducible refine Op2.any ?_); first | refine I.pow (by omega) (by decide) ?_ | refine I.mod (by omega) ?_ | refine I.div (by omega) (by omega) ?_ | refine I.mul (.of_right (by decide)) ?_ | refine I.mul (.of_left (by decide)) ?_)))
local macro_rules | `(tactic| walk_at "W") => `(tactic| repeat' (first | with_reducible refine Ex.cons ?_ | with_reducible refine Ex.nil ?_ | with_reducible refine Ex.if ?_ | with_reducible refine Ex.ret ?_ | with_reducible refine Ex.cont ?_ | with_reducible refine Ex.brk ?_ | ((with_reducible refine Ex.set ?_ ?hs); case hs => rfl) | ((with_reducible refine Ex.setSub ?_ ?hs); case hs => rfl) | ((with_reducible refine Ex.expr ?_ ?hs); case hs => rfl) | with_reducible refine Ev.name rfl ?_ | ((with_reducible refine Ev.call ?_ ?hp); case hp => rfl) | with_reducible refine Ev.int ?_ | with_reducible refine Ev.str ?_ | with_reducible refine Ev.bool ?_ | with_reducible refine Ev.none ?_ | with_reducible refine Ev.bin ?_ | with_reducible refine Ev.un ?_ | with_reducible refine Ev.ifexp ?_ | with_reducible refine Ev.sub ?_ | with_reducible refine Ev.slice ?_ | with_reducible refine Ev.partNone ?_ | with_reducible refine Ev.partSome ?_ | with_reducible refine Et.cmp ?_ | with_reducible refine Ev.cmp ?_ | with_reducible refine Et.not ?_ | with_reducible refine Et.and2 ?_ | with_reducible refine Et.or2 ?_ | with_reducible refine I.add ?_ | with_reducible refine I.sub ?_ | with_reducible refine I.eq ?_ | with_reducible refine I.ne ?_ | with_reducible refine I.lt ?_ | with_reducible refine I.gt ?_ | with_reducible refine I.ge ?_ | with_reducible refine I.neg ?_ | with_reducible refine T.bool ?_ | with_reducible refine Evs.nil ?_ | ((with_reducible refine Evs.cons ?_ ?he); (case he => rfl)) | ((with_reducible refine store_local ?h1 ?_); (case h1 => (rw [Env.kindOf, ‹Env.scope _ = _›]; rfl)); simp only [put, String.reduceEq, ↓reduceIte]) | (((with_reducible refine' Ev.blt (Tp.G (by assumption)) ?h1 ?h2 ?h3 ?_ ?h4 ?h5); (case h1 => (rw [Env.kindOf, ‹Env.scope _ = _›]; rfl)); (case h2 => exact Tp.none (by assumption) (by k_is)); (case h3 => first | exact boot_len | exact boot_abs | exact boot_int | exact boot_range | exact boot_bytes | exact boot_list | exact boot_dict | exact boot_sum | exact boot_sorted | exact boot_str | exact boot_getattr | exact boot_type); (case h4 => decide); (case h5 => decide)); first | refine ⟨_, rfl, Kp.builtin _, ?_⟩ | refine ⟨_, rfl, Kp.type _, ?_⟩) | (((with_reducible refine' Ev.glob (Tp.G (by assumption)) ?h1 ?h2 ?_ ?h4); (case h1 => (rw [Env.kindOf, ‹Env.scope _ = _›]; rfl)); (case h2 => exact Tp.glob (by assumption) (by k_is)); (case h4 => decide)); refine ⟨_, rfl, Kp.K (by assumption) (by k_is), ?_⟩) | ((with_reducible refine IsP3g ?_); refine ⟨_, _, _, (by first | exact IsP.none | exact IsP.int _), (by first | exact IsP.none | exact IsP.int _), (by first | exact IsP.none | exact IsP.int _), ?_⟩)))
local macro_rules | `(tactic| walk_at "B") => `(tactic| first | ((with_reducible refine' Ev.blt (Tp.G (by assumption)) ?h1 ?h2 ?h3 ?_ ?h4 ?h5); (case h1 => (rw [Env.kindOf, ‹Env.scope _ = _›]; rfl)); (case h2 => exact Tp.none (by assumption) (by k_is)); (case h3 => first | exact boot_len | exact boot_abs | exact boot_int | exact boot_range | exact boot_bytes | exact boot_list | exact boot_dict | exact boot_sum | exact boot_sorted | exact boot_str | exact boot_getattr | exact boot_type); (case h4 => decide); (case h5 => decide)))
local macro_rules | `(tactic| walk_at "G") => `(tactic| first | ((with_reducible refine' Ev.glob (Tp.G (by assumption)) ?h1 ?h2 ?_ ?h4); (case h1 => (rw [Env.kindOf, ‹Env.scope _ = _›]; rfl)); (case h2 => exact Tp.glob (by assumption) (by k_is)); (case h4 => decide)))
local macro_rules | `(tactic| walk_at "P") => `(tactic| first | ((with_reducible refine store_local ?h1 ?_); (case h1 => (rw [Env.kindOf, ‹Env.scope _ = _›]; rfl)); simp only [put, String.reduceEq, ↓reduceIte]))
theorem take_spec {c : Cx} {mg mb} (T : Tp c mg mb) {A : Around} {n : Nat} (a : AOk A (n + 1)) {σ : List O} {k : Nat} {m cell st pos : Int} {ns : List Int} (hk : k < σ.length)
    (h1 : 0 < m) (h2 : m ≤ 1000) (h3 : 0 ≤ pos) (h4 : pos < 1000000) (h5 : ns.length ≤ 1000) (h6 : 0 ≤ cell) (h7 : ∀ x ∈ ns, 0 ≤ x)
    {K : V → List O → Prop} (kk : ∀ (told cell' st' pos' : Int), 0 ≤ told → told < m → 0 ≤ cell' → 0 ≤ pos' → pos' ≤ pos + 1 → K (.int told) (σ.set k (.arr (boxL cell' st' pos' (ns.map .int))))) :
    Cl c A (.ref 296) [.ref k, .int m] (σ.set k (.arr (boxL cell st pos (ns.map .int)))) K := by
  refine Cl.def T.G (Def.mk' T.G (by rw [T.K]; k_is) (by rw [T.K]; k_is) ?_ (by decide)) (xs := ["box", "m"]) a rfl (by decide) (by decide) ?_
  · intro vals hl
    match vals, hl with
    | [a, b], _ => rfl
  intro fm A' hs a'
  dsimp only [List.zip_cons_cons, List.zip_nil_left, List.zip, List.zipWith, boxL]
  have fm0 : ∀ x : Int, 0 ≤ x.fmod m ∧ x.fmod m < m := fun x => ⟨Int.fmod_nonneg_of_pos _ h1, Int.fmod_lt_of_pos _ h1⟩
  have fd0 : ∀ x : Int, 0 ≤ x → 0 ≤ x.fdiv m := fun x hx => Int.fdiv_nonneg hx (by omega)
  have fl : ∀ x : Int, 0 ≤ x.fmod 2147483647 := fun x => Int.fmod_nonneg_of_pos _ (by omega)
  refine Ex.cut (ι := Int × Int × Int) (fun _ => [("box", .ref k), ("m", .int m)]) (fun i σ' => σ' = σ.set k (.arr (boxL i.1 i.2.1 i.2.2 (ns.map .int))) ∧ 0 ≤ i.1 ∧ 0 ≤ i.2.2 ∧ i.2.2 ≤ pos + 1) ?_ ?_
  · walk_at "T"
    with_reducible refine ifb (fun q => ?_) (fun q => ?_)
    · refine Ex.cut (ι := Int) (fun x => [("box", .ref k), ("m", .int m), ("cell", .int x)]) (fun x σ' => σ' = σ.set k (.arr (boxL cell st pos (ns.map .int))) ∧ 0 ≤ x) ?_ ?_
      · walk_at "T"
        refine' L.len (.lst _) ?k1 ?_; (case k1 => simp only [List.length_map]; omega)
        walk_at "T"
        with_reducible refine ifb (fun q2 => ?_) (fun q2 => ?_)
        · simp only [List.length_map, decide_eq_true_eq] at q2
          have hpos : pos.toNat < ns.length := by omega
          walk_at "T"
          refine L.item (.lst _) (by omega) (by omega) (w := .int ns[pos.toNat]) (by rw [List.getElem?_map, List.getElem?_eq_getElem hpos]; rfl) ?_
          walk_at "T"
          exact .inl ⟨by first | rfl | trivial, _, Sub.cons rfl (Sub.cons rfl (Sub.cons rfl (Sub.nil _))), rfl, h7 _ (List.getElem_mem _)⟩
        · walk_at "T"
          exact .inl ⟨by first | rfl | trivial, _, Sub.cons rfl (Sub.cons rfl (Sub.cons rfl (Sub.nil _))), rfl, by omega⟩
      · rintro x σ' ⟨rfl, hx⟩
        refine Ex.cut (ι := Int) (fun _ => [("box", .ref k), ("m", .int m), ("cell", .int x)]) (fun st' σ' => σ' = σ.set k (.arr (boxL cell st' pos (ns.map .int)))) ?_ ?_
        · dsimp only [boxL]
          walk_at "T"
          refine' L.len (.lst _) ?k1 ?_; (case k1 => simp only [List.length_map]; omega)
          walk_at "T"
          with_reducible refine ifb (fun q2 => ?_) (fun q2 => ?_)
          · walk_at "T"
            all_goals with_reducible refine ifb (fun q2 => ?_) (fun q2 => ?_)
            all_goals walk_at "T"
            all_goals exact .inl ⟨by first | rfl | trivial, _, Sub.cons rfl (Sub.cons rfl (Sub.cons rfl (Sub.nil _))), rfl⟩
          · walk_at "T"
            exact .inl ⟨by first | rfl | trivial, _, Sub.cons rfl (Sub.cons rfl (Sub.cons rfl (Sub.nil _))), rfl⟩
        · rintro st' σ' rfl
          dsimp only [boxL]
          walk_at "T"
          with_reducible refine ifb (fun q2 => ?_) (fun q2 => ?_)
          · walk_at "T"
            refine .inr ⟨(by intro e; cases e), ?_⟩
            exact kk 0 x st' (pos + 1) (by omega) h1 hx (by omega) (by omega)
          · walk_at "T"
            exact .inl ⟨by first | rfl | trivial, (x, st', pos + 1), Sub.cons rfl (Sub.cons rfl (Sub.nil _)), rfl, hx, by dsimp only; omega, by dsimp only; omega⟩
    · walk_at "T"
      exact .inl ⟨by first | rfl | trivial, (cell, st, pos), Sub.cons rfl (Sub.cons rfl (Sub.nil _)), rfl, h6, h3, by dsimp only; omega⟩
  · rintro ⟨cell, st, pos'⟩ σ' ⟨rfl, c1, c2, c3⟩
    dsimp only [boxL] at *
    walk_at "T"
    with_reducible refine ifb (fun q => ?_) (fun q => ?_)
    · walk_at "T"
      all_goals with_reducible refine ifb (fun q3 => ?_) (fun q3 => ?_)
      all_goals walk_at "T"
      all_goals exact kk _ _ _ _ (fm0 _).1 (fm0 _).2 (fd0 _ c1) c2 c3
    · walk_at "T"
      exact kk _ _ _ _ (fm0 _).1 (fm0 _).2 (fl _) c2 c3
def dPairs (keys : List (Option Expr)) (values : List Expr) (pos : Pos) (env : Env) : List (Sem Value × Sem Value) :=
  ((keys.filterMap id).zip values).map fun p => (eval p.1 env, do let x ← eval p.2 env; standAt pos; pure x)
theorem Ev.ret2 {c : Cx} {fm : Fm} {A : Around} {e : Expr} {pos : Pos} {ρ : Ρ} {σ : List O} {K : V → List O → Prop} (h : Ev c fm A (eval e fm.env) ρ σ K) : Ev c fm A (do let x ← eval e fm.env; standAt pos; pure x) ρ σ K := by
  intro ws s Q R L q
  refine wpAny_bind (h ws s _ R L fun ws' s' v val σ' k E R' L' r => ?_)
  refine wpAny_bind (wpAny_standAt ?_)
  exact wpAny_pure (q ws' s' v val σ' k E R' L' r)
theorem Ev.dictP {c : Cx} {fm : Fm} {A : Around} {ρ : Ρ} {σ : List O} {K : V → List O → Prop} {κ : Type} [DecidableEq κ] (d : Dk c κ) {mg mb : Str → Option Value} (G : Gr c mg mb) {keys : List (Option Expr)} {values : List Expr} {pos : Pos}
    (hshape : (evalEachOpt keys fm.env).zip ((evalEach values fm.env).map fun v => do let x ← v; standAt pos; pure x) = (dPairs keys values pos fm.env).map fun p => (some p.1, p.2))
    (h0 : dPairs keys values pos fm.env ≠ []) (hlen : (dPairs keys values pos fm.env).length ≤ 15)
    (h : Eps c fm A (evalPairs (dPairs keys values pos fm.env)) ρ (σ ++ [d.box []]) d fun es σ₁ => σ₁ = σ ++ [d.box []] ∧ K (.ref σ.length) (σ ++ [d.box (es.foldl (fun acc x => setE acc x.1 x.2) [])])) :
    Ev c fm A (eval (.Dict keys values pos) fm.env) ρ σ K := Ev.dict (d := d) G hshape h0 hlen h
theorem Eps.nilP {c : Cx} {fm : Fm} {A : Around} {ρ : Ρ} {σ : List O} {κ : Type} [DecidableEq κ] {d : Dk c κ} {KE : List (κ × V) → List O → Prop} {pos : Pos} (k : KE [] σ) : Eps c fm A (evalPairs (dPairs [] [] pos fm.env)) ρ σ d KE := Eps.nil (d := d) k
theorem Eps.consP {c : Cx} {fm : Fm} {A : Around} {ρ : Ρ} {σ : List O} {κ : Type} [DecidableEq κ] {d : Dk c κ} {KE : List (κ × V) → List O → Prop} {pos : Pos} (key : κ) {ke ve : Expr} {ks : List (Option Expr)} {vs : List Expr}
    (h : Ev c fm A (eval ke fm.env) ρ σ fun kv σ₁ => kv = d.kv key ∧ Ev c fm A (eval ve fm.env) ρ σ₁ fun v σ₂ => Eps c fm A (evalPairs (dPairs ks vs pos fm.env)) ρ σ₂ d fun es σ₃ => KE ((key, v) :: es) σ₃) :
    Eps c fm A (evalPairs (dPairs (some ke :: ks) (ve :: vs) pos fm.env)) ρ σ d KE :=
  Eps.cons (d := d) (h.mono fun _ _ hh => ⟨hh.1, Ev.ret2 hh.2⟩)
theorem name_spec {c : Cx} {mg mb} (T : Tp c mg mb) {A : Around} {n : Nat} (a : AOk A (n + 1)) {σ : List O} {kind : Str} {number : Int} (hk : kind.length ≤ 10) (h0 : 0 ≤ number) (h1 : number < 1000)
    {K : V → List O → Prop} (kk : K (.str (nameOf kind number)) σ) : Cl c A (.ref 303) [.str kind, .int number] σ K := by
  refine Cl.def T.G (Def.mk' T.G (by rw [T.K]; k_is) (by rw [T.K]; k_is) ?_ (by decide)) (xs := ["kind", "number"]) a rfl (by decide) (by decide) ?_
  · intro vals hl
    match vals, hl with
    | [a, b], _ => rfl
  intro fm A' hs a'
  dsimp only [List.zip_cons_cons, List.zip_nil_left, List.zip, List.zipWith]
  walk_at "T"
  refine X.strEq ?_
  walk_at "T"
  with_reducible refine ifb (fun q => ?_) (fun q => ?_)
  · walk_at "W"
    refine Ev.drop fun cl => ?_
    refine Ev.meth ?_
    refine Ev.dictP (intD c) T.G ?h1 ?h2 ?h3 ?_
    case h1 => rfl
    case h2 => exact List.cons_ne_nil _ _
    case h3 => exact Nat.le_of_ble_eq_true rfl
    refine Eps.consP (11 : Int) ?_
    walk_at "W"
    refine ⟨rfl, ?_⟩
    walk_at "W"
    refine Eps.consP (12 : Int) ?_
    walk_at "W"
    refine ⟨rfl, ?_⟩
    walk_at "W"
    refine Eps.consP (14 : Int) ?_
    walk_at "W"
    refine ⟨rfl, ?_⟩
    walk_at "W"
    refine Eps.nilP ?_
    refine ⟨rfl, ?_⟩
    have e1 : ∀ o : O, (σ ++ [o])[σ.length]? = some o := fun o => List.getElem?_concat_length ..
    refine ⟨_, Mt.get (d := intD c) (e1 _), Kp.builtin _, ?_⟩
    walk_at "W"
    refine B.str (small_log h0 (by omega)) ?_
    refine X.strAdd (by have := num_len h0 (by omega); have : (Str.ofString "r").length = 1 := by decide +kernel
                        omega) ?_
    walk_at "W"
    refine B.get (d := intD c) (key := number) (e1 _) ?_
    simp only [decide_eq_true_eq] at q
    subst q
    refine ⟨σ, _, rfl, rfl, cl, ?_, ?_⟩
    · exact (congrArg (V.und _) (name_dict number)).trans rfl
    · refine cast (congrArg (fun z => K z σ) (name_dict number).symm) kk
  · walk_at "W"
    refine B.str (small_log h0 (by omega)) ?_
    refine X.strAdd (by have := num_len h0 (by omega); omega) ?_
    simp only [decide_eq_false_iff_not] at q
    unfold nameOf at kk
    rw [if_neg q] at kk
    exact kk
theorem CompOk.plain {fm : Fm} {ρ : Ρ} {scope : Scope} {x : String} (h1 : scope.kind = .function) (h2 : ∀ y ∈ scope.names, y.2 ≠ .cell ∧ y.2 ≠ .free) (h3 : ∀ y ∈ scope.names, y.2 = .local → scope.names.lookup y.1 = some .local) (h4 : scope.names.lookup (Str.ofString x) = some .local) : CompOk fm ρ [] scope x :=
  ⟨h1, fun y hy => (h2 y hy).1, h3, h4, fun y hy e => absurd e (h2 y hy).2, fun z w h => by simp at h⟩
theorem map_take_succ {α β : Type} {l : List α} {f : α → β} {i : Nat} {v : α} (h : l[i]? = some v) : (l.take i).map f ++ [f v] = (l.take (i + 1)).map f := by
  rw [List.take_add_one, h]; simp
def absI (a : Int) : Int := if a < 0 then -a else a
theorem box_spec {c : Cx} {mg mb} (T : Tp c mg mb) {A : Around} {n : Nat} (a : AOk A (n + 1)) {σ : List O} {ns : List Int} (hl : ns.length ≤ 1000)
    {K : V → List O → Prop} (kk : K (.ref σ.length) (σ ++ [.list (boxL 0 0 0 ((ns.map absI).map .int))])) : Cl c A (.ref 289) [.arr (ns.map .int)] σ K := by
  refine Cl.def T.G (Def.mk' T.G (by rw [T.K]; k_is) (by rw [T.K]; k_is) ?_ (by decide)) (xs := ["script"]) a rfl (by decide) (by decide) ?_
  · intro vals hl
    match vals, hl with
    | [a], _ => rfl
  intro fm A' hs a'
  dsimp only [List.zip_cons_cons, List.zip_nil_left, List.zip, List.zipWith]
  refine Ex.cons ?_
  refine Ex.ret ?_
  refine Ev.list T.G ?_
  walk_at "W"
  refine Ev.comp a' (x := "x") [] (J := fun i acc σ' => σ' = σ ∧ acc = ((ns.take i).map absI).map .int) ?C ?_
  case C => exact .plain rfl (by decide) (by decide) rfl
  walk_at "W"
  refine ⟨_, _, It.list, by simp only [List.length_map]; omega, ⟨rfl, rfl⟩, fun _ _ _ _ => Lq.arr _, ?_, ?_⟩
  · rintro fm' i v acc σ' hs' hv ⟨rfl, rfl⟩
    refine Ts.nil ?_
    rw [if_pos rfl]
    rw [List.getElem?_map] at hv
    cases hh : ns[i]? with
    | none => rw [hh] at hv; cases hv
    | some b =>
      rw [hh] at hv; cases hv
      walk_at "W"
      refine B.int ?_
      walk_at "W"
      refine B.abs ?_
      refine ⟨rfl, ?_⟩
      simp only [List.map_map]
      exact map_take_succ (f := V.int ∘ absI) hh
  · rintro acc σ' ⟨rfl, rfl⟩
    walk_at "W"
    refine ⟨by simp, ?_⟩
    rw [List.length_map, List.take_length]
    exact kk
def decO (bs : List Int) (i : Int) (m : V) : O := .inst 254 [(Str.ofString "_bytecode_array", .arr (bs.map .int)), (Str.ofString "_index", .int i), (Str.ofString "mnemonic_array", m)]
section
variable {c : Cx} {mg mb : Str → Option Value} {fm : Fm} {A : Around} {ρ : Ρ} {σ : List O} {k : Nat} {bs : List Int} {i : Int} {m : V} {K : V → List O → Prop} {KO : List O → Prop}
theorem set_at {o : O} (hk : k < σ.length) : (σ.set k o)[k]? = some o := by simp [hk]
theorem set_set {o o' : O} : (σ.set k o).set k o' = σ.set k o' := by simp
theorem dec_bytes (T : Tp c mg mb) (hk : k < σ.length) (kk : K (.arr (bs.map .int)) (σ.set k (decO bs i m))) : Op1 c A (fun x => getAttr x (Str.ofString "_bytecode_array") true) (.ref k) (σ.set k (decO bs i m)) K :=
  N.get (attr := none) T.G (set_at hk) rfl trivial (by rw [T.K]; k_is) (by rw [T.K]; k_is) (by rw [T.K]; k_is) rfl kk
theorem dec_index (T : Tp c mg mb) (hk : k < σ.length) (kk : K (.int i) (σ.set k (decO bs i m))) : Op1 c A (fun x => getAttr x (Str.ofString "_index") true) (.ref k) (σ.set k (decO bs i m)) K :=
  N.get (attr := none) T.G (set_at hk) rfl trivial (by rw [T.K]; k_is) (by rw [T.K]; k_is) (by rw [T.K]; k_is) rfl kk
theorem dec_marr (T : Tp c mg mb) (hk : k < σ.length) (hm : Hd m) (kk : K m (σ.set k (decO bs i m))) : Op1 c A (fun x => getAttr x (Str.ofString "mnemonic_array") true) (.ref k) (σ.set k (decO bs i m)) K :=
  N.get (attr := none) T.G (set_at hk) rfl hm (by rw [T.K]; k_is) (by rw [T.K]; k_is) (by rw [T.K]; k_is) rfl kk
theorem dec_setI (T : Tp c mg mb) (hk : k < σ.length) {j : Int} (kk : KO (σ.set k (decO bs j m))) : Op3 c A (fun x _ v => setAttr x (Str.ofString "_index") v) (.ref k) .none (.int j) (σ.set k (decO bs i m)) KO :=
  N.set T.G (set_at hk) (by simp) (by rw [T.K]; k_is) (by rw [T.K]; k_is) (by rw [T.K]; k_is) (by rw [T.K]; k_is) (by rw [set_set]; exact kk)
theorem dec_setM (T : Tp c mg mb) (hk : k < σ.length) {v : V} (kk : KO (σ.set k (decO bs i v))) : Op3 c A (fun x _ v => setAttr x (Str.ofString "mnemonic_array") v) (.ref k) .none v (σ.set k (decO bs i m)) KO :=
  N.set T.G (set_at hk) (by simp) (by rw [T.K]; k_is) (by rw [T.K]; k_is) (by rw [T.K]; k_is) (by rw [T.K]; k_is) (by rw [set_set]; exact kk)
theorem dec_item {value slice : Expr} {j : Nat} {b : Int} (hi : i = (j : Int)) (hb : bs[j]? = some b) (hj : j < 1000000) (kk : K (.int b) σ) (hs : ∀ o i, subscripted slice false o i = operate [o, i] (getItem o i) := by intros; with_unfolding_all rfl) : Op2 c A (subscriptTail value slice) (.arr (bs.map .int)) (.int i) σ K := by
  subst hi
  exact L.item (w := .int b) (.arr _) (by omega) (by omega) (by rw [List.getElem?_map, Int.toNat_natCast, hb]; rfl) kk hs
end
section
variable {c : Cx} {fm : Fm} {A : Around} {ρ : Ρ} {σ : List O} {K : V → List O → Prop} {KB : Bool → List O → Prop}
theorem bits_le {a n : Nat} (h : a < 2 ^ 60) (hn : n ≤ 100) : (Builtin.Int.intBits (a : Int) : Int) + (n : Int) ≤ 2 ^ 27 := by
  have : Builtin.Int.intBits (a : Int) ≤ 61 := by
    unfold Builtin.Int.intBits
    simp only [Int.natAbs_natCast]
    split
    · omega
    · rename_i h0
      have : a.log2 < 60 := (Nat.log2_lt (by simpa using h0)).mpr h
      omega
  have e : (2 : Int) ^ 27 = 134217728 := by decide
  omega
theorem bitOr_nat (a b : Nat) : Builtin.bitOr (a : Int) (b : Int) = ((a ||| b : Nat) : Int) := by
  have e : ∀ x : Nat, Builtin.bitNot (Builtin.bitNot (x : Int)) = x := fun x => by unfold Builtin.bitNot; omega
  have ng : ∀ x : Nat, decide (0 ≤ Builtin.bitNot (x : Int)) = false := fun x => by unfold Builtin.bitNot; simp; omega
  unfold Builtin.bitOr Builtin.bitAnd
  rw [ng, ng]
  simp only [e, Int.toNat_natCast]
theorem NI.and {a b : Nat} (k : K (.int ((a &&& b : Nat) : Int)) σ) : Op2 c A (binaryOp .BitAnd) (.int (a : Int)) (.int (b : Int)) σ K := I.and k
theorem NI.or {a b : Nat} (k : K (.int ((a ||| b : Nat) : Int)) σ) : Op2 c A (binaryOp .BitOr) (.int (a : Int)) (.int (b : Int)) σ K := I.or (by rw [bitOr_nat]; exact k)
theorem NI.shl {a n : Nat} (h : a < 2 ^ 60) (hn : n ≤ 100) (k : K (.int ((a * 2 ^ n : Nat) : Int)) σ) : Op2 c A (binaryOp .LShift) (.int (a : Int)) (.int (n : Int)) σ K :=
  I.shl (by omega) (bits_le h hn) (by rw [Int.toNat_natCast]; push_cast at k; exact k)
theorem NI.shr {a n : Nat} (k : K (.int ((a / 2 ^ n : Nat) : Int)) σ) : Op2 c A (binaryOp .RShift) (.int (a : Int)) (.int (n : Int)) σ K :=
  I.shr (by omega) (by rw [Int.toNat_natCast, Int.fdiv_eq_ediv_of_nonneg _ (Int.le_of_lt (Int.pow_pos (by decide)))]; rw [Int.natCast_ediv, Int.natCast_pow] at k; exact k)
theorem NI.add {a b : Nat} (k : K (.int ((a + b : Nat) : Int)) σ) : Op2 c A (binaryOp .Add) (.int (a : Int)) (.int (b : Int)) σ K := I.add (by push_cast at k; exact k)
theorem NI.sub {a b : Nat} (h : b ≤ a) (k : K (.int ((a - b : Nat) : Int)) σ) : Op2 c A (binaryOp .Sub) (.int (a : Int)) (.int (b : Int)) σ K := I.sub (by
  have e : ((a - b : Nat) : Int) = a - b := by omega
  rw [e] at k; exact k)
theorem Op2.ints {f : Value → Value → Sem Value} {a a' b b' : Int} (e : a = a') (e' : b = b') (h : Op2 c A f (.int a) (.int b) σ K) : Op2 c A f (.int a') (.int b') σ K := e ▸ e' ▸ h
theorem Op2.intR {f : Value → Value → Sem Value} {u : V} {b b' : Int} (e : b = b') (h : Op2 c A f u (.int b) σ K) : Op2 c A f u (.int b') σ K := e ▸ h
end
theorem Op2.bin0 {c : Cx} {A : Around} {op : Operator} {a b : V} {σ : List O} {K : V → List O → Prop} (h : Op2 c A (binaryOp op) a b σ K) : Op2 c A (binaryOp op) a b σ K := h
local macro_rules | `(tactic| walk_at "H") => `(tactic| repeat' (first | with_reducible refine Ex.cons ?_ | with_reducible refine Ex.nil ?_ | with_reducible refine Ex.if ?_ | with_reducible refine Ex.ret ?_ | with_reducible refine Ex.cont ?_ | with_reducible refine Ex.brk ?_ | ((with_reducible refine Ex.set ?_ ?hs); case hs => rfl) | ((with_reducible refine Ex.setSub ?_ ?hs); case hs => rfl) | ((with_reducible refine Ex.expr ?_ ?hs); case hs => rfl) | with_reducible refine Ev.name rfl ?_ | ((with_reducible refine Ev.call ?_ ?hp); case hp => rfl) | with_reducible refine Ev.int ?_ | with_reducible refine Ev.str ?_ | with_reducible refine Ev.bool ?_ | with_reducible refine Ev.none ?_ | with_reducible refine Ev.bin ?_ | with_reducible refine Ev.un ?_ | with_reducible refine Ev.ifexp ?_ | with_reducible refine Ev.sub ?_ | with_reducible refine Ev.slice ?_ | with_reducible refine Ev.partNone ?_ | with_reducible refine Ev.partSome ?_ | with_reducible refine Et.cmp ?_ | with_reducible refine Ev.cmp ?_ | with_reducible refine Et.not ?_ | with_reducible refine Et.and2 ?_ | with_reducible refine Et.or2 ?_ | with_reducible refine I.add ?_ | with_reducible refine I.sub ?_ | with_reducible refine I.eq ?_ | with_reducible refine I.ne ?_ | with_reducible refine I.lt ?_ | with_reducible refine I.gt ?_ | with_reducible refine I.ge ?_ | with_reducible refine I.neg ?_ | with_reducible refine T.bool ?_ | with_reducible refine Evs.nil ?_ | ((with_reducible refine Evs.cons ?_ ?he); (case he => rfl)) | ((with_reducible refine store_local ?h1 ?_); (case h1 => (rw [Env.kindOf, ‹Env.scope _ = _›]; rfl)); simp only [put, String.reduceEq, ↓reduceIte]) | (((with_reducible refine' Ev.blt (Tp.G (by assumption)) ?h1 ?h2 ?h3 ?_ ?h4 ?h5); (case h1 => (rw [Env.kindOf, ‹Env.scope _ = _›]; rfl)); (case h2 => exact Tp.none (by assumption) (by k_is)); (case h3 => first | exact boot_len | exact boot_abs | exact boot_int | exact boot_range | exact boot_bytes | exact boot_list | exact boot_dict | exact boot_sum | exact boot_sorted | exact boot_str | exact boot_getattr | exact boot_type); (case h4 => decide); (case h5 => decide)); first | refine ⟨_, rfl, Kp.builtin _, ?_⟩ | refine ⟨_, rfl, Kp.type _, ?_⟩) | (((with_reducible refine' Ev.glob (Tp.G (by assumption)) ?h1 ?h2 ?_ ?h4); (case h1 => (rw [Env.kindOf, ‹Env.scope _ = _›]; rfl)); (case h2 => exact Tp.glob (by assumption) (by k_is)); (case h4 => decide)); refine ⟨_, rfl, Kp.K (by assumption) (by k_is), ?_⟩) | ((with_reducible refine Ev.attr ?_ ?hattr); case hattr => with_unfolding_all rfl) | (with_reducible refine Ex.augAttr ?_) | (with_reducible refine dec_bytes (by assumption) (by assumption) ?_) | (with_reducible refine dec_index (by assumption) (by assumption) ?_) | (with_reducible refine dec_setI (by assumption) (by assumption) ?_) | ((with_reducible refine dec_item ?hi (by assumption) (by omega) ?_ ?hs); (case hi => first | rfl | omega); (case hs => intros; with_unfolding_all rfl)) | (with_reducible refine I.iadd ?_) | ((with_reducible refine IsP3g ?_); refine ⟨_, _, _, (by first | exact IsP.none | exact IsP.int _), (by first | exact IsP.none | exact IsP.int _), (by first | exact IsP.none | exact IsP.int _), ?_⟩) | ((with_reducible refine Op2.bin0 ?_); first | refine NI.and ?_ | refine NI.or ?_ | (refine NI.shl ?hlt (by decide) ?_; (case hlt => exact Nat.lt_of_lt_of_le (by assumption) (by decide))) | refine NI.shr ?_)))
def gprVals : List Value := [.str (Str.ofString "r0") 252, .str (Str.ofString "r1") 253, .str (Str.ofString "r2") 254, .str (Str.ofString "r3") 255, .str (Str.ofString "r4") 256, .str (Str.ofString "r5") 257, .str (Str.ofString "r6") 258, .str (Str.ofString "r7") 259, .str (Str.ofString "r8") 260, .str (Str.ofString "r9") 261, .str (Str.ofString "r10") 262, .str (Str.ofString "fp") 263, .str (Str.ofString "ip") 264, .str (Str.ofString "sp") 265, .str (Str.ofString "lr") 266, .str (Str.ofString "pc") 267]
theorem gpr_rv {c : Cx} {mg mb} (T : Tp c mg mb) {σ : List O} : ∀ ws s, Rel c ws σ s → RV c.P ws s.heap (.tup (gprL.map fun x => .str (Str.ofString x))) (.ref 64) := by
  intro ws s R
  refine tupK T.G R (vs := gprVals) (n := 0) (by rw [T.K]; k_is) ?_
  unfold gprL gprVals
  repeat (first | exact .nil | refine .cons _ _ _ _ (.str _ _) ?_)
theorem dec_gpr {c : Cx} {mg mb} (T : Tp c mg mb) {A : Around} {σ : List O} {k : Nat} {bs : List Int} {i : Int} {m : V} {K : V → List O → Prop} (hk : k < σ.length) (kk : K (.tup (gprL.map fun x => .str (Str.ofString x))) (σ.set k (decO bs i m))) : Op1 c A (fun x => getAttr x (Str.ofString "gpr_register_names") true) (.ref k) (σ.set k (decO bs i m)) K :=
  N.cls T.G (set_at hk) rfl (gpr_rv T) (by rw [T.K]; k_is) (by rw [T.K]; k_is) (by rw [T.K]; k_is) (by rw [T.K]; k_is) rfl (by decide) kk
def ringL : List (Nat × Nat × String × Nat) := [(192, 0, "_decode_00xxxxxx", 56), (192, 64, "_decode_01xxxxxx", 63), (240, 128, "_decode_1000iiii_iiiiiiii", 88), (255, 157, "_decode_10011101", 95), (255, 159, "_decode_10011111", 102), (240, 144, "_decode_1001nnnn", 109), (248, 160, "_decode_10100nnn", 116), (248, 168, "_decode_10101nnn", 123), (255, 176, "_decode_10110000", 130), (255, 177, "_decode_10110001_0000iiii", 137), (255, 178, "_decode_10110010_uleb128", 144), (255, 179, "_decode_10110011_sssscccc", 151), (252, 180, "_decode_101101nn", 158), (248, 184, "_decode_10111nnn", 165), (255, 198, "_decode_11000110_sssscccc", 172), (255, 199, "_decode_11000111_0000iiii", 179), (255, 200, "_decode_11001000_sssscccc", 186), (255, 201, "_decode_11001001_sssscccc", 193), (200, 200, "_decode_11001yyy", 200), (248, 192, "_decode_11000nnn", 207), (248, 208, "_decode_11010nnn", 214), (192, 192, "_decode_11xxxyyy", 221)]
def ringVals : List Value := [.ref 229, .ref 230, .ref 231, .ref 232, .ref 233, .ref 234, .ref 235, .ref 236, .ref 237, .ref 238, .ref 239, .ref 240, .ref 241, .ref 242, .ref 243, .ref 244, .ref 245, .ref 246, .ref 247, .ref 248, .ref 249, .ref 250]
def ringV (r : Nat × Nat × String × Nat) : V := .tup [.int (r.1 : Int), .int (r.2.1 : Int), .str (Str.ofString r.2.2.1)]
theorem ring_rv {c : Cx} {mg mb} (T : Tp c mg mb) {σ : List O} : ∀ ws s, Rel c ws σ s → RV c.P ws s.heap (.tup (ringL.map ringV)) (.ref 251) := by
  intro ws s R
  refine tupK T.G R (vs := ringVals) (n := 0) (by rw [T.K]; k_is) ?_
  unfold ringL ringVals
  refine .cons _ _ _ _ (tupK T.G R (vs := [.int 192 459, .int 0 460, .str (Str.ofString "_decode_00xxxxxx") 461]) (n := 0) (by rw [T.K]; k_is) (.cons _ _ _ _ (.int _ _) (.cons _ _ _ _ (.int _ _) (.cons _ _ _ _ (.str _ _) .nil)))) ?_
  refine .cons _ _ _ _ (tupK T.G R (vs := [.int 192 462, .int 64 463, .str (Str.ofString "_decode_01xxxxxx") 464]) (n := 0) (by rw [T.K]; k_is) (.cons _ _ _ _ (.int _ _) (.cons _ _ _ _ (.int _ _) (.cons _ _ _ _ (.str _ _) .nil)))) ?_
  refine .cons _ _ _ _ (tupK T.G R (vs := [.int 240 465, .int 128 466, .str (Str.ofString "_decode_1000iiii_iiiiiiii") 467]) (n := 0) (by rw [T.K]; k_is) (.cons _ _ _ _ (.int _ _) (.cons _ _ _ _ (.int _ _) (.cons _ _ _ _ (.str _ _) .nil)))) ?_
  refine .cons _ _ _ _ (tupK T.G R (vs := [.int 255 468, .int 157 469, .str (Str.ofString "_decode_10011101") 470]) (n := 0) (by rw [T.K]; k_is) (.cons _ _ _ _ (.int _ _) (.cons _ _ _ _ (.int _ _) (.cons _ _ _ _ (.str _ _) .nil)))) ?_
  refine .cons _ _ _ _ (tupK T.G R (vs := [.int 255 471, .int 159 472, .str (Str.ofString "_decode_10011111") 473]) (n := 0) (by rw [T.K]; k_is) (.cons _ _ _ _ (.int _ _) (.cons _ _ _ _ (.int _ _) (.cons _ _ _ _ (.str _ _) .nil)))) ?_
  refine .cons _ _ _ _ (tupK T.G R (vs := [.int 240 474, .int 144 475, .str (Str.ofString "_decode_1001nnnn") 476]) (n := 0) (by rw [T.K]; k_is) (.cons _ _ _ _ (.int _ _) (.cons _ _ _ _ (.int _ _) (.cons _ _ _ _ (.str _ _) .nil)))) ?_
  refine .cons _ _ _ _ (tupK T.G R (vs := [.int 248 477, .int 160 478, .str (Str.ofString "_decode_10100nnn") 479]) (n := 0) (by rw [T.K]; k_is) (.cons _ _ _ _ (.int _ _) (.cons _ _ _ _ (.int _ _) (.cons _ _ _ _ (.str _ _) .nil)))) ?_
  refine .cons _ _ _ _ (tupK T.G R (vs := [.int 248 480, .int 168 481, .str (Str.ofString "_decode_10101nnn") 482]) (n := 0) (by rw [T.K]; k_is) (.cons _ _ _ _ (.int _ _) (.cons _ _ _ _ (.int _ _) (.cons _ _ _ _ (.str _ _) .nil)))) ?_
  refine .cons _ _ _ _ (tupK T.G R (vs := [.int 255 483, .int 176 484, .str (Str.ofString "_decode_10110000") 485]) (n := 0) (by rw [T.K]; k_is) (.cons _ _ _ _ (.int _ _) (.cons _ _ _ _ (.int _ _) (.cons _ _ _ _ (.str _ _) .nil)))) ?_
  refine .cons _ _ _ _ (tupK T.G R (vs := [.int 255 486, .int 177 487, .str (Str.ofString "_decode_10110001_0000iiii") 488]) (n := 0) (by rw [T.K]; k_is) (.cons _ _ _ _ (.int _ _) (.cons _ _ _ _ (.int _ _) (.cons _ _ _ _ (.str _ _) .nil)))) ?_
  refine .cons _ _ _ _ (tupK T.G R (vs := [.int 255 489, .int 178 490, .str (Str.ofString "_decode_10110010_uleb128") 491]) (n := 0) (by rw [T.K]; k_is) (.cons _ _ _ _ (.int _ _) (.cons _ _ _ _ (.int _ _) (.cons _ _ _ _ (.str _ _) .nil)))) ?_
  refine .cons _ _ _ _ (tupK T.G R (vs := [.int 255 492, .int 179 493, .str (Str.ofString "_decode_10110011_sssscccc") 494]) (n := 0) (by rw [T.K]; k_is) (.cons _ _ _ _ (.int _ _) (.cons _ _ _ _ (.int _ _) (.cons _ _ _ _ (.str _ _) .nil)))) ?_
  refine .cons _ _ _ _ (tupK T.G R (vs := [.int 252 495, .int 180 496, .str (Str.ofString "_decode_101101nn") 497]) (n := 0) (by rw [T.K]; k_is) (.cons _ _ _ _ (.int _ _) (.cons _ _ _ _ (.int _ _) (.cons _ _ _ _ (.str _ _) .nil)))) ?_
  refine .cons _ _ _ _ (tupK T.G R (vs := [.int 248 498, .int 184 499, .str (Str.ofString "_decode_10111nnn") 500]) (n := 0) (by rw [T.K]; k_is) (.cons _ _ _ _ (.int _ _) (.cons _ _ _ _ (.int _ _) (.cons _ _ _ _ (.str _ _) .nil)))) ?_
  refine .cons _ _ _ _ (tupK T.G R (vs := [.int 255 501, .int 198 502, .str (Str.ofString "_decode_11000110_sssscccc") 503]) (n := 0) (by rw [T.K]; k_is) (.cons _ _ _ _ (.int _ _) (.cons _ _ _ _ (.int _ _) (.cons _ _ _ _ (.str _ _) .nil)))) ?_
  refine .cons _ _ _ _ (tupK T.G R (vs := [.int 255 504, .int 199 505, .str (Str.ofString "_decode_11000111_0000iiii") 506]) (n := 0) (by rw [T.K]; k_is) (.cons _ _ _ _ (.int _ _) (.cons _ _ _ _ (.int _ _) (.cons _ _ _ _ (.str _ _) .nil)))) ?_
  refine .cons _ _ _ _ (tupK T.G R (vs := [.int 255 507, .int 200 508, .str (Str.ofString "_decode_11001000_sssscccc") 509]) (n := 0) (by rw [T.K]; k_is) (.cons _ _ _ _ (.int _ _) (.cons _ _ _ _ (.int _ _) (.cons _ _ _ _ (.str _ _) .nil)))) ?_
  refine .cons _ _ _ _ (tupK T.G R (vs := [.int 255 510, .int 201 511, .str (Str.ofString "_decode_11001001_sssscccc") 512]) (n := 0) (by rw [T.K]; k_is) (.cons _ _ _ _ (.int _ _) (.cons _ _ _ _ (.int _ _) (.cons _ _ _ _ (.str _ _) .nil)))) ?_
  refine .cons _ _ _ _ (tupK T.G R (vs := [.int 200 513, .int 200 514, .str (Str.ofString "_decode_11001yyy") 515]) (n := 0) (by rw [T.K]; k_is) (.cons _ _ _ _ (.int _ _) (.cons _ _ _ _ (.int _ _) (.cons _ _ _ _ (.str _ _) .nil)))) ?_
  refine .cons _ _ _ _ (tupK T.G R (vs := [.int 248 516, .int 192 517, .str (Str.ofString "_decode_11000nnn") 518]) (n := 0) (by rw [T.K]; k_is) (.cons _ _ _ _ (.int _ _) (.cons _ _ _ _ (.int _ _) (.cons _ _ _ _ (.str _ _) .nil)))) ?_
  refine .cons _ _ _ _ (tupK T.G R (vs := [.int 248 519, .int 208 520, .str (Str.ofString "_decode_11010nnn") 521]) (n := 0) (by rw [T.K]; k_is) (.cons _ _ _ _ (.int _ _) (.cons _ _ _ _ (.int _ _) (.cons _ _ _ _ (.str _ _) .nil)))) ?_
  refine .cons _ _ _ _ (tupK T.G R (vs := [.int 192 522, .int 192 523, .str (Str.ofString "_decode_11xxxyyy") 524]) (n := 0) (by rw [T.K]; k_is) (.cons _ _ _ _ (.int _ _) (.cons _ _ _ _ (.int _ _) (.cons _ _ _ _ (.str _ _) .nil)))) ?_
  exact .nil
theorem dec_ring {c : Cx} {mg mb} (T : Tp c mg mb) {A : Around} {σ : List O} {k : Nat} {bs : List Int} {i : Int} {m : V} {K : V → List O → Prop} (hk : k < σ.length) (kk : K (.tup (ringL.map ringV)) (σ.set k (decO bs i m))) : Op1 c A (fun x => getAttr x (Str.ofString "ring") true) (.ref k) (σ.set k (decO bs i m)) K :=
  N.cls T.G (set_at hk) rfl (ring_rv T) (by rw [T.K]; k_is) (by rw [T.K]; k_is) (by rw [T.K]; k_is) (by rw [T.K]; k_is) rfl (by decide) kk
theorem range_spec {c : Cx} {mg mb} (T : Tp c mg mb) {A : Around} {n : Nat} (a : AOk A (n + 1)) {σ : List O} {v : V} {x y : Nat} (hx : x < 50) (hy : y < 50)
    {K : V → List O → Prop} (kk : K (.int (((2 ^ (y + 1) - 1) * 2 ^ x : Nat) : Int)) σ) : Cl c A (.ref 71) [v, .int (x : Int), .int (y : Int)] σ K := by
  refine Cl.def T.G (Def.mk' T.G (by rw [T.K]; k_is) (by rw [T.K]; k_is) ?_ (by decide)) (xs := ["self", "start", "count"]) a rfl (by decide) (by decide) ?_
  · intro vals hl
    match vals, hl with
    | [a, b, c], _ => rfl
  intro fm A' hs a'
  dsimp only [List.zip_cons_cons, List.zip_nil_left, List.zip, List.zipWith]
  walk_at "W"
  refine Op2.ints (a := ((1 : Nat) : Int)) (b := ((y + 1 : Nat) : Int)) rfl (by omega) ?_
  refine NI.shl (by decide) (by omega) ?_
  walk_at "W"
  have h1 : 1 ≤ 2 ^ (y + 1) := Nat.one_le_two_pow
  have h2 : 2 ^ (y + 1) ≤ 2 ^ 50 := Nat.pow_le_pow_right (by decide) (by omega)
  refine Op2.ints (a := ((2 ^ (y + 1) - 1 : Nat) : Int)) (b := (x : Int)) (by omega) rfl ?_
  refine NI.shl (by omega) (by omega) ?_
  exact kk
theorem gpr_spec {c : Cx} {mg mb} (T : Tp c mg mb) {A : Around} {n : Nat} (a : AOk A (n + 1)) {σ : List O} {k : Nat} (hk : k < σ.length) {bs : List Int} {j : Int} {m : V} {x : Nat} (hx : x < 65536)
    {K : V → List O → Prop} (kk : K (.str (brace ((bits x 32).map gprN))) (σ.set k (decO bs j m))) : Cl c A (.ref 76) [.ref k, .int (x : Int)] (σ.set k (decO bs j m)) K := by
  refine Cl.defC T.G (Def.mk' T.G (by rw [T.K]; k_is) (by rw [T.K]; k_is) ?_ (by decide)) (xs := ["self", "gpr_mask"]) a rfl ?_ (by decide) ?_
  · intro vals hl
    match vals, hl with
    | [a, b], _ => rfl
  · intro vals hl
    match vals, hl with
    | [a, b], _ => rfl
  intro fm A' hs a' hcell
  dsimp only [List.zip_cons_cons, List.zip_nil_left, List.zip, List.zipWith]
  have bound : ∀ i, x.testBit i = true → i < 16 := fun i h => by
    by_cases q : i < 16
    · exact q
    · exact absurd h (by rw [Nat.testBit_lt_two_pow (Nat.lt_of_lt_of_le hx (Nat.pow_le_pow_right (n := 2) (by decide) (show 16 ≤ i by omega)))]; simp)
  refine Ex.cons ?_
  refine Ex.setComp a' (x := "i") (y := "hits") [("self", .ref k), ("gpr_mask", .int x)] (J := fun i acc σ' => σ' = σ.set k (decO bs j m) ∧ acc = ((bits x i).map gprN).map .str) ?C ?_ ?hsw
  case hsw =>
    simp only [swapsWith, Env.blockKind, Env.kindOf, hs]
    rfl
  case C => exact .free2 _ _ _ _ rfl (by decide) (by decide) rfl (by decide) (by decide) rfl rfl (by rw [Env.kindOf, hs]; decide) rfl rfl (by rw [Env.kindOf, hs]; decide)
  walk_at "H"
  refine B.range ?_
  refine ⟨_, _, It.range0 (n := 32) rfl (by decide), by decide, ⟨rfl, rfl⟩, fun _ _ _ _ => trivial, ?_, ?_⟩
  · rintro fm' i v acc σ' hs' hv ⟨rfl, rfl⟩
    obtain ⟨hi, rfl⟩ := rngL_get hv
    refine Ts.one ?_
    walk_at "H"
    refine Op2.ints (a := ((1 : Nat) : Int)) (b := (i : Int)) rfl (by omega) ?_
    refine NI.shl (by decide) (by omega) ?_
    refine NI.and ?_
    walk_at "H"
    rw [test_bit]
    with_reducible refine ifb (fun q => ?_) (fun q => ?_)
    · have hi16 := bound i q
      walk_at "H"
      refine dec_gpr T hk ?_
      walk_at "H"
      refine L.item (w := .str (gprN i)) (.tup _) (by omega) (by omega) ?_ ?_ ?hs
      case hs => intros; with_unfolding_all rfl
      · rw [show (0 + (i : Int)).toNat = i by omega, List.getElem?_map]
        have : ∀ i < 16, gprL[i]? = some (gprL.getD i "") := by decide
        rw [this i hi16]; rfl
      · refine ⟨rfl, ?_⟩
        rw [bits_succ, if_pos q, List.map_append, List.map_append]; rfl
    · refine ⟨rfl, ?_⟩
      rw [bits_succ, if_neg (by simp [q])]
  · rintro acc σ' ⟨rfl, rfl⟩
    walk_at "H"
    refine Ev.meth ?_
    walk_at "H"
    refine ⟨_, Mt.join, Kp.builtin _, ?_⟩
    walk_at "H"
    refine B.join (xs := (bits x 32).map gprN) (Lq.lst _) ?_ ?_
    · exact join_ok (names_g x).1 (names_g x).2
    refine X.pctBrace (Nat.le_trans (join_len (names_g x).1 (names_g x).2) (by decide)) ?_
    exact kk
theorem regs_spec {c : Cx} {mg mb} (T : Tp c mg mb) {A : Around} {n : Nat} (a : AOk A (n + 1)) {σ : List O} {v : V} {x : Nat} (hx : x < 2 ^ 60) {p : Str} (hp : p.length ≤ 8)
    {K : V → List O → Prop} (kk : K (.str (brace ((bits x 32).map (prN p)))) σ) : Cl c A (.ref 81) [v, .int (x : Int), .str p] σ K := by
  refine Cl.defC T.G (Def.mk' T.G (by rw [T.K]; k_is) (by rw [T.K]; k_is) ?_ (by decide)) (xs := ["self", "vfp_mask", "prefix"]) a rfl ?_ (by decide) ?_
  · intro vals hl
    match vals, hl with
    | [a, b, c], _ => rfl
  · intro vals hl
    match vals, hl with
    | [a, b, c], _ => rfl
  intro fm A' hs a' hcell
  dsimp only [List.zip_cons_cons, List.zip_nil_left, List.zip, List.zipWith]
  refine Ex.cons ?_
  refine Ex.setComp a' (x := "i") (y := "hits") [("vfp_mask", .int x), ("prefix", .str p)] (J := fun i acc σ' => σ' = σ ∧ acc = ((bits x i).map (prN p)).map .str) ?C ?_ ?hsw
  case hsw =>
    simp only [swapsWith, Env.blockKind, Env.kindOf, hs]
    rfl
  case C => exact .free2 _ _ _ _ rfl (by decide) (by decide) rfl (by decide) (by decide) rfl rfl (by rw [Env.kindOf, hs]; decide) rfl rfl (by rw [Env.kindOf, hs]; decide)
  walk_at "H"
  refine B.range ?_
  refine ⟨_, _, It.range0 (n := 32) rfl (by decide), by decide, ⟨rfl, rfl⟩, fun _ _ _ _ => trivial, ?_, ?_⟩
  · rintro fm' i v acc σ' hs' hv ⟨rfl, rfl⟩
    obtain ⟨hi, rfl⟩ := rngL_get hv
    refine Ts.one ?_
    walk_at "H"
    refine Op2.ints (a := ((1 : Nat) : Int)) (b := (i : Int)) rfl (by omega) ?_
    refine NI.shl (by decide) (by omega) ?_
    refine NI.and ?_
    walk_at "H"
    rw [test_bit]
    with_reducible refine ifb (fun q => ?_) (fun q => ?_)
    · walk_at "H"
      rw [Int.zero_add]
      refine B.str (small_log (by omega) (by omega)) ?_
      have hi' := num_len (number := (i : Int)) (by omega) (by omega)
      refine X.strAdd (by omega) ?_
      refine ⟨rfl, ?_⟩
      rw [bits_succ, if_pos q, List.map_append, List.map_append]; rfl
    · refine ⟨rfl, ?_⟩
      rw [bits_succ, if_neg (by simp [q])]
  · rintro acc σ' ⟨rfl, rfl⟩
    walk_at "H"
    refine Ev.meth ?_
    walk_at "H"
    refine ⟨_, Mt.join, Kp.builtin _, ?_⟩
    walk_at "H"
    refine B.join (xs := (bits x 32).map (prN p)) (Lq.lst _) ?_ ?_
    · exact join_ok (names_p hp x).1 (names_p hp x).2
    refine X.pctBrace (Nat.le_trans (join_len (names_p hp x).1 (names_p hp x).2) (by decide)) ?_
    exact kk
theorem nz {z : Nat} (h : ((z : Int) == 0) = true) : z = 0 := by
  have := eq_of_beq h
  omega
local macro_rules | `(tactic| walk_at "m71") => `(tactic| (refine ⟨.ref 71, Mt.inst (Tp.G (by assumption)) (set_at (by assumption)) rfl (by rw [Tp.K (by assumption)]; k_is) (by rw [Tp.K (by assumption)]; k_is) (by rw [Tp.K (by assumption)]; k_is), Kp.K (by assumption) (by k_is), ?_⟩))
theorem rng_lt {y : Nat} (hy : y < 8) (s : Nat) (hs : s ≤ 4) : (2 ^ (y + 1) - 1) * 2 ^ s < 65536 := by
  have h1 : 2 ^ (y + 1) ≤ 2 ^ 8 := Nat.pow_le_pow_right (by decide) (by omega)
  have h2 : 2 ^ s ≤ 2 ^ 4 := Nat.pow_le_pow_right (by decide) hs
  have h3 : (2 ^ (y + 1) - 1) * 2 ^ s ≤ 255 * 16 := Nat.mul_le_mul (by omega) (by omega)
  omega
theorem rng_lt' {y s : Nat} (hy : y < 16) (hs : s ≤ 31) : (2 ^ (y + 1) - 1) * 2 ^ s < 2 ^ 60 := by
  have h1 : 2 ^ (y + 1) ≤ 2 ^ 16 := Nat.pow_le_pow_right (by decide) (by omega)
  have h2 : 2 ^ s ≤ 2 ^ 31 := Nat.pow_le_pow_right (by decide) hs
  have h3 : (2 ^ (y + 1) - 1) * 2 ^ s ≤ 65535 * 2 ^ 31 := Nat.mul_le_mul (by omega) (by omega)
  omega

theorem h00 {c : Cx} {mg mb} (T : Tp c mg mb) {A : Around} {n : Nat} (a : AOk A (n + 1)) {σ : List O} {k : Nat} (hk : k < σ.length) {bs : List Int} {j : Nat} {m : V} (hj : j < 100000) {x : Nat} (hb : bs[j]? = some (x : Int)) (hx : x &&& 63 < 64)
    {K : V → List O → Prop} (kk : K (.str (Str.ofString "vsp = vsp + " ++ Str.ofString (toString (4 * (x &&& 63 : Nat) + 4 : Int)))) (σ.set k (decO bs (j + 1) m))) : Cc c A (.ref 56) [.ref k] (σ.set k (decO bs j m)) K := by
  refine Cc.def T.G (Def.mk' T.G (by rw [T.K]; k_is) (by rw [T.K]; k_is) ?_ (by decide)) (xs := ["self"]) a rfl (by decide) (by decide) ?_
  · intro vals hl
    match vals, hl with
    | [a], _ => rfl
  intro fm A' hs a'
  dsimp only [List.zip_cons_cons, List.zip_nil_left, List.zip, List.zipWith]
  walk_at "H"
  refine Op2.intR (b := 4 * (x &&& 63 : Nat) + 4) (by exact (by omega : 4 * ((x &&& 63 : Nat) : Int) + 4 = (((x &&& 63) * 2 ^ 2 : Nat) : Int) + 4)) ?_
  exact X.pctAdd (by omega) (by omega) kk

theorem h01 {c : Cx} {mg mb} (T : Tp c mg mb) {A : Around} {n : Nat} (a : AOk A (n + 1)) {σ : List O} {k : Nat} (hk : k < σ.length) {bs : List Int} {j : Nat} {m : V} (hj : j < 100000) {x : Nat} (hb : bs[j]? = some (x : Int)) (hx : x &&& 63 < 64)
    {K : V → List O → Prop} (kk : K (.str (Str.ofString "vsp = vsp - " ++ Str.ofString (toString (4 * (x &&& 63 : Nat) + 4 : Int)))) (σ.set k (decO bs (j + 1) m))) : Cc c A (.ref 63) [.ref k] (σ.set k (decO bs j m)) K := by
  refine Cc.def T.G (Def.mk' T.G (by rw [T.K]; k_is) (by rw [T.K]; k_is) ?_ (by decide)) (xs := ["self"]) a rfl (by decide) (by decide) ?_
  · intro vals hl
    match vals, hl with
    | [a], _ => rfl
  intro fm A' hs a'
  dsimp only [List.zip_cons_cons, List.zip_nil_left, List.zip, List.zipWith]
  walk_at "H"
  refine Op2.intR (b := 4 * (x &&& 63 : Nat) + 4) (by exact (by omega : 4 * ((x &&& 63 : Nat) : Int) + 4 = (((x &&& 63) * 2 ^ 2 : Nat) : Int) + 4)) ?_
  exact X.pctSub (by omega) (by omega) kk

theorem h1001 {c : Cx} {mg mb} (T : Tp c mg mb) {A : Around} {n : Nat} (a : AOk A (n + 1)) {σ : List O} {k : Nat} (hk : k < σ.length) {bs : List Int} {j : Nat} {m : V} (hj : j < 100000) {x : Nat} (hb : bs[j]? = some (x : Int)) (hx : x &&& 15 < 16)
    {K : V → List O → Prop} (kk : K (.str (Str.ofString "vsp = r" ++ Str.ofString (toString ((x &&& 15 : Nat) : Int)))) (σ.set k (decO bs (j + 1) m))) : Cc c A (.ref 109) [.ref k] (σ.set k (decO bs j m)) K := by
  refine Cc.def T.G (Def.mk' T.G (by rw [T.K]; k_is) (by rw [T.K]; k_is) ?_ (by decide)) (xs := ["self"]) a rfl (by decide) (by decide) ?_
  · intro vals hl
    match vals, hl with
    | [a], _ => rfl
  intro fm A' hs a'
  dsimp only [List.zip_cons_cons, List.zip_nil_left, List.zip, List.zipWith]
  walk_at "H"
  refine Op2.intR (b := ((x &&& 15 : Nat) : Int)) rfl ?_
  exact X.pctReg (by omega) (by omega) kk

theorem hfin {c : Cx} {mg mb} (T : Tp c mg mb) {A : Around} {n : Nat} (a : AOk A (n + 1)) {σ : List O} {k : Nat} (hk : k < σ.length) {bs : List Int} {j : Nat} {m : V} (hj : j < 100000)
    {K : V → List O → Prop} (kk : K (.str (Str.ofString "finish")) (σ.set k (decO bs (j + 1) m))) : Cc c A (.ref 130) [.ref k] (σ.set k (decO bs j m)) K := by
  refine Cc.def T.G (Def.mk' T.G (by rw [T.K]; k_is) (by rw [T.K]; k_is) ?_ (by decide)) (xs := ["self"]) a rfl (by decide) (by decide) ?_
  · intro vals hl
    match vals, hl with
    | [a], _ => rfl
  intro fm A' hs a'
  dsimp only [List.zip_cons_cons, List.zip_nil_left, List.zip, List.zipWith]
  walk_at "H"
  exact kk

theorem h160 {c : Cx} {mg mb} (T : Tp c mg mb) {A : Around} {n : Nat} (a : AOk A (n + 2)) {σ : List O} {k : Nat} (hk : k < σ.length) {bs : List Int} {j : Nat} {m : V} (hj : j < 100000) {x : Nat} (hb : bs[j]? = some (x : Int)) (hx : x &&& 7 < 8)
    {K : V → List O → Prop} (kk : K (.str (popT ((bits ((2 ^ ((x &&& 7) + 1) - 1) * 2 ^ 4) 32).map gprN))) (σ.set k (decO bs (j + 1) m))) : Cc c A (.ref 116) [.ref k] (σ.set k (decO bs j m)) K := by
  refine Cc.def T.G (Def.mk' T.G (by rw [T.K]; k_is) (by rw [T.K]; k_is) ?_ (by decide)) (xs := ["self"]) a rfl (by decide) (by decide) ?_
  · intro vals hl
    match vals, hl with
    | [a], _ => rfl
  intro fm A' hs a'
  dsimp only [List.zip_cons_cons, List.zip_nil_left, List.zip, List.zipWith]
  walk_at "H"
  refine Ev.meth ?_
  walk_at "H"
  refine ⟨.ref 76, Mt.inst T.G (set_at hk) rfl (by rw [T.K]; k_is) (by rw [T.K]; k_is) (by rw [T.K]; k_is), Kp.K T (by k_is), ?_⟩
  walk_at "H"
  refine Ev.meth ?_
  walk_at "H"
  refine ⟨.ref 71, Mt.inst T.G (set_at hk) rfl (by rw [T.K]; k_is) (by rw [T.K]; k_is) (by rw [T.K]; k_is), Kp.K T (by k_is), ?_⟩
  walk_at "H"
  refine range_spec T a' (x := 4) (y := x &&& 7) (by omega) (by omega) ?_
  walk_at "H"
  have lt := rng_lt hx 4 (by omega)
  refine gpr_spec T a' hk (x := (2 ^ ((x &&& 7) + 1) - 1) * 2 ^ 4) lt ?_
  have nl := names_g ((2 ^ ((x &&& 7) + 1) - 1) * 2 ^ 4)
  exact X.pctPop (Nat.le_trans (brace_len nl.1 nl.2) (by decide)) kk

theorem h168 {c : Cx} {mg mb} (T : Tp c mg mb) {A : Around} {n : Nat} (a : AOk A (n + 2)) {σ : List O} {k : Nat} (hk : k < σ.length) {bs : List Int} {j : Nat} {m : V} (hj : j < 100000) {x : Nat} (hb : bs[j]? = some (x : Int)) (hx : x &&& 7 < 8)
    {K : V → List O → Prop} (kk : K (.str (popT ((bits (((2 ^ ((x &&& 7) + 1) - 1) * 2 ^ 4) ||| 1 * 2 ^ 14) 32).map gprN))) (σ.set k (decO bs (j + 1) m))) : Cc c A (.ref 123) [.ref k] (σ.set k (decO bs j m)) K := by
  refine Cc.def T.G (Def.mk' T.G (by rw [T.K]; k_is) (by rw [T.K]; k_is) ?_ (by decide)) (xs := ["self"]) a rfl (by decide) (by decide) ?_
  · intro vals hl
    match vals, hl with
    | [a], _ => rfl
  intro fm A' hs a'
  dsimp only [List.zip_cons_cons, List.zip_nil_left, List.zip, List.zipWith]
  walk_at "H"
  refine Ev.meth ?_
  walk_at "H"
  refine ⟨.ref 76, Mt.inst T.G (set_at hk) rfl (by rw [T.K]; k_is) (by rw [T.K]; k_is) (by rw [T.K]; k_is), Kp.K T (by k_is), ?_⟩
  walk_at "H"
  refine Ev.meth ?_
  walk_at "H"
  refine ⟨.ref 71, Mt.inst T.G (set_at hk) rfl (by rw [T.K]; k_is) (by rw [T.K]; k_is) (by rw [T.K]; k_is), Kp.K T (by k_is), ?_⟩
  walk_at "H"
  refine range_spec T a' (x := 4) (y := x &&& 7) (by omega) (by omega) ?_
  walk_at "H"
  refine Op2.ints (a := ((1 : Nat) : Int)) (b := ((14 : Nat) : Int)) rfl rfl ?_
  refine NI.shl (by decide) (by omega) ?_
  refine NI.or ?_
  walk_at "H"
  have lt := rng_lt hx 4 (by omega)
  refine gpr_spec T a' hk (x := ((2 ^ ((x &&& 7) + 1) - 1) * 2 ^ 4) ||| 1 * 2 ^ 14) (Nat.or_lt_two_pow (n := 16) lt (by decide)) ?_
  have nl := names_g (((2 ^ ((x &&& 7) + 1) - 1) * 2 ^ 4) ||| 1 * 2 ^ 14)
  exact X.pctPop (Nat.le_trans (brace_len nl.1 nl.2) (by decide)) kk

theorem h128 {c : Cx} {mg mb} (T : Tp c mg mb) {A : Around} {n : Nat} (a : AOk A (n + 2)) {σ : List O} {k : Nat} (hk : k < σ.length) {bs : List Int} {j : Nat} {m : V} (hj : j < 100000) {x y : Nat} (hb : bs[j]? = some (x : Int)) (hb1 : bs[j + 1]? = some (y : Int)) (hx : x &&& 15 < 16) (hy : y < 256) (hne : (y * 2 ^ 4) ||| ((x &&& 15) * 2 ^ 12) ≠ 0)
    {K : V → List O → Prop} (kk : K (.str (popT ((bits ((y * 2 ^ 4) ||| ((x &&& 15) * 2 ^ 12)) 32).map gprN))) (σ.set k (decO bs (j + 2) m))) : Cc c A (.ref 88) [.ref k] (σ.set k (decO bs j m)) K := by
  refine Cc.def T.G (Def.mk' T.G (by rw [T.K]; k_is) (by rw [T.K]; k_is) ?_ (by decide)) (xs := ["self"]) a rfl (by decide) (by decide) ?_
  · intro vals hl
    match vals, hl with
    | [a], _ => rfl
  intro fm A' hs a'
  dsimp only [List.zip_cons_cons, List.zip_nil_left, List.zip, List.zipWith]
  walk_at "H"
  refine dec_item rfl hb (by omega) ?_ ?hs
  case hs => intros; with_unfolding_all rfl
  walk_at "H"
  with_reducible refine ifb (fun q => ?_) (fun q => ?_)
  · exact absurd (nz q) hne
  walk_at "H"
  refine Ev.meth ?_
  walk_at "H"
  refine ⟨.ref 76, Mt.inst T.G (set_at hk) rfl (by rw [T.K]; k_is) (by rw [T.K]; k_is) (by rw [T.K]; k_is), Kp.K T (by k_is), ?_⟩
  walk_at "H"
  rw [Int.add_assoc]
  refine gpr_spec T a' hk (x := (y * 2 ^ 4) ||| ((x &&& 15) * 2 ^ 12)) (Nat.or_lt_two_pow (n := 16) (by omega) (by omega)) ?_
  have nl := names_g ((y * 2 ^ 4) ||| ((x &&& 15) * 2 ^ 12))
  exact X.pctPop (Nat.le_trans (brace_len nl.1 nl.2) (by decide)) kk

theorem h177 {c : Cx} {mg mb} (T : Tp c mg mb) {A : Around} {n : Nat} (a : AOk A (n + 2)) {σ : List O} {k : Nat} (hk : k < σ.length) {bs : List Int} {j : Nat} {m : V} (hj : j < 100000) {y : Nat} (hb1 : bs[j + 1]? = some (y : Int)) (hy : y &&& 15 < 16) (h0 : y &&& 240 = 0) (hne : y ≠ 0)
    {K : V → List O → Prop} (kk : K (.str (popT ((bits (y &&& 15) 32).map gprN))) (σ.set k (decO bs (j + 2) m))) : Cc c A (.ref 137) [.ref k] (σ.set k (decO bs j m)) K := by
  refine Cc.def T.G (Def.mk' T.G (by rw [T.K]; k_is) (by rw [T.K]; k_is) ?_ (by decide)) (xs := ["self"]) a rfl (by decide) (by decide) ?_
  · intro vals hl
    match vals, hl with
    | [a], _ => rfl
  intro fm A' hs a'
  dsimp only [List.zip_cons_cons, List.zip_nil_left, List.zip, List.zipWith]
  walk_at "H"
  rw [h0]
  with_reducible refine ifb (fun q => ?_) (fun q => ?_)
  · exact absurd q (by decide)
  walk_at "H"
  with_reducible refine ifb (fun q => ?_) (fun q => ?_)
  · exact absurd (nz q) hne
  walk_at "H"
  refine Ev.meth ?_
  walk_at "H"
  refine ⟨.ref 76, Mt.inst T.G (set_at hk) rfl (by rw [T.K]; k_is) (by rw [T.K]; k_is) (by rw [T.K]; k_is), Kp.K T (by k_is), ?_⟩
  walk_at "H"
  rw [Int.add_assoc]
  refine gpr_spec T a' hk (x := y &&& 15) (by omega) ?_
  have nl := names_g (y &&& 15)
  exact X.pctPop (Nat.le_trans (brace_len nl.1 nl.2) (by decide)) kk

theorem h199 {c : Cx} {mg mb} (T : Tp c mg mb) {A : Around} {n : Nat} (a : AOk A (n + 2)) {σ : List O} {k : Nat} (hk : k < σ.length) {bs : List Int} {j : Nat} {m : V} (hj : j < 100000) {y : Nat} (hb1 : bs[j + 1]? = some (y : Int)) (hy : y &&& 15 < 16) (h0 : y &&& 240 = 0) (hne : y ≠ 0)
    {K : V → List O → Prop} (kk : K (.str (popT ((bits (y &&& 15) 32).map (prN (Str.ofString "wCGR"))))) (σ.set k (decO bs (j + 2) m))) : Cc c A (.ref 179) [.ref k] (σ.set k (decO bs j m)) K := by
  refine Cc.def T.G (Def.mk' T.G (by rw [T.K]; k_is) (by rw [T.K]; k_is) ?_ (by decide)) (xs := ["self"]) a rfl (by decide) (by decide) ?_
  · intro vals hl
    match vals, hl with
    | [a], _ => rfl
  intro fm A' hs a'
  dsimp only [List.zip_cons_cons, List.zip_nil_left, List.zip, List.zipWith]
  walk_at "H"
  rw [h0]
  with_reducible refine ifb (fun q => ?_) (fun q => ?_)
  · exact absurd q (by decide)
  walk_at "H"
  with_reducible refine ifb (fun q => ?_) (fun q => ?_)
  · exact absurd (nz q) hne
  walk_at "H"
  refine Ev.meth ?_
  walk_at "H"
  refine ⟨.ref 81, Mt.inst T.G (set_at hk) rfl (by rw [T.K]; k_is) (by rw [T.K]; k_is) (by rw [T.K]; k_is), Kp.K T (by k_is), ?_⟩
  walk_at "H"
  rw [Int.add_assoc]
  refine regs_spec T a' (x := y &&& 15) (by omega) (by decide +kernel) ?_
  have nl := names_p (q := Str.ofString "wCGR") (by decide +kernel) (y &&& 15)
  exact X.pctPop (Nat.le_trans (brace_len nl.1 nl.2) (by decide)) kk

theorem h184 {c : Cx} {mg mb} (T : Tp c mg mb) {A : Around} {n : Nat} (a : AOk A (n + 2)) {σ : List O} {k : Nat} (hk : k < σ.length) {bs : List Int} {j : Nat} {m : V} (hj : j < 100000) {x : Nat} (hb : bs[j]? = some (x : Int)) (hx : x &&& 7 < 8)
    {K : V → List O → Prop} (kk : K (.str (popT ((bits ((2 ^ ((x &&& 7) + 1) - 1) * 2 ^ 8) 32).map (prN (Str.ofString "d"))))) (σ.set k (decO bs (j + 1) m))) : Cc c A (.ref 165) [.ref k] (σ.set k (decO bs j m)) K := by
  refine Cc.def T.G (Def.mk' T.G (by rw [T.K]; k_is) (by rw [T.K]; k_is) ?_ (by decide)) (xs := ["self"]) a rfl (by decide) (by decide) ?_
  · intro vals hl
    match vals, hl with
    | [a], _ => rfl
  intro fm A' hs a'
  dsimp only [List.zip_cons_cons, List.zip_nil_left, List.zip, List.zipWith]
  walk_at "H"
  refine Ev.meth ?_
  walk_at "H"
  refine ⟨.ref 81, Mt.inst T.G (set_at hk) rfl (by rw [T.K]; k_is) (by rw [T.K]; k_is) (by rw [T.K]; k_is), Kp.K T (by k_is), ?_⟩
  walk_at "H"
  refine Ev.meth ?_
  walk_at "H"
  refine ⟨.ref 71, Mt.inst T.G (set_at hk) rfl (by rw [T.K]; k_is) (by rw [T.K]; k_is) (by rw [T.K]; k_is), Kp.K T (by k_is), ?_⟩
  walk_at "H"
  refine range_spec T a' (x := 8) (y := x &&& 7) (by omega) (by omega) ?_
  walk_at "H"
  refine regs_spec T a' (x := (2 ^ ((x &&& 7) + 1) - 1) * 2 ^ 8) (rng_lt' (by omega) (by omega)) (by decide +kernel) ?_
  have nl := names_p (q := Str.ofString "d") (by decide +kernel) ((2 ^ ((x &&& 7) + 1) - 1) * 2 ^ 8)
  exact X.pctPop (Nat.le_trans (brace_len nl.1 nl.2) (by decide)) kk

theorem h208 {c : Cx} {mg mb} (T : Tp c mg mb) {A : Around} {n : Nat} (a : AOk A (n + 3)) {σ : List O} {k : Nat} (hk : k < σ.length) {bs : List Int} {j : Nat} {m : V} (hj : j < 100000) {x : Nat} (hb : bs[j]? = some (x : Int)) (hx : x &&& 7 < 8)
    {K : V → List O → Prop} (kk : K (.str (popT ((bits ((2 ^ ((x &&& 7) + 1) - 1) * 2 ^ 8) 32).map (prN (Str.ofString "d"))))) (σ.set k (decO bs (j + 1) m))) : Cc c A (.ref 214) [.ref k] (σ.set k (decO bs j m)) K := by
  refine Cc.def T.G (Def.mk' T.G (by rw [T.K]; k_is) (by rw [T.K]; k_is) ?_ (by decide)) (xs := ["self"]) a rfl (by decide) (by decide) ?_
  · intro vals hl
    match vals, hl with
    | [a], _ => rfl
  intro fm A' hs a'
  dsimp only [List.zip_cons_cons, List.zip_nil_left, List.zip, List.zipWith]
  walk_at "H"
  refine Ev.meth ?_
  walk_at "H"
  refine ⟨.ref 165, Mt.inst T.G (set_at hk) rfl (by rw [T.K]; k_is) (by rw [T.K]; k_is) (by rw [T.K]; k_is), Kp.K T (by k_is), ?_⟩
  walk_at "H"
  exact .of_Cc (h184 T a' hk hj hb hx kk)

theorem h198 {c : Cx} {mg mb} (T : Tp c mg mb) {A : Around} {n : Nat} (a : AOk A (n + 2)) {σ : List O} {k : Nat} (hk : k < σ.length) {bs : List Int} {j : Nat} {m : V} (hj : j < 100000) {y : Nat} (hb1 : bs[j + 1]? = some (y : Int)) (hy : y < 256)
    {K : V → List O → Prop} (kk : K (.str (popT ((bits ((2 ^ ((y &&& 15) / 2 ^ 0 + 1) - 1) * 2 ^ ((y &&& 240) / 2 ^ 4)) 32).map (prN (Str.ofString "wR"))))) (σ.set k (decO bs (j + 2) m))) : Cc c A (.ref 172) [.ref k] (σ.set k (decO bs j m)) K := by
  refine Cc.def T.G (Def.mk' T.G (by rw [T.K]; k_is) (by rw [T.K]; k_is) ?_ (by decide)) (xs := ["self"]) a rfl (by decide) (by decide) ?_
  · intro vals hl
    match vals, hl with
    | [a], _ => rfl
  intro fm A' hs a'
  dsimp only [List.zip_cons_cons, List.zip_nil_left, List.zip, List.zipWith]
  have y1 : y &&& 240 < 2 ^ 8 := Nat.and_lt_two_pow y (by decide)
  have y2 : y &&& 15 < 2 ^ 4 := Nat.and_lt_two_pow y (by decide)
  have y3 : (y &&& 240) / 2 ^ 4 < 16 := by omega
  have y4 : (y &&& 15) / 2 ^ 0 < 16 := by omega
  walk_at "H"
  refine Ev.meth ?_
  walk_at "H"
  refine ⟨.ref 81, Mt.inst T.G (set_at hk) rfl (by rw [T.K]; k_is) (by rw [T.K]; k_is) (by rw [T.K]; k_is), Kp.K T (by k_is), ?_⟩
  walk_at "H"
  refine Ev.meth ?_
  walk_at "H"
  refine ⟨.ref 71, Mt.inst T.G (set_at hk) rfl (by rw [T.K]; k_is) (by rw [T.K]; k_is) (by rw [T.K]; k_is), Kp.K T (by k_is), ?_⟩
  walk_at "H"
  refine range_spec T a' (x := ((y &&& 240) / 2 ^ 4)) (y := (y &&& 15) / 2 ^ 0) (by omega) (by omega) ?_
  walk_at "H"
  rw [Int.add_assoc]
  refine regs_spec T a' (x := (2 ^ ((y &&& 15) / 2 ^ 0 + 1) - 1) * 2 ^ ((y &&& 240) / 2 ^ 4)) (rng_lt' (by omega) (by omega)) (by decide +kernel) ?_
  have nl := names_p (q := Str.ofString "wR") (by decide +kernel) ((2 ^ ((y &&& 15) / 2 ^ 0 + 1) - 1) * 2 ^ ((y &&& 240) / 2 ^ 4))
  exact X.pctPop (Nat.le_trans (brace_len nl.1 nl.2) (by decide)) kk

theorem h200 {c : Cx} {mg mb} (T : Tp c mg mb) {A : Around} {n : Nat} (a : AOk A (n + 2)) {σ : List O} {k : Nat} (hk : k < σ.length) {bs : List Int} {j : Nat} {m : V} (hj : j < 100000) {y : Nat} (hb1 : bs[j + 1]? = some (y : Int)) (hy : y < 256)
    {K : V → List O → Prop} (kk : K (.str (popT ((bits ((2 ^ ((y &&& 15) / 2 ^ 0 + 1) - 1) * 2 ^ (16 + (y &&& 240) / 2 ^ 4)) 32).map (prN (Str.ofString "d"))))) (σ.set k (decO bs (j + 2) m))) : Cc c A (.ref 186) [.ref k] (σ.set k (decO bs j m)) K := by
  refine Cc.def T.G (Def.mk' T.G (by rw [T.K]; k_is) (by rw [T.K]; k_is) ?_ (by decide)) (xs := ["self"]) a rfl (by decide) (by decide) ?_
  · intro vals hl
    match vals, hl with
    | [a], _ => rfl
  intro fm A' hs a'
  dsimp only [List.zip_cons_cons, List.zip_nil_left, List.zip, List.zipWith]
  have y1 : y &&& 240 < 2 ^ 8 := Nat.and_lt_two_pow y (by decide)
  have y2 : y &&& 15 < 2 ^ 4 := Nat.and_lt_two_pow y (by decide)
  have y3 : (y &&& 240) / 2 ^ 4 < 16 := by omega
  have y4 : (y &&& 15) / 2 ^ 0 < 16 := by omega
  walk_at "H"
  refine Ev.meth ?_
  walk_at "H"
  refine ⟨.ref 81, Mt.inst T.G (set_at hk) rfl (by rw [T.K]; k_is) (by rw [T.K]; k_is) (by rw [T.K]; k_is), Kp.K T (by k_is), ?_⟩
  walk_at "H"
  refine Ev.meth ?_
  walk_at "H"
  refine ⟨.ref 71, Mt.inst T.G (set_at hk) rfl (by rw [T.K]; k_is) (by rw [T.K]; k_is) (by rw [T.K]; k_is), Kp.K T (by k_is), ?_⟩
  walk_at "H"
  refine range_spec T a' (x := (16 + (y &&& 240) / 2 ^ 4)) (y := (y &&& 15) / 2 ^ 0) (by omega) (by omega) ?_
  walk_at "H"
  rw [Int.add_assoc]
  refine regs_spec T a' (x := (2 ^ ((y &&& 15) / 2 ^ 0 + 1) - 1) * 2 ^ (16 + (y &&& 240) / 2 ^ 4)) (rng_lt' (by omega) (by omega)) (by decide +kernel) ?_
  have nl := names_p (q := Str.ofString "d") (by decide +kernel) ((2 ^ ((y &&& 15) / 2 ^ 0 + 1) - 1) * 2 ^ (16 + (y &&& 240) / 2 ^ 4))
  exact X.pctPop (Nat.le_trans (brace_len nl.1 nl.2) (by decide)) kk

theorem h201 {c : Cx} {mg mb} (T : Tp c mg mb) {A : Around} {n : Nat} (a : AOk A (n + 2)) {σ : List O} {k : Nat} (hk : k < σ.length) {bs : List Int} {j : Nat} {m : V} (hj : j < 100000) {y : Nat} (hb1 : bs[j + 1]? = some (y : Int)) (hy : y < 256)
    {K : V → List O → Prop} (kk : K (.str (popT ((bits ((2 ^ ((y &&& 15) / 2 ^ 0 + 1) - 1) * 2 ^ ((y &&& 240) / 2 ^ 4)) 32).map (prN (Str.ofString "d"))))) (σ.set k (decO bs (j + 2) m))) : Cc c A (.ref 193) [.ref k] (σ.set k (decO bs j m)) K := by
  refine Cc.def T.G (Def.mk' T.G (by rw [T.K]; k_is) (by rw [T.K]; k_is) ?_ (by decide)) (xs := ["self"]) a rfl (by decide) (by decide) ?_
  · intro vals hl
    match vals, hl with
    | [a], _ => rfl
  intro fm A' hs a'
  dsimp only [List.zip_cons_cons, List.zip_nil_left, List.zip, List.zipWith]
  have y1 : y &&& 240 < 2 ^ 8 := Nat.and_lt_two_pow y (by decide)
  have y2 : y &&& 15 < 2 ^ 4 := Nat.and_lt_two_pow y (by decide)
  have y3 : (y &&& 240) / 2 ^ 4 < 16 := by omega
  have y4 : (y &&& 15) / 2 ^ 0 < 16 := by omega
  walk_at "H"
  refine Ev.meth ?_
  walk_at "H"
  refine ⟨.ref 81, Mt.inst T.G (set_at hk) rfl (by rw [T.K]; k_is) (by rw [T.K]; k_is) (by rw [T.K]; k_is), Kp.K T (by k_is), ?_⟩
  walk_at "H"
  refine Ev.meth ?_
  walk_at "H"
  refine ⟨.ref 71, Mt.inst T.G (set_at hk) rfl (by rw [T.K]; k_is) (by rw [T.K]; k_is) (by rw [T.K]; k_is), Kp.K T (by k_is), ?_⟩
  walk_at "H"
  refine range_spec T a' (x := ((y &&& 240) / 2 ^ 4)) (y := (y &&& 15) / 2 ^ 0) (by omega) (by omega) ?_
  walk_at "H"
  rw [Int.add_assoc]
  refine regs_spec T a' (x := (2 ^ ((y &&& 15) / 2 ^ 0 + 1) - 1) * 2 ^ ((y &&& 240) / 2 ^ 4)) (rng_lt' (by omega) (by omega)) (by decide +kernel) ?_
  have nl := names_p (q := Str.ofString "d") (by decide +kernel) ((2 ^ ((y &&& 15) / 2 ^ 0 + 1) - 1) * 2 ^ ((y &&& 240) / 2 ^ 4))
  exact X.pctPop (Nat.le_trans (brace_len nl.1 nl.2) (by decide)) kk
theorem pe_spec {c : Cx} {mg mb} (T : Tp c mg mb) {A : Around} {n : Nat} (a : AOk A (n + 1)) {σ : List O} {x : Str} (hx : x.length ≤ 100) (hn : Txt.slice x none (some 2) ≠ Str.ofString "__")
    {K : V → List O → Prop} (kk : K (.str x) σ) : Cl c A (.ref 28) [.str x] σ K := by
  refine Cl.def T.G (Def.mk' T.G (by rw [T.K]; k_is) (by rw [T.K]; k_is) ?_ (by decide)) (xs := ["n"]) a rfl (by decide) (by decide) ?_
  · intro vals hl
    match vals, hl with
    | [a], _ => rfl
  intro fm A' hs a'
  dsimp only [List.zip_cons_cons, List.zip_nil_left, List.zip, List.zipWith]
  walk_at "H"
  refine B.typeStr ?_
  walk_at "H"
  walk_at "B"
  refine X.isNotType ?_
  walk_at "H"
  with_reducible refine ifb (fun q => absurd q (by decide)) (fun q => ?_)
  walk_at "H"
  refine X.strSlice (by omega) ?_
  walk_at "H"
  refine X.strEq ?_
  walk_at "H"
  with_reducible refine ifb (fun q => absurd (of_decide_eq_true q) hn) (fun q => ?_)
  walk_at "H"
  exact kk
theorem item_init {c : Cx} {mg mb} (T : Tp c mg mb) {A : Around} {n : Nat} (a : AOk A (n + 1)) {σ : List O} {k : Nat} (hk : k < σ.length) {v w : V}
    {K : V → List O → Prop} (kk : K .none (σ.set k (.inst 280 [(Str.ofString "bytecode", v), (Str.ofString "mnemonic", w)]))) : Cc c A (.ref 272) [.ref k, v, w] (σ.set k (.inst 280 [])) K := by
  refine Cc.def T.G (Def.mk' T.G (by rw [T.K]; k_is) (by rw [T.K]; k_is) ?_ (by decide)) (xs := ["self", "bytecode", "mnemonic"]) a rfl (by decide) (by decide) ?_
  · intro vals hl
    match vals, hl with
    | [a, b, c], _ => rfl
  intro fm A' hs a'
  dsimp only [List.zip_cons_cons, List.zip_nil_left, List.zip, List.zipWith]
  walk_at "H"
  refine Ex.setAttr' ?_
  walk_at "H"
  refine N.set T.G (set_at hk) (by simp) (by rw [T.K]; k_is) (by rw [T.K]; k_is) (by rw [T.K]; k_is) (by rw [T.K]; k_is) ?_
  rw [set_set]
  walk_at "H"
  refine Ex.setAttr' ?_
  walk_at "H"
  refine N.set T.G (set_at hk) (by simp [setA]) (by rw [T.K]; k_is) (by rw [T.K]; k_is) (by rw [T.K]; k_is) (by rw [T.K]; k_is) ?_
  rw [set_set]
  walk_at "H"
  exact kk
theorem item_make {c : Cx} {mg mb} (T : Tp c mg mb) {A : Around} {n : Nat} (a : AOk A (n + 2)) {σ : List O} {v w : V}
    {K : V → List O → Prop} (kk : K (.ref σ.length) (σ ++ [.inst 280 [(Str.ofString "bytecode", v), (Str.ofString "mnemonic", w)]])) : Cl c A (.ref 280) [v, w] σ K := by
  refine N.make T.G (fI := 272) (by rw [T.K]; k_is) (by rw [T.K]; k_is) (by rw [T.K]; k_is) fun vals => ?_
  have e : σ ++ [O.inst 280 []] = (σ ++ [O.inst 280 []]).set σ.length (.inst 280 []) := by simp
  rw [e]
  refine item_init T (under_call a) (by simp) ⟨rfl, ?_⟩
  simpa using kk
structure HF (c : Cx) (name : Str) (f : Nat) : Prop where
  g : ∀ a b d : V, lookA [(Str.ofString "_bytecode_array", a), (Str.ofString "_index", b), (Str.ofString "mnemonic_array", d)] name = none
  hg : plainGet c.K 254 name = true
  ha : findIn c.K (.ref 254) name = some (some (.ref f))
  hf : isFn c.K (.ref f) = true
  hgf : specialIn c.K (.ref f) "__get__" = some (some (.builtin "function.__get__"))
  ht : takesIn c.K (.ref f) = some false
  hc : copiedNames.contains name = false
  fn : fnIn c.K f = true
  len : name.length ≤ 100
  pe : Txt.slice name none (some 2) ≠ Str.ofString "__"
def Good (c : Cx) (octs : List Nat) (t : Str) : Prop :=
  ∃ x rest h r, octs = x :: rest ∧ ringL.findIdx? (fun r => x &&& r.1 == r.2.1) = some h ∧ ringL[h]? = some r ∧ HF c (Str.ofString r.2.2.1) r.2.2.2 ∧ octs.length ≤ 2 ∧
    ∀ (A : Around) (n : Nat) (σ : List O) (k : Nat) (bs : List Int) (j : Nat) (m : V) (K : V → List O → Prop), AOk A (n + 3) → k < σ.length → j < 100000 → (∀ q (y : Nat), octs[q]? = some y → bs[j + q]? = some (y : Int)) →
      K (.str t) (σ.set k (decO bs (j + octs.length : Nat) m)) → Cc c A (.ref r.2.2.2) [.ref k] (σ.set k (decO bs j m)) K
def itemO (p : List Nat × Str) : O := .inst 280 [(Str.ofString "bytecode", .lst (p.1.map fun (x : Nat) => .int (x : Int))), (Str.ofString "mnemonic", .str p.2)]
def flatI (its : List (List Nat × Str)) : List Int := (its.flatMap (·.1)).map fun (x : Nat) => (x : Int)
def posN (its : List (List Nat × Str)) : Nat := (its.flatMap (·.1)).length
def refsV (L n : Nat) : List V := (List.range n).map fun q => .ref (L + 1 + q)
def decS (σ : List O) (k : Nat) (bs : List Int) (i : Nat) (done : List (List Nat × Str)) : List O :=
  (σ ++ (.list (refsV σ.length done.length) :: done.map itemO)).set k (decO bs i (.ref σ.length))
theorem As.weaken {c : Cx} {fm : Fm} {A : Around} {t : Value → Sem Unit} {v : V} {ρ₁ ρ₂ : Ρ} {σ : List O} {K : Ρ → List O → Prop} (s : Sub ρ₂ ρ₁) (h : As c fm A t v ρ₂ σ K) : As c fm A t v ρ₁ σ K :=
  fun ws st val Q R L r q => h ws st val Q R (L.sub' s) r q
theorem flat_get {its : List (List Nat × Str)} {t : Nat} {p : List Nat × Str} (h : its[t]? = some p) (q : Nat) (y : Nat) (hq : p.1[q]? = some y) : (flatI its)[posN (its.take t) + q]? = some (y : Int) := by
  induction its generalizing t with
  | nil => simp at h
  | cons p' r ih =>
    cases t with
    | zero =>
      simp at h
      subst h
      have : q < p'.1.length := (List.getElem?_eq_some_iff.mp hq).1
      show ((((p' :: r).flatMap (·.1)).map fun (x : Nat) => (x : Int)))[posN [] + q]? = _
      rw [List.flatMap_cons, List.map_append, List.getElem?_append_left (by simp [posN]; exact this)]
      simp [posN, hq]
    | succ t =>
      have := ih (t := t) (by simpa using h)
      simp only [flatI, posN, List.flatMap_cons, List.take_succ_cons, List.map_append, List.length_append] at this ⊢
      rw [List.getElem?_append_right (by simp; omega)]
      rw [← this]
      congr 1
      simp; omega
theorem posN_succ {its : List (List Nat × Str)} {t : Nat} {p : List Nat × Str} (h : its[t]? = some p) : posN (its.take (t + 1)) = posN (its.take t) + p.1.length := by
  unfold posN
  rw [List.take_add_one, h]
  simp
theorem posN_all (its : List (List Nat × Str)) : (flatI its).length = posN its := by simp [flatI, posN]
theorem posN_le (its : List (List Nat × Str)) (t : Nat) : posN (its.take t) ≤ posN its := by
  unfold posN
  have : its.flatMap (·.1) = (its.take t).flatMap (·.1) ++ (its.drop t).flatMap (·.1) := by rw [← List.flatMap_append, List.take_append_drop]
  rw [this, List.length_append]
  omega
theorem pickL_mid {l : List V} {a n : Nat} (h : a + n ≤ l.length) : pickL l (some (a : Int)) (some ((a + n : Nat) : Int)) none = (l.drop a).take n := by
  unfold pickL sliceBounds sliceRange
  simp only [Option.getD_none, show (1 : Int) > 0 by decide, if_true]
  have e1 : max (0 : Int) (min (a : Int) l.length) = a := by omega
  have e2 : max (0 : Int) (min ((a + n : Nat) : Int) l.length) = ((a + n : Nat) : Int) := by omega
  have n1 : ¬ ((a : Int) < 0) := by omega
  have n2 : ¬ (((a + n : Nat) : Int) < 0) := by omega
  simp only [n1, n2, if_false, e1, e2]
  have e3 : (if (a : Int) < ((a + n : Nat) : Int) then (((a + n : Nat) : Int) - a + 1 - 1) / 1 else 0).toNat = n := by
    split
    · rw [Int.ediv_one]; omega
    · omega
  rw [e3, List.filterMap_map]
  have e4 : ((l[·]?) ∘ fun (k : Nat) => ((a : Int) + 1 * (k : Int)).toNat) = fun k : Nat => (l.drop a)[k]? := by
    funext k
    simp only [Function.comp]
    rw [List.getElem?_drop]
    congr 1
    omega
  rw [e4]
  have hl : n ≤ (l.drop a).length := by rw [List.length_drop]; omega
  generalize l.drop a = m at hl
  clear h e1 e2 n1 n2 e3 e4
  induction n with
  | zero => simp
  | succ n ih =>
    rw [List.range_succ, List.filterMap_append, ih (by omega), List.take_add_one]
    cases h : m[n]? <;> simp [List.filterMap, h]
theorem flat_slice {its : List (List Nat × Str)} {t : Nat} {p : List Nat × Str} (h : its[t]? = some p) : (((flatI its).map V.int).drop (posN (its.take t))).take p.1.length = p.1.map fun (x : Nat) => V.int (x : Int) := by
  refine List.ext_getElem? fun q => ?_
  by_cases hq : q < p.1.length
  · rw [List.getElem?_take_of_lt hq, List.getElem?_drop, List.getElem?_map, flat_get h q _ (List.getElem?_eq_getElem hq)]
    simp [hq]
  · rw [List.getElem?_eq_none (by simp; omega), List.getElem?_eq_none (by simp; omega)]
theorem Et.weaken {c : Cx} {fm : Fm} {A : Around} {t : Sem Bool} {ρ₁ ρ₂ : Ρ} {σ : List O} {K : Bool → List O → Prop} (s : Sub ρ₂ ρ₁) (h : Et c fm A t ρ₂ σ K) : Et c fm A t ρ₁ σ K :=
  fun ws st Q R L q => h ws st Q R (L.sub' s) fun ws' s' b σ' k E R' L' => q ws' s' b σ' k E R' (L.ext R E)
theorem set_app {σ r : List O} {k : Nat} {o : O} (hk : k < σ.length) : σ.set k o ++ r = (σ ++ r).set k o := by rw [List.set_append_left _ _ hk]
theorem decode_spec {c : Cx} {mg mb} (T : Tp c mg mb) {A : Around} {n : Nat} (a : AOk A (n + 6)) {σ : List O} {k : Nat} (hk : k < σ.length) {i : Int} {m : V} (its : List (List Nat × Str))
    (good : ∀ p ∈ its, Good c p.1 p.2) (hlen : (flatI its).length ≤ 1000) (hits : its.length ≤ 1000) {K : V → List O → Prop} (kk : K .none (decS σ k (flatI its) (flatI its).length its)) :
    Cl c A (.ref 49) [.ref k] (σ.set k (decO (flatI its) i m)) K := by
  refine Cl.def T.G (Def.mk' T.G (by rw [T.K]; k_is) (by rw [T.K]; k_is) ?_ (by decide)) (xs := ["self"]) a rfl (by decide) (by decide) ?_
  · intro vals hl
    match vals, hl with
    | [a], _ => rfl
  intro fm A' hs a'
  dsimp only [List.zip_cons_cons, List.zip_nil_left, List.zip, List.zipWith]
  walk_at "H"
  refine Ex.setAttr' ?_
  walk_at "H"
  refine Ex.setAttr' ?_
  refine Ev.list T.G ?_
  walk_at "H"
  refine ⟨by simp, ?_⟩
  walk_at "H"
  rw [set_app hk, List.length_set]
  refine dec_setM T (by simp; omega) ?_
  walk_at "H"
  refine Ex.while (its.length) (J := fun mm ρ' σ' => Sub [("self", .ref k)] ρ' ∧ ∃ t, t + mm = its.length ∧ σ' = decS σ k (flatI its) (posN (its.take t)) (its.take t)) ?_ ?_
  · exact ⟨Sub.cons rfl (Sub.nil _), 0, by omega, rfl⟩
  · rintro mm ρ' σ' ⟨sub, t, ht, rfl⟩
    refine Et.weaken sub ?_
    have hk' : k < (σ ++ (O.list (refsV σ.length (its.take t).length) :: (its.take t).map itemO)).length := by simp; omega
    dsimp only [decS]
    walk_at "H"
    refine L.len (.arr _) (by simp; omega) ?_
    walk_at "H"
    have hle := posN_le its t
    have hall := posN_all its
    have pos1 : ∀ p, its[t]? = some p → 0 < p.1.length := fun p hp => by
      obtain ⟨x, rest, h, r, ho, _⟩ := good p (List.mem_of_getElem? hp)
      rw [ho]; simp
    have tl : posN (its.take t) < posN its ↔ t < its.length := by
      constructor
      · intro h
        by_cases q : t < its.length
        · exact q
        · rw [List.take_of_length_le (by omega)] at h; omega
      · intro h
        have e := posN_succ (its := its) (t := t) (List.getElem?_eq_getElem h)
        have := posN_le its (t + 1)
        have := pos1 _ (List.getElem?_eq_getElem h)
        omega
    simp only [List.length_map]
    rw [hall]
    with_reducible refine ifb (fun q => Ex.weaken sub ?_) (fun q => ?_)
    · have ht1 : t < its.length := tl.mp (by have := of_decide_eq_true q; omega)
      obtain ⟨p, hp⟩ : ∃ p, its[t]? = some p := ⟨_, List.getElem?_eq_getElem ht1⟩
      obtain ⟨x, rest, h, r, ho, hf, hr, F, h2, spec⟩ := good p (List.mem_of_getElem? hp)
      have hfl := fun q y hq => flat_get hp q y hq
      have hx : (flatI its)[posN (its.take t)]? = some (x : Int) := hfl 0 x (by rw [ho]; rfl)
      obtain ⟨hh, hit, before⟩ := List.findIdx?_eq_some_iff_getElem.mp hf
      rw [List.getElem?_eq_getElem hh] at hr
      cases hr
      refine Ex.cons ?_
      refine Ex.for a' (J := fun i ρ₂ σ₂ => i ≤ h ∧ Sub [("self", .ref k)] ρ₂ ∧ σ₂ = decS σ k (flatI its) (posN (its.take t)) (its.take t)) ?_
      walk_at "H"
      refine dec_ring T hk' ?_
      refine ⟨_, _, It.tup, ⟨Nat.zero_le _, Sub.cons rfl (Sub.nil _), rfl⟩, fun _ _ _ _ => trivial, ?_, ?_⟩
      · rintro i2 v ρ₂ σ₂ hv ⟨hi, sub2, rfl⟩
        rw [List.getElem?_map, List.getElem?_eq_getElem (by omega)] at hv
        cases hv
        refine As.weaken sub2 ?_
        refine As.tup a' ?_ rfl
        refine Ass.cons (As.name ?_)
        walk_at "H"
        refine Ass.cons (As.name ?_)
        walk_at "H"
        refine Ass.cons (As.name ?_)
        walk_at "H"
        refine Ass.nil ?_
        dsimp only [decS]
        walk_at "H"
        with_reducible refine ifb (fun q3 => ?_) (fun q3 => ?_)
        · have ei : i2 = h := by
            by_cases e : i2 < h
            · refine absurd ?_ (before i2 e)
              have := eq_of_beq q3
              simp only [beq_iff_eq]
              omega
            · omega
          subst ei
          walk_at "H"
          refine Ev.callBm T.G ?_
          walk_at "H"
          refine pe_spec T a' F.len F.pe ?_
          walk_at "H"
          refine B.getattr T.G (set_at hk') (F.g _ _ _) F.hg (by rw [T.K]; k_is) F.ha F.hf F.hgf F.ht F.hc ?_
          refine ⟨_, _, rfl, F.fn, ?_⟩
          refine spec A' (n + 2) _ k _ _ _ _ a' hk' (by omega) hfl ?_
          walk_at "H"
          refine Ev.meth ?_
          walk_at "H"
          refine dec_marr T hk' trivial ?_
          have eL : ∀ d : O, ((σ ++ (O.list (refsV σ.length (its.take t).length) :: (its.take t).map itemO)).set k d)[σ.length]? = some (O.list (refsV σ.length (its.take t).length)) := fun d => by
            rw [List.getElem?_set_ne (by omega)]; simp
          refine ⟨_, Mt.append (eL _), Kp.builtin _, ?_⟩
          walk_at "H"
          refine X.listSlice (.arr _) (by simp; omega) (by simp) ?_
          walk_at "H"
          refine item_make T a' ?_
          walk_at "H"
          refine L.append (l := refsV σ.length (its.take t).length) ?_ ?_ ?_
          · rw [List.getElem?_append_left (by simp), eL]
          · simp [refsV]; omega
          walk_at "H"
          refine ⟨rfl, ?_⟩
          walk_at "H"
          have e0 : (List.take t its).length = t := by rw [List.length_take]; omega
          refine ⟨mm - 1, by omega, Sub.cons rfl (Sub.nil _), t + 1, by omega, ?_⟩
          have e1 := posN_succ hp
          have e2 : its.take (t + 1) = its.take t ++ [p] := by rw [List.take_add_one, hp]; rfl
          have hle2 := posN_le its (t + 1)
          rw [pickL_mid (by simp only [List.length_map]; omega), flat_slice hp]
          rw [e1, e2, List.map_append, List.length_append, e0]
          simp only [List.length_set, List.length_append, List.length_cons, List.length_map, e0]
          rw [set_app (by simp; omega), List.set_comm _ _ (by omega)]
          congr 1
          rw [List.append_assoc, List.set_append_right _ _ (Nat.le_refl _), Nat.sub_self]
          simp only [List.cons_append, List.set_cons_zero, refsV, List.length_nil, List.range_succ, List.map_append, List.map_cons, List.map_nil, Nat.zero_add]
          rw [show σ.length + 1 + t = σ.length + (t + 1) by omega]
          rfl
        · have ei : i2 < h := by
            by_cases e : i2 = h
            · subst e
              have := eq_of_beq hit
              rw [this] at q3
              simp at q3
            · omega
          walk_at "H"
          exact ⟨by omega, Sub.cons rfl (Sub.nil _), rfl⟩
      · rintro ρ₂ σ₂ ⟨hi, sub2, rfl⟩
        rw [List.length_map] at hi
        omega
    · have ht1 : its.length ≤ t := by
        have := of_decide_eq_false q
        exact Nat.le_of_not_lt fun h => this (by have := tl.mpr h; omega)
      rw [List.take_of_length_le ht1]
      walk_at "H"
      refine cast ?_ kk
      rw [hall]
      rfl
theorem dec_init {c : Cx} {mg mb} (T : Tp c mg mb) {A : Around} {n : Nat} (a : AOk A (n + 7)) {σ : List O} {k : Nat} (hk : k < σ.length) (its : List (List Nat × Str))
    (good : ∀ p ∈ its, Good c p.1 p.2) (hlen : (flatI its).length ≤ 1000) (hits : its.length ≤ 1000) {K : V → List O → Prop} (kk : K .none (decS σ k (flatI its) (flatI its).length its)) :
    Cc c A (.ref 42) [.ref k, .arr ((flatI its).map .int)] (σ.set k (.inst 254 [])) K := by
  refine Cc.def T.G (Def.mk' T.G (by rw [T.K]; k_is) (by rw [T.K]; k_is) ?_ (by decide)) (xs := ["self", "bytecode_array"]) a rfl (by decide) (by decide) ?_
  · intro vals hl
    match vals, hl with
    | [a, b], _ => rfl
  intro fm A' hs a'
  dsimp only [List.zip_cons_cons, List.zip_nil_left, List.zip, List.zipWith]
  walk_at "H"
  refine Ex.setAttr' ?_
  walk_at "H"
  refine N.set T.G (set_at hk) (by simp) (by rw [T.K]; k_is) (by rw [T.K]; k_is) (by rw [T.K]; k_is) (by rw [T.K]; k_is) ?_
  rw [set_set]
  walk_at "H"
  refine Ex.setAttr' ?_
  walk_at "H"
  refine N.set T.G (set_at hk) (Nat.le_of_ble_eq_true rfl) (by rw [T.K]; k_is) (by rw [T.K]; k_is) (by rw [T.K]; k_is) (by rw [T.K]; k_is) ?_
  rw [set_set]
  walk_at "H"
  refine Ex.setAttr' ?_
  walk_at "H"
  refine N.set T.G (set_at hk) (Nat.le_of_ble_eq_true rfl) (by rw [T.K]; k_is) (by rw [T.K]; k_is) (by rw [T.K]; k_is) (by rw [T.K]; k_is) ?_
  rw [set_set]
  walk_at "H"
  refine Ev.meth ?_
  walk_at "H"
  refine ⟨.ref 49, Mt.inst T.G (set_at hk) rfl (by rw [T.K]; k_is) (by rw [T.K]; k_is) (by rw [T.K]; k_is), Kp.K T (by k_is), ?_⟩
  walk_at "H"
  refine decode_spec (n := n) T a' hk its good hlen hits ?_
  refine ⟨rfl, ?_⟩
  walk_at "H"
  exact kk
theorem dec_make {c : Cx} {mg mb} (T : Tp c mg mb) {A : Around} {n : Nat} (a : AOk A (n + 8)) {σ : List O} (its : List (List Nat × Str))
    (good : ∀ p ∈ its, Good c p.1 p.2) (hlen : (flatI its).length ≤ 1000) (hits : its.length ≤ 1000) {K : V → List O → Prop} (kk : K (.ref σ.length) (decS (σ ++ [.inst 254 []]) σ.length (flatI its) (flatI its).length its)) :
    Cl c A (.ref 254) [.arr ((flatI its).map .int)] σ K := by
  refine N.make T.G (fI := 42) (by rw [T.K]; k_is) (by rw [T.K]; k_is) (by rw [T.K]; k_is) fun vals => ?_
  have e : σ ++ [O.inst 254 []] = (σ ++ [O.inst 254 []]).set σ.length (.inst 254 []) := by simp
  have := dec_init (n := n) (K := fun v σ' => v = .none ∧ K (.ref σ.length) σ') T (under_call (vals := vals) (C := 254) a) (σ := σ ++ [O.inst 254 []]) (k := σ.length) (by simp) its good hlen hits ⟨rfl, kk⟩
  rw [← e] at this
  exact this
theorem hf_56 {c : Cx} {mg mb} (T : Tp c mg mb) : HF c (Str.ofString "_decode_00xxxxxx") 56 :=
  ⟨fun _ _ _ => rfl, by rw [T.K]; k_is, by rw [T.K]; k_is, by rw [T.K]; k_is, by rw [T.K]; k_is, by rw [T.K]; k_is, by decide, by rw [T.K]; k_is, by decide +kernel, by decide +kernel⟩
theorem hf_63 {c : Cx} {mg mb} (T : Tp c mg mb) : HF c (Str.ofString "_decode_01xxxxxx") 63 :=
  ⟨fun _ _ _ => rfl, by rw [T.K]; k_is, by rw [T.K]; k_is, by rw [T.K]; k_is, by rw [T.K]; k_is, by rw [T.K]; k_is, by decide, by rw [T.K]; k_is, by decide +kernel, by decide +kernel⟩
theorem hf_88 {c : Cx} {mg mb} (T : Tp c mg mb) : HF c (Str.ofString "_decode_1000iiii_iiiiiiii") 88 :=
  ⟨fun _ _ _ => rfl, by rw [T.K]; k_is, by rw [T.K]; k_is, by rw [T.K]; k_is, by rw [T.K]; k_is, by rw [T.K]; k_is, by decide, by rw [T.K]; k_is, by decide +kernel, by decide +kernel⟩
theorem hf_109 {c : Cx} {mg mb} (T : Tp c mg mb) : HF c (Str.ofString "_decode_1001nnnn") 109 :=
  ⟨fun _ _ _ => rfl, by rw [T.K]; k_is, by rw [T.K]; k_is, by rw [T.K]; k_is, by rw [T.K]; k_is, by rw [T.K]; k_is, by decide, by rw [T.K]; k_is, by decide +kernel, by decide +kernel⟩
theorem hf_116 {c : Cx} {mg mb} (T : Tp c mg mb) : HF c (Str.ofString "_decode_10100nnn") 116 :=
  ⟨fun _ _ _ => rfl, by rw [T.K]; k_is, by rw [T.K]; k_is, by rw [T.K]; k_is, by rw [T.K]; k_is, by rw [T.K]; k_is, by decide, by rw [T.K]; k_is, by decide +kernel, by decide +kernel⟩
theorem hf_123 {c : Cx} {mg mb} (T : Tp c mg mb) : HF c (Str.ofString "_decode_10101nnn") 123 :=
  ⟨fun _ _ _ => rfl, by rw [T.K]; k_is, by rw [T.K]; k_is, by rw [T.K]; k_is, by rw [T.K]; k_is, by rw [T.K]; k_is, by decide, by rw [T.K]; k_is, by decide +kernel, by decide +kernel⟩
theorem hf_130 {c : Cx} {mg mb} (T : Tp c mg mb) : HF c (Str.ofString "_decode_10110000") 130 :=
  ⟨fun _ _ _ => rfl, by rw [T.K]; k_is, by rw [T.K]; k_is, by rw [T.K]; k_is, by rw [T.K]; k_is, by rw [T.K]; k_is, by decide, by rw [T.K]; k_is, by decide +kernel, by decide +kernel⟩
theorem hf_137 {c : Cx} {mg mb} (T : Tp c mg mb) : HF c (Str.ofString "_decode_10110001_0000iiii") 137 :=
  ⟨fun _ _ _ => rfl, by rw [T.K]; k_is, by rw [T.K]; k_is, by rw [T.K]; k_is, by rw [T.K]; k_is, by rw [T.K]; k_is, by decide, by rw [T.K]; k_is, by decide +kernel, by decide +kernel⟩
theorem hf_165 {c : Cx} {mg mb} (T : Tp c mg mb) : HF c (Str.ofString "_decode_10111nnn") 165 :=
  ⟨fun _ _ _ => rfl, by rw [T.K]; k_is, by rw [T.K]; k_is, by rw [T.K]; k_is, by rw [T.K]; k_is, by rw [T.K]; k_is, by decide, by rw [T.K]; k_is, by decide +kernel, by decide +kernel⟩
theorem hf_172 {c : Cx} {mg mb} (T : Tp c mg mb) : HF c (Str.ofString "_decode_11000110_sssscccc") 172 :=
  ⟨fun _ _ _ => rfl, by rw [T.K]; k_is, by rw [T.K]; k_is, by rw [T.K]; k_is, by rw [T.K]; k_is, by rw [T.K]; k_is, by decide, by rw [T.K]; k_is, by decide +kernel, by decide +kernel⟩
theorem hf_179 {c : Cx} {mg mb} (T : Tp c mg mb) : HF c (Str.ofString "_decode_11000111_0000iiii") 179 :=
  ⟨fun _ _ _ => rfl, by rw [T.K]; k_is, by rw [T.K]; k_is, by rw [T.K]; k_is, by rw [T.K]; k_is, by rw [T.K]; k_is, by decide, by rw [T.K]; k_is, by decide +kernel, by decide +kernel⟩
theorem hf_186 {c : Cx} {mg mb} (T : Tp c mg mb) : HF c (Str.ofString "_decode_11001000_sssscccc") 186 :=
  ⟨fun _ _ _ => rfl, by rw [T.K]; k_is, by rw [T.K]; k_is, by rw [T.K]; k_is, by rw [T.K]; k_is, by rw [T.K]; k_is, by decide, by rw [T.K]; k_is, by decide +kernel, by decide +kernel⟩
theorem hf_193 {c : Cx} {mg mb} (T : Tp c mg mb) : HF c (Str.ofString "_decode_11001001_sssscccc") 193 :=
  ⟨fun _ _ _ => rfl, by rw [T.K]; k_is, by rw [T.K]; k_is, by rw [T.K]; k_is, by rw [T.K]; k_is, by rw [T.K]; k_is, by decide, by rw [T.K]; k_is, by decide +kernel, by decide +kernel⟩
theorem hf_214 {c : Cx} {mg mb} (T : Tp c mg mb) : HF c (Str.ofString "_decode_11010nnn") 214 :=
  ⟨fun _ _ _ => rfl, by rw [T.K]; k_is, by rw [T.K]; k_is, by rw [T.K]; k_is, by rw [T.K]; k_is, by rw [T.K]; k_is, by decide, by rw [T.K]; k_is, by decide +kernel, by decide +kernel⟩
theorem Good.one {c : Cx} {x : Nat} {t : Str} (h : Nat) {m v : Nat} {nme : String} {f : Nat} (hf : ringL.findIdx? (fun r => x &&& r.1 == r.2.1) = some h) (hr : ringL[h]? = some (m, v, nme, f)) (F : HF c (Str.ofString nme) f)
    (spec : ∀ (A : Around) (n : Nat) (σ : List O) (k : Nat) (bs : List Int) (j : Nat) (m : V) (K : V → List O → Prop), AOk A (n + 3) → k < σ.length → j < 100000 → bs[j]? = some (x : Int) →
      K (.str t) (σ.set k (decO bs ((j : Int) + 1) m)) → Cc c A (.ref f) [.ref k] (σ.set k (decO bs j m)) K) : Good c [x] t := by
  refine ⟨x, [], h, _, rfl, hf, hr, F, by simp, fun A n σ k bs j m K a hk hj hb kk => ?_⟩
  refine spec A n σ k bs j m K a hk hj (hb 0 x rfl) ?_
  have e : ((j + [x].length : Nat) : Int) = (j : Int) + 1 := by simp
  rw [e] at kk
  exact kk
theorem Good.two {c : Cx} {x y : Nat} {t : Str} (h : Nat) {m v : Nat} {nme : String} {f : Nat} (hf : ringL.findIdx? (fun r => x &&& r.1 == r.2.1) = some h) (hr : ringL[h]? = some (m, v, nme, f)) (F : HF c (Str.ofString nme) f)
    (spec : ∀ (A : Around) (n : Nat) (σ : List O) (k : Nat) (bs : List Int) (j : Nat) (m : V) (K : V → List O → Prop), AOk A (n + 3) → k < σ.length → j < 100000 → bs[j]? = some (x : Int) → bs[j + 1]? = some (y : Int) →
      K (.str t) (σ.set k (decO bs ((j : Int) + 2) m)) → Cc c A (.ref f) [.ref k] (σ.set k (decO bs j m)) K) : Good c [x, y] t := by
  refine ⟨x, [y], h, _, rfl, hf, hr, F, by simp, fun A n σ k bs j m K a hk hj hb kk => ?_⟩
  refine spec A n σ k bs j m K a hk hj (hb 0 x rfl) (hb 1 y rfl) ?_
  have e : ((j + [x, y].length : Nat) : Int) = (j : Int) + 2 := by simp
  rw [e] at kk
  exact kk
theorem and63 {x : Nat} (h : x < 64) : x &&& 63 = x := by rw [show 63 = 2 ^ 6 - 1 from rfl, Nat.and_two_pow_sub_one_eq_mod]; omega
theorem toS {a b : Int} (h : a = b) : Str.ofString (toString a) = Str.ofString (toString b) := by rw [h]
theorem good_of_item {c : Cx} {mg mb} (T : Tp c mg mb) {octs : List Nat} {w : W} (it : Item octs w) : Good c octs w.text := by
  cases it with
  | add x hx =>
    have hf : ∀ x < 64, ringL.findIdx? (fun r => x &&& r.1 == r.2.1) = some 0 := by decide +kernel
    refine Good.one 0 (hf x hx) rfl (hf_56 T) fun A n σ k bs j m K a hk hj hb kk => ?_
    have e := and63 hx
    refine h00 (n := n) T (a.le (by omega)) hk hj hb (by rw [e]; exact hx) ?_
    rw [e]
    exact kk
  | sub x hx =>
    have hf : ∀ x < 64, ringL.findIdx? (fun r => (64 + x) &&& r.1 == r.2.1) = some 1 := by decide +kernel
    refine Good.one 1 (hf x hx) rfl (hf_63 T) fun A n σ k bs j m K a hk hj hb kk => ?_
    have e0 : ∀ x < 64, (64 + x) &&& 63 = x := by decide +kernel
    have e := e0 x hx
    refine h01 (n := n) T (a.le (by omega)) hk hj hb (by rw [e]; exact hx) ?_
    rw [e]
    exact kk
  | reg7 =>
    refine Good.one 5 (by decide +kernel) rfl (hf_109 T) fun A n σ k bs j m K a hk hj hb kk => ?_
    refine h1001 (n := n) T (a.le (by omega)) hk hj hb (by decide) ?_
    have e : Str.ofString "vsp = r" ++ Str.ofString (toString ((151 &&& 15 : Nat) : Int)) = Str.ofString "vsp = r7" := by decide +kernel
    rw [e]; exact kk
  | fin =>
    refine Good.one 8 (by decide +kernel) rfl (hf_130 T) fun A n σ k bs j m K a hk hj hb kk => ?_
    exact hfin (n := n) T (a.le (by omega)) hk hj kk
  | p4 n hn =>
    have hf : ∀ n < 8, ringL.findIdx? (fun r => (160 + n) &&& r.1 == r.2.1) = some 6 := by decide +kernel
    have e0 : ∀ n < 8, (160 + n) &&& 7 = n := by decide +kernel
    have hb0 : ∀ n < 8, ∀ i ∈ bits (rm 4 n) 32, i < 16 ∧ i ≠ 13 ∧ i ≠ 15 := by decide +kernel
    have e := e0 n hn
    refine Good.one 6 (hf n hn) rfl (hf_116 T) fun A n' σ k bs j m K a hk hj hb kk => ?_
    refine h160 (n := n') T (a.le (by omega)) hk hj hb (by rw [e]; exact hn) ?_
    rw [e]
    exact cast (congrArg (fun z => K (.str (popT z)) _) (map_g (hb0 n hn)).symm) kk
  | p4l n hn =>
    have hf : ∀ n < 8, ringL.findIdx? (fun r => (168 + n) &&& r.1 == r.2.1) = some 7 := by decide +kernel
    have e0 : ∀ n < 8, (168 + n) &&& 7 = n := by decide +kernel
    have hb0 : ∀ n < 8, ∀ i ∈ bits (rm 4 n ||| 1 * 2 ^ 14) 32, i < 16 ∧ i ≠ 13 ∧ i ≠ 15 := by decide +kernel
    have e := e0 n hn
    refine Good.one 7 (hf n hn) rfl (hf_123 T) fun A n' σ k bs j m K a hk hj hb kk => ?_
    refine h168 (n := n') T (a.le (by omega)) hk hj hb (by rw [e]; exact hn) ?_
    rw [e]
    exact cast (congrArg (fun z => K (.str (popT z)) _) (map_g (hb0 n hn)).symm) kk
  | m4 m h0 hm =>
    have e0 : ∀ m < 16, m &&& 15 = m ∧ m &&& 240 = 0 := by decide +kernel
    have hb0 : ∀ m < 16, ∀ i ∈ bits m 32, i < 16 ∧ i ≠ 13 ∧ i ≠ 15 := by decide +kernel
    have e := e0 m hm
    refine Good.two 9 (by decide +kernel) rfl (hf_137 T) fun A n' σ k bs j m' K a hk hj hb hb1 kk => ?_
    refine h177 (n := n') T (a.le (by omega)) hk hj hb1 (by rw [e.1]; exact hm) e.2 (by omega) ?_
    rw [e.1]
    exact cast (congrArg (fun z => K (.str (popT z)) _) (map_g (hb0 m hm)).symm) kk
  | m12 m h0 hm hbits =>
    have hf : ∀ n < 16, ringL.findIdx? (fun r => (128 + n) &&& r.1 == r.2.1) = some 2 := by decide +kernel
    have e0 : ∀ n < 16, (128 + n) &&& 15 = n := by decide +kernel
    have e := e0 (m / 256) (by omega)
    have e2 : (m % 256 * 2 ^ 4) ||| ((128 + m / 256) &&& 15) * 2 ^ 12 = 16 * m := by
      rw [e, Nat.or_comm, Nat.mul_comm _ (2 ^ 12), ← Nat.two_pow_add_eq_or_of_lt (by omega)]
      omega
    refine Good.two 2 (hf _ (by omega)) rfl (hf_88 T) fun A n' σ k bs j m' K a hk hj hb hb1 kk => ?_
    refine h128 (n := n') T (a.le (by omega)) hk hj hb hb1 (by rw [e]; omega) (by omega) (by rw [e2]; omega) ?_
    rw [e2]
    exact cast (congrArg (fun z => K (.str (popT z)) _) (map_g hbits).symm) kk
  | d8 n hn =>
    have hf : ∀ n < 8, ringL.findIdx? (fun r => (184 + n) &&& r.1 == r.2.1) = some 13 := by decide +kernel
    have e0 : ∀ n < 8, (184 + n) &&& 7 = n := by decide +kernel
    have e := e0 n hn
    refine Good.one 13 (hf n hn) rfl (hf_165 T) fun A n' σ k bs j m K a hk hj hb kk => ?_
    refine h184 (n := n') T (a.le (by omega)) hk hj hb (by rw [e]; exact hn) ?_
    rw [e]
    exact cast (congrArg (fun z => K (.str (popT z)) _) (map_d _).symm) kk
  | d8' n hn =>
    have hf : ∀ n < 8, ringL.findIdx? (fun r => (208 + n) &&& r.1 == r.2.1) = some 20 := by decide +kernel
    have e0 : ∀ n < 8, (208 + n) &&& 7 = n := by decide +kernel
    have e := e0 n hn
    refine Good.one 20 (hf n hn) rfl (hf_214 T) fun A n' σ k bs j m K a hk hj hb kk => ?_
    refine h208 (n := n') T (a.le (by omega)) hk hj hb (by rw [e]; exact hn) ?_
    rw [e]
    exact cast (congrArg (fun z => K (.str (popT z)) _) (map_d _).symm) kk
  | d16 s n hs hn =>
    have e0 : ∀ s < 8, ∀ n < 8, (2 ^ ((16 * s + n &&& 15) / 2 ^ 0 + 1) - 1) * 2 ^ (16 + (16 * s + n &&& 240) / 2 ^ 4) = rm (16 + s) n := by decide +kernel
    refine Good.two 16 (by decide +kernel) rfl (hf_186 T) fun A n' σ k bs j m' K a hk hj hb hb1 kk => ?_
    refine h200 (n := n') T (a.le (by omega)) hk hj hb1 (by omega) ?_
    rw [e0 s hs n hn]
    exact cast (congrArg (fun z => K (.str (popT z)) _) (map_d _).symm) kk
  | dd s n hs hn =>
    have e0 : ∀ s < 16, ∀ n < 8, (2 ^ ((16 * s + n &&& 15) / 2 ^ 0 + 1) - 1) * 2 ^ ((16 * s + n &&& 240) / 2 ^ 4) = rm s n := by decide +kernel
    refine Good.two 17 (by decide +kernel) rfl (hf_193 T) fun A n' σ k bs j m' K a hk hj hb hb1 kk => ?_
    refine h201 (n := n') T (a.le (by omega)) hk hj hb1 (by omega) ?_
    rw [e0 s hs n hn]
    exact cast (congrArg (fun z => K (.str (popT z)) _) (map_d _).symm) kk
  | wr s n hs hn =>
    have e0 : ∀ s < 12, ∀ n < 4, (2 ^ ((16 * s + n &&& 15) / 2 ^ 0 + 1) - 1) * 2 ^ ((16 * s + n &&& 240) / 2 ^ 4) = rm s n ∧ ∀ i ∈ bits (rm s n) 32, i < 16 := by decide +kernel
    have e := e0 s hs n hn
    refine Good.two 14 (by decide +kernel) rfl (hf_172 T) fun A n' σ k bs j m' K a hk hj hb hb1 kk => ?_
    refine h198 (n := n') T (a.le (by omega)) hk hj hb1 (by omega) ?_
    rw [e.1]
    exact cast (congrArg (fun z => K (.str (popT z)) _) (map_w e.2).symm) kk
  | cg m h0 hm =>
    have e0 : ∀ m < 16, (m &&& 15 = m ∧ m &&& 240 = 0) ∧ ∀ i ∈ bits m 32, i < 4 := by decide +kernel
    have e := e0 m hm
    refine Good.two 15 (by decide +kernel) rfl (hf_179 T) fun A n' σ k bs j m' K a hk hj hb hb1 kk => ?_
    refine h199 (n := n') T (a.le (by omega)) hk hj hb1 (by rw [e.1.1]; exact hm) e.1.2 (by omega) ?_
    rw [e.1.1]
    exact cast (congrArg (fun z => K (.str (popT z)) _) (map_c e.2).symm) kk
section
variable {c : Cx} {fm : Fm} {A : Around} {ρ : Ρ} {σ : List O} {K : V → List O → Prop}
theorem Turns.map {scope : Scope} {x : String} {ρf : Ρ} {elt : Expr} {l : List V} {g : V → V} {σ₁ : List O}
    (h : ∀ (fm' : Fm) v, fm'.env.scope = rel2 scope fm.env.scope → v ∈ l → Ev c fm' A (eval elt fm'.env) ((x, v) :: ρf) σ₁ fun y σ₂ => y = g v ∧ σ₂ = σ₁) :
    Turns c fm A l scope x ρf [] elt fun i acc σ' => σ' = σ₁ ∧ acc = (l.take i).map g := by
  rintro fm' i v acc σ' hs hv ⟨rfl, rfl⟩
  refine Ts.nil ?_
  rw [if_pos rfl]
  refine (h fm' v hs (List.mem_of_getElem? hv)).mono ?_
  rintro y σ₂ ⟨rfl, rfl⟩
  exact ⟨rfl, map_take_succ hv⟩
theorem Turns.filter {scope : Scope} {x : String} {ρf : Ρ} {elt e : Expr} {l : List V} {g : V → V} {p : V → Bool} {σ₁ : List O}
    (h : ∀ (fm' : Fm) v, fm'.env.scope = rel2 scope fm.env.scope → v ∈ l → Et c fm' A (isTrue e fm'.env (eval e fm'.env)) ((x, v) :: ρf) σ₁ fun b σ₂ => b = p v ∧ σ₂ = σ₁ ∧
      (p v = true → Ev c fm' A (eval elt fm'.env) ((x, v) :: ρf) σ₁ fun y σ₂ => y = g v ∧ σ₂ = σ₁)) :
    Turns c fm A l scope x ρf [e] elt fun i acc σ' => σ' = σ₁ ∧ acc = ((l.take i).filter p).map g := by
  rintro fm' i v acc σ' hs hv ⟨rfl, rfl⟩
  refine Ts.one ?_
  refine (h fm' v hs (List.mem_of_getElem? hv)).mono ?_
  rintro b σ₂ ⟨rfl, rfl, hy⟩
  have e1 : (l.take (i + 1)).filter p = (l.take i).filter p ++ (if p v then [v] else []) := by
    rw [List.take_add_one, hv, List.filter_append]
    cases q : p v <;> simp [q]
  cases q : p v with
  | true =>
    rw [if_pos rfl]
    refine (hy q).mono ?_
    rintro y σ₂ ⟨rfl, rfl⟩
    refine ⟨rfl, ?_⟩
    rw [e1, q, if_pos rfl, List.map_append]; rfl
  | false =>
    rw [if_neg (by simp)]
    refine ⟨rfl, ?_⟩
    rw [e1, q]; simp
theorem Ev.compMap {n : Nat} (ao : AOk A n) {scope : Scope} {x : String} {px pos : Pos} {elt iter : Expr} (ρf : Ρ) (l : List V) (g : V → V) (C : CompOk fm ρ ρf scope x) (hl : l.length ≤ 1000000)
    (h : Ev c fm A (eval iter fm.env) ρ σ fun v σ₁ => σ₁ = σ ∧ ∃ G, It c v l G ∧ G σ)
    (he : ∀ (fm' : Fm) v, fm'.env.scope = rel2 scope fm.env.scope → v ∈ l → Ev c fm' A (eval elt fm'.env) ((x, v) :: ρf) σ fun y σ₂ => y = g v ∧ σ₂ = σ) (k : K (.lst (l.map g)) σ)
    (hs : ∀ x, foldedSetIterable iter fm.env x = pure x := by intro _; rfl) : Ev c fm A (eval (.ListComp elt [⟨.Name (Str.ofString x) px, iter, [], 0⟩] scope pos) fm.env) ρ σ K := by
  refine Ev.comp ao (J := fun i acc σ' => σ' = σ ∧ acc = (l.take i).map g) ρf C (h.mono ?_) hs
  rintro v σ₁ ⟨rfl, G, it, g0⟩
  refine ⟨l, G, it, hl, ⟨rfl, rfl⟩, ?_, Turns.map he, ?_⟩
  · rintro i acc σ' ⟨rfl, _⟩; exact g0
  · rintro acc σ' ⟨rfl, rfl⟩
    rw [List.take_length]; exact k
theorem Ev.compFilter {n : Nat} (ao : AOk A n) {scope : Scope} {x : String} {px pos : Pos} {elt iter e : Expr} (ρf : Ρ) (l : List V) (g : V → V) (p : V → Bool) (C : CompOk fm ρ ρf scope x) (hl : l.length ≤ 1000000)
    (h : Ev c fm A (eval iter fm.env) ρ σ fun v σ₁ => σ₁ = σ ∧ ∃ G, It c v l G ∧ G σ)
    (he : ∀ (fm' : Fm) v, fm'.env.scope = rel2 scope fm.env.scope → v ∈ l → Et c fm' A (isTrue e fm'.env (eval e fm'.env)) ((x, v) :: ρf) σ fun b σ₂ => b = p v ∧ σ₂ = σ ∧
      (p v = true → Ev c fm' A (eval elt fm'.env) ((x, v) :: ρf) σ fun y σ₂ => y = g v ∧ σ₂ = σ)) (k : K (.lst ((l.filter p).map g)) σ)
    (hs : ∀ x, foldedSetIterable iter fm.env x = pure x := by intro _; rfl) : Ev c fm A (eval (.ListComp elt [⟨.Name (Str.ofString x) px, iter, [e], 0⟩] scope pos) fm.env) ρ σ K := by
  refine Ev.comp ao (J := fun i acc σ' => σ' = σ ∧ acc = ((l.take i).filter p).map g) ρf C (h.mono ?_) hs
  rintro v σ₁ ⟨rfl, G, it, g0⟩
  refine ⟨l, G, it, hl, ⟨rfl, by simp⟩, ?_, Turns.filter he, ?_⟩
  · rintro i acc σ' ⟨rfl, _⟩; exact g0
  · rintro acc σ' ⟨rfl, rfl⟩
    rw [List.take_length]; exact k
def vN (g : Nat → V) : V → V
  | .int i => g i.toNat
  | v => v
def vB (p : Nat → Bool) : V → Bool
  | .int i => p i.toNat
  | _ => false
theorem rngL_map (n : Nat) (g : Nat → V) : (rngL 0 n).map (vN g) = (List.range n).map g := by
  unfold rngL
  rw [List.map_map]
  exact List.map_congr_left fun i _ => by simp [vN]
theorem rngL_filter (n : Nat) (p : Nat → Bool) (g : Nat → V) : ((rngL 0 n).filter (vB p)).map (vN g) = ((List.range n).filter p).map g := by
  unfold rngL
  rw [List.filter_map, List.map_map]
  have e : (vB p ∘ fun i : Nat => V.int (0 + (i : Int))) = p := by funext i; simp [vB]
  rw [e]
  exact List.map_congr_left fun i _ => by simp [vN]
theorem rngL_mem {n : Nat} {v : V} (h : v ∈ rngL 0 n) : ∃ i < n, v = .int (i : Int) := by
  obtain ⟨i, hi, rfl⟩ := List.mem_map.mp h
  exact ⟨i, by simpa using hi, by rw [Int.zero_add]⟩
theorem rngL_len (n : Nat) : (rngL 0 n).length = n := by simp [rngL]
end
structure Scr (ns : List Int) : Prop where
  len : ns.length ≤ 1000
  pos : ∀ x ∈ ns, 0 ≤ x
def BoxAt (σ : List O) (k : Nat) (ns : List Int) (p : Nat) (σ' : List O) : Prop :=
  ∃ cell st pos : Int, 0 ≤ cell ∧ 0 ≤ pos ∧ pos ≤ p ∧ σ' = σ.set k (.arr (boxL cell st pos (ns.map .int)))
theorem BoxAt.mono {σ σ' : List O} {k : Nat} {ns : List Int} {p q : Nat} (h : BoxAt σ k ns p σ') (e : p ≤ q) : BoxAt σ k ns q σ' := by
  obtain ⟨a, b, d, h1, h2, h3, h4⟩ := h
  exact ⟨a, b, d, h1, h2, by omega, h4⟩
theorem take' {c : Cx} {mg mb} (T : Tp c mg mb) {A : Around} {n : Nat} (a : AOk A (n + 1)) {σ σ' : List O} {k p : Nat} {ns : List Int} (hk : k < σ.length) (S : Scr ns) (B : BoxAt σ k ns p σ') (hp : p < 900000) (m : Nat) (hm : 0 < m) (hm2 : m ≤ 1000)
    {K : V → List O → Prop} (kk : ∀ (told : Nat) σ'', told < m → BoxAt σ k ns (p + 1) σ'' → K (.int told) σ'') : Cl c A (.ref 296) [.ref k, .int m] σ' K := by
  obtain ⟨cell, st, pos, h1, h2, h3, rfl⟩ := B
  refine take_spec T a hk (by omega) (by omega) h2 (by omega) S.len h1 S.pos ?_
  intro told cell' st' pos' t1 t2 t3 t4 t5
  have := kk told.toNat _ (by omega) ⟨cell', st', pos', t3, t4, by omega, rfl⟩
  rwa [show ((told.toNat : Nat) : Int) = told by omega] at this
section
variable {c : Cx} {A : Around} {σ : List O} {K : V → List O → Prop}
theorem Cl.arg {f : Value} {args args' : List V} (e : args' = args) (h : Cl c A f args' σ K) : Cl c A f args σ K := e ▸ h
theorem done {u v : V} (e : u = v) (k : K u σ) : K v σ := e ▸ k
theorem B.bytesN {n : Nat} (a : AOk A n) (xs : List Nat) (h : ∀ x ∈ xs, x < 256) (hl : xs.length ≤ 10) (k : K (.bytes (byteArr (xs.map fun (x : Nat) => (x : Int)))) σ) : Cl c A (.type "bytes") [.lst (xs.map fun (x : Nat) => .int (x : Int))] σ K := by
  have e : (xs.map fun (x : Nat) => V.int (x : Int)) = (xs.map fun (x : Nat) => (x : Int)).map V.int := by rw [List.map_map]; rfl
  rw [e]
  refine B.bytes a (.lst _) ?_ (by simp; omega) k
  intro n hn
  obtain ⟨x, hx, rfl⟩ := List.mem_map.mp hn
  have := h x hx
  exact ⟨by omega, by omega⟩
end
theorem nz' {z : Nat} {b : Nat} (h : ((z : Int) == (b : Int)) = true) : z = b := by
  have := eq_of_beq h
  omega
theorem tb_div (m i : Nat) : (((m : Int).fdiv ((2 ^ i : Nat) : Int)).fmod 2 == 1) = m.testBit i := by
  rw [Int.fdiv_eq_ediv_of_nonneg _ (Int.natCast_nonneg _), ← Int.natCast_ediv, Int.fmod_eq_emod_of_nonneg _ (by omega), Nat.testBit_eq_decide_div_mod_eq]
  have : (((m / 2 ^ i : Nat) : Int) % 2 == 1) = decide (m / 2 ^ i % 2 = 1) := by
    rw [show ((m / 2 ^ i : Nat) : Int) % 2 = ((m / 2 ^ i % 2 : Nat) : Int) by omega]
    generalize m / 2 ^ i % 2 = z
    cases h : decide (z = 1)
    · have := of_decide_eq_false h
      simpa using (by omega : ¬ ((z : Int) = 1))
    · have := of_decide_eq_true h
      subst this; rfl
  exact this
theorem pow_small {c : Cx} {A : Around} {σ : List O} {K : V → List O → Prop} {i : Nat} (hi : i < 40) (k : K (.int ((2 ^ i : Nat) : Int)) σ) : Op2 c A (binaryOp .Pow) (.int 2) (.int (i : Int)) σ K := by
  refine I.pow (by omega) ?_ ?_
  · have : Builtin.Int.intBits 2 = 2 := by decide +kernel
    rw [this]
    have e : (2 : Int) ^ 27 = 134217728 := by decide
    omega
  · rw [Int.toNat_natCast]
    rw [Int.natCast_pow] at k
    exact k
theorem pow_nz (i : Nat) (hi : i < 29) : ((2 ^ i : Nat) : Int) ≠ 0 ∧ ((2 ^ i : Nat) : Int).natAbs < 1073741824 := by
  have h1 : 0 < 2 ^ i := Nat.two_pow_pos i
  have h2 : 2 ^ i < 2 ^ 29 := Nat.pow_lt_pow_right (by decide) hi
  omega
theorem pair_r (j : Nat) (hj : j < 13) : pairV j = .tup [.str (Str.ofString "r"), .int (j : Int)] := by
  unfold pairV kd nu
  rw [if_pos (by omega), if_pos (by omega)]
theorem pair_d (j : Nat) (hj : j < 32) : pairV (14 + j) = .tup [.str (Str.ofString "d"), .int (j : Int)] := by
  unfold pairV kd nu
  rw [if_neg (by omega), if_pos (by omega), if_neg (by omega), if_neg (by omega), if_pos (by omega), show 14 + j - 14 = j by omega]
theorem pair_w (j : Nat) (hj : j < 16) : pairV (46 + j) = .tup [.str (Str.ofString "wR"), .int (j : Int)] := by
  unfold pairV kd nu
  rw [if_neg (by omega), if_neg (by omega), if_pos (by omega), if_neg (by omega), if_neg (by omega), if_neg (by omega), if_pos (by omega), show 46 + j - 46 = j by omega]
theorem pair_c (j : Nat) (hj : j < 4) : pairV (62 + j) = .tup [.str (Str.ofString "wCGR"), .int (j : Int)] := by
  unfold pairV kd nu
  rw [if_neg (by omega), if_neg (by omega), if_neg (by omega), if_neg (by omega), if_neg (by omega), if_neg (by omega), if_neg (by omega), show 62 + j - 62 = j by omega]
structure Men (men : List Nat) : Prop where
  nd : men.Nodup
  rng : ∀ k ∈ men, 4 ≤ k ∧ k < 15 ∧ k ≠ 13
def srt (men : List Nat) : List Nat := (List.range 16).filter fun k => decide (k ∈ men)
def msum (men : List Nat) : Nat := (men.map fun k => 2 ^ (k - 4)).sum
def Sn (P : Nat → Bool) (n : Nat) : Nat := (((List.range n).filter P).map (2 ^ ·)).sum
theorem Sn_succ (P : Nat → Bool) (n : Nat) : Sn P (n + 1) = Sn P n + if P n then 2 ^ n else 0 := by
  unfold Sn
  rw [List.range_succ, List.filter_append, List.map_append, List.sum_append]
  cases h : P n <;> simp [h]
theorem Sn_lt (P : Nat → Bool) (n : Nat) : Sn P n < 2 ^ n := by
  induction n with
  | zero => simp [Sn]
  | succ n ih =>
    rw [Sn_succ, Nat.pow_succ]
    split <;> omega
theorem Sn_bit (P : Nat → Bool) (n i : Nat) : (Sn P n).testBit i = (decide (i < n) && P i) := by
  induction n with
  | zero => simp [Sn]
  | succ n ih =>
    have hlt := Sn_lt P n
    rw [Sn_succ]
    cases h : P n with
    | false =>
      rw [if_neg (by simp), Nat.add_zero, ih]
      by_cases e : i = n
      · subst e; simp [h]
      · have : (decide (i < n + 1)) = decide (i < n) := by
          by_cases q : i < n
          · simp [q]; omega
          · simp [q]; omega
        rw [this]
    | true =>
      rw [if_pos rfl, Nat.add_comm]
      rcases Nat.lt_trichotomy i n with q | q | q
      · rw [Nat.testBit_two_pow_add_gt q, ih]
        have : decide (i < n + 1) = decide (i < n) := by simp [q]; omega
        rw [this]
      · subst q
        rw [Nat.testBit_two_pow_add_eq, ih]
        simp [h]
      · rw [Nat.testBit_lt_two_pow]
        · have : ¬ i < n + 1 := by omega
          simp [this]
        · have e1 : 2 ^ (n + 1) ≤ 2 ^ i := Nat.pow_le_pow_right (by decide) q
          rw [Nat.pow_succ] at e1
          omega
theorem srt_mem {men : List Nat} (M : Men men) (k : Nat) : k ∈ srt men ↔ k ∈ men := by
  unfold srt
  simp only [List.mem_filter, List.mem_range, decide_eq_true_eq]
  exact ⟨fun h => h.2, fun h => ⟨by have := (M.rng k h); omega, h⟩⟩
theorem srt_nd (men : List Nat) : (srt men).Nodup := List.Pairwise.filter _ List.nodup_range
theorem srt_perm {men : List Nat} (M : Men men) : (srt men).Perm men :=
  (List.perm_ext_iff_of_nodup (srt_nd men) M.nd).mpr fun k => srt_mem M k
theorem srt_sorted (men : List Nat) : (srt men).Pairwise (· ≤ ·) :=
  List.Pairwise.filter _ (List.pairwise_lt_range.imp fun h => Nat.le_of_lt h)
theorem msum_eq {men : List Nat} (M : Men men) : msum men = Sn (fun i => decide (i + 4 ∈ men)) 12 := by
  unfold msum Sn
  refine List.Perm.sum_nat ?_
  have e : (men.map fun k => 2 ^ (k - 4)) = (men.map (· - 4)).map (2 ^ ·) := by rw [List.map_map]; rfl
  rw [e]
  refine List.Perm.map _ ((List.perm_ext_iff_of_nodup ?_ (List.Pairwise.filter _ List.nodup_range)).mpr fun i => ?_)
  · refine List.Pairwise.map _ (fun a b h => h) ?_
    refine List.Pairwise.imp_of_mem (R := fun a b => a ≠ b) ?_ M.nd
    intro a b ha hb h
    have := M.rng a ha
    have := M.rng b hb
    omega
  · simp only [List.mem_map, List.mem_filter, List.mem_range, decide_eq_true_eq]
    constructor
    · rintro ⟨k, hk, rfl⟩
      have := M.rng k hk
      exact ⟨by omega, by rw [show k - 4 + 4 = k by omega]; exact hk⟩
    · rintro ⟨hi, h⟩
      exact ⟨i + 4, h, by omega⟩
theorem msum_lt {men : List Nat} (M : Men men) : msum men < 4096 := by
  rw [msum_eq M]; exact Sn_lt _ 12
theorem msum_bits {men : List Nat} (M : Men men) : bits (16 * msum men) 32 = srt men := by
  have e : ∀ i, (16 * msum men).testBit i = decide (i ∈ men) := fun i => by
    rw [show 16 = 2 ^ 4 from rfl, Nat.testBit_two_pow_mul, msum_eq M, Sn_bit]
    by_cases q : 4 ≤ i
    · rw [show i - 4 + 4 = i by omega]
      by_cases q2 : i ∈ men
      · have := M.rng i q2
        simp [q, q2]; omega
      · simp [q2]
    · have : i ∉ men := fun h => q (M.rng i h).1
      simp [q, this]
  unfold bits srt
  have e2 : List.range 32 = List.range 16 ++ (List.range 16).map (16 + ·) := by decide
  rw [e2, List.filter_append]
  have e3 : ((List.range 16).map (16 + ·)).filter (fun i => (16 * msum men).testBit i) = [] := by
    rw [List.filter_eq_nil_iff]
    intro a ha
    obtain ⟨b, _, rfl⟩ := List.mem_map.mp ha
    rw [e]
    intro h
    have := M.rng _ (of_decide_eq_true h)
    omega
  rw [e3, List.append_nil]
  exact List.filter_congr fun i _ => e i
theorem srt_nil {men : List Nat} (M : Men men) (h : srt men = []) : men = [] := by
  cases men with
  | nil => rfl
  | cons a r => have := (srt_mem M a).mpr (.head _); rw [h] at this; cases this
theorem msum_pos {men : List Nat} (M : Men men) (h : men ≠ []) : 0 < msum men := by
  cases men with
  | nil => exact absurd rfl h
  | cons a r =>
    unfold msum
    have : 0 < 2 ^ (a - 4) := Nat.two_pow_pos _
    simp only [List.map_cons, List.sum_cons]
    omega
theorem sorted_eq {men : List Nat} (M : Men men) {ns : List Int} (p : ns.Perm (men.map fun (k : Nat) => (k : Int))) (q : ns.Pairwise (· ≤ ·)) : ns = (srt men).map fun (k : Nat) => (k : Int) := by
  refine List.Perm.eq_of_pairwise (le := (· ≤ ·)) (fun a b _ _ h1 h2 => by omega) q ?_ (p.trans ((srt_perm M).map _).symm)
  exact List.Pairwise.map _ (fun a b h => by omega) (srt_sorted men)
def base9 : List Nat := [4, 5, 6, 8, 9, 10, 11, 12, 14]
theorem men_of {sub : List Nat} (h : sub.Sublist base9) : Men sub ∧ Men (sub ++ [7]) ∧ 7 ∉ sub := by
  have b1 : base9.Nodup := by decide
  have b2 : ∀ k ∈ base9, 4 ≤ k ∧ k < 15 ∧ k ≠ 13 ∧ k ≠ 7 := by decide
  have n1 := h.nodup b1
  have r1 : ∀ k ∈ sub, 4 ≤ k ∧ k < 15 ∧ k ≠ 13 ∧ k ≠ 7 := fun k hk => b2 k (h.subset hk)
  have m7 : 7 ∉ sub := fun h => (r1 7 h).2.2.2 rfl
  refine ⟨⟨n1, fun k hk => ⟨(r1 k hk).1, (r1 k hk).2.1, (r1 k hk).2.2.1⟩⟩, ⟨?_, ?_⟩, m7⟩
  · refine List.nodup_append.mpr ⟨n1, by simp, ?_⟩
    intro a ha b hb
    simp at hb
    subst hb
    exact fun e => m7 (e ▸ ha)
  · intro k hk
    rcases List.mem_append.mp hk with hk | hk
    · exact ⟨(r1 k hk).1, (r1 k hk).2.1, (r1 k hk).2.2.1⟩
    · simp at hk; subst hk; decide
theorem Ex.setCompMap {c : Cx} {fm : Fm} {A : Around} {ρ : Ρ} {σ : List O} {K : FV → Ρ → List O → Prop} {n : Nat} (ao : AOk A n) {scope : Scope} {x y : String} {px py pos spos : Pos} {elt iter : Expr} (ρf : Ρ) (l : List V) (g : V → V) (C : CompOk fm ρ ρf scope x) (hl : l.length ≤ 1000000)
    (h : Ev c fm A (eval iter fm.env) ρ σ fun v σ₁ => σ₁ = σ ∧ ∃ G, It c v l G ∧ G σ)
    (he : ∀ (fm' : Fm) v, fm'.env.scope = rel2 scope fm.env.scope → v ∈ l → Ev c fm' A (eval elt fm'.env) ((x, v) :: ρf) σ fun y σ₂ => y = g v ∧ σ₂ = σ) (k : As c fm A (storeName fm.env (Str.ofString y)) (.lst (l.map g)) ρ σ fun ρ' σ'' => K .next ρ' σ'')
    (hsw : swapsWith (.ListComp elt [⟨.Name (Str.ofString x) px, iter, [], 0⟩] scope pos) (some (.Name (Str.ofString y) py)) spos.line fm.env = pure true)
    (hs : ∀ x, foldedSetIterable iter fm.env x = pure x := by intro _; rfl) : Ex c fm A (exec (.Assign [.Name (Str.ofString y) py] (.ListComp elt [⟨.Name (Str.ofString x) px, iter, [], 0⟩] scope pos) spos) fm.env) ρ σ K := by
  refine Ex.setComp ao (J := fun i acc σ' => σ' = σ ∧ acc = (l.take i).map g) ρf C (h.mono ?_) hsw hs
  rintro v σ₁ ⟨rfl, G, it, g0⟩
  refine ⟨l, G, it, hl, ⟨rfl, rfl⟩, ?_, Turns.map he, ?_⟩
  · rintro i acc σ' ⟨rfl, _⟩; exact g0
  · rintro acc σ' ⟨rfl, rfl⟩
    rw [List.take_length]; exact k
theorem em (l : List Nat) : (l.map fun (k : Nat) => V.int (k : Int)) = (l.map fun (k : Nat) => (k : Int)).map V.int := by rw [List.map_map]; rfl
theorem sum_cast (l : List Nat) (f : Nat → Nat) : (l.map fun k => ((f k : Nat) : Int)).sum = (((l.map f).sum : Nat) : Int) := by
  induction l with
  | nil => rfl
  | cons a r ih => simp only [List.map_cons, List.sum_cons, ih]; omega
theorem fdiv_nat (a b : Nat) : (a : Int).fdiv (b : Int) = ((a / b : Nat) : Int) := by
  rw [Int.fdiv_eq_ediv_of_nonneg _ (Int.natCast_nonneg _), ← Int.natCast_ediv]
theorem fmod_nat (a b : Nat) : (a : Int).fmod (b : Int) = ((a % b : Nat) : Int) := by
  rw [Int.fmod_eq_emod_of_nonneg _ (Int.natCast_nonneg _), ← Int.natCast_emod]
theorem pair_gi {men : List Nat} (M : Men men) {k : Nat} (hk : k ∈ men) : pairV (gi k) = .tup [.str (Str.ofString "r"), .int (k : Int)] := by
  have := M.rng k hk
  unfold gi
  by_cases e : k = 14
  · subst e; rw [if_pos rfl]; rfl
  · rw [if_neg e]; exact pair_r k (by omega)
theorem op_spec {c : Cx} {mg mb} (T : Tp c mg mb) {A : Around} {n : Nat} (a : AOk A (n + 3)) {σ σ' : List O} {k p : Nat} {ns : List Int} (hk : k < σ.length) (S : Scr ns) (Bx : BoxAt σ k ns p σ') (hp : p < 800000) (seven : Bool)
    {K : V → List O → Prop} (kk : ∀ (o : Opn) σ'', OpOk seven o → BoxAt σ k ns (p + 20) σ'' → K (opV o) σ'') : Cl c A (.ref 308) [.ref k, .bool seven] σ' K := by
  refine Cl.defC T.G (Def.mk' T.G (by rw [T.K]; k_is) (by rw [T.K]; k_is) ?_ (by decide)) (xs := ["box", "seven"]) a rfl ?_ (by decide) ?_
  · intro vals hl
    match vals, hl with
    | [a, b], _ => rfl
  · intro vals hl
    match vals, hl with
    | [a, b], _ => rfl
  intro fm A' hs a' hcell
  dsimp only [List.zip_cons_cons, List.zip_nil_left, List.zip, List.zipWith]
  obtain ⟨cm, cm1, cm2⟩ := hcell (Str.ofString "mask") rfl
  obtain ⟨cf, cf1, cf2⟩ := hcell (Str.ofString "first") rfl
  clear hcell
  refine Ex.cons ?_
  refine Ex.setSwap (names := [Str.ofString "sort", Str.ofString "few"]) a' ?_ rfl ?hw
  case hw => simp only [swappedStores, Env.blockKind, Env.kindOf, hs]; rfl
  refine Ev.tup ?_
  walk_at "H"
  refine take' T a' hk S Bx (by omega) 9 (by decide) (by decide) fun s σ1 hs1 B1 => ?_
  walk_at "H"
  refine take' T a' hk S B1 (by omega) 8 (by decide) (by decide) fun f σ2 hf B2 => ?_
  walk_at "H"
  refine ⟨by simp, _, rfl, rfl, ?_⟩
  refine Ass.cons (As.bind ?_)
  walk_at "H"
  refine Ass.cons (As.bind ?_)
  walk_at "H"
  refine Ass.nil ?_
  walk_at "H"
  with_reducible refine ifb (fun q0 => ?_) (fun q0 => ?_)
  · walk_at "H"
    refine Ev.tup ?_
    walk_at "H"
    refine Ev.lst ?_
    walk_at "H"
    refine I.mul (.of_right (by decide)) ?_
    walk_at "H"
    refine ⟨by simp, ?_⟩
    walk_at "H"
    refine Cl.arg (args' := [.lst ([7 * f].map fun (x : Nat) => .int (x : Int))]) ?_ ?_
    · show [V.lst [.int ((7 * f : Nat) : Int)]] = _
      rw [show ((7 * f : Nat) : Int) = f * 7 by omega]
    refine B.bytesN a' _ (by simp; omega) (by simp) ?_
    walk_at "H"
    refine I.mul (.of_right (by decide)) ?_
    walk_at "H"
    refine Ev.lst ?_
    walk_at "H"
    refine ⟨by simp, ?_⟩
    walk_at "H"
    refine ⟨by simp, ?_⟩
    walk_at "H"
    refine done ?_ (kk _ _ (OpOk.add f hf) (B2.mono (by omega)))
    show V.tup [_, .int ((28 * f + 4 : Nat) : Int), _] = _
    rw [show ((28 * f + 4 : Nat) : Int) = f * 28 + 4 by omega]
    rfl
  walk_at "H"
  with_reducible refine ifb (fun q1 => ?_) (fun q1 => ?_)
  · walk_at "H"
    refine take' T a' hk S B2 (by omega) 20 (by decide) (by decide) fun m σ3 hm B3 => ?_
    walk_at "H"
    refine Ev.tup ?_
    walk_at "H"
    refine Ev.lst ?_
    walk_at "H"
    refine ⟨by simp, ?_⟩
    walk_at "H"
    refine Cl.arg (args' := [.lst ([f + m, 64 + f].map fun (x : Nat) => .int (x : Int))]) ?_ ?_
    · show [V.lst [.int ((f + m : Nat) : Int), .int ((64 + f : Nat) : Int)]] = _
      rw [show ((f + m : Nat) : Int) = f + m by omega, show ((64 + f : Nat) : Int) = 64 + f by omega]
    refine B.bytesN a' _ (by simp; omega) (by simp) ?_
    walk_at "H"
    refine I.mul (.of_left (by decide)) ?_
    walk_at "H"
    refine Ev.lst ?_
    walk_at "H"
    refine ⟨by simp, ?_⟩
    walk_at "H"
    refine ⟨by simp, ?_⟩
    walk_at "H"
    refine done ?_ (kk _ _ (OpOk.addsub f m hf hm) (B3.mono (by omega)))
    show V.tup [_, .int ((4 * m : Nat) : Int), _] = _
    rw [show ((4 * m : Nat) : Int) = 4 * m by omega]
    rfl
  walk_at "H"
  refine Ev.tup ?_
  walk_at "H"
  refine ⟨by simp, ?_⟩
  refine X.inInts (ns := [2, 3]) ?_
  walk_at "H"
  with_reducible refine ifb (fun q2 => ?_) (fun q2 => ?_)
  · have hs2 : s = 2 ∨ s = 3 := by
      simp only [List.any_cons, List.any_nil, Bool.or_false, Bool.or_eq_true, beq_iff_eq] at q2
      omega
    refine Ex.cut (ι := Nat) (fun w => [("box", .ref k), ("seven", .bool seven), ("few", .int (w : Int)), ("sort", .int (s : Int))]) (fun w σ' => σ' = σ2 ∧ w < 8 ∧ (seven = true ∨ w < 3)) ?_ ?_
    · walk_at "H"
      refine Et.val ?_
      walk_at "H"
      with_reducible refine ifb (fun q3 => ?_) (fun q3 => ?_)
      · walk_at "H"
        exact .inl ⟨by first | rfl | trivial, f, Sub.cons rfl (Sub.cons rfl (Sub.cons rfl (Sub.cons rfl (Sub.nil _)))), by first | rfl | trivial, hf, .inl q3⟩
      · walk_at "H"
        refine I.mod (by omega) ?_
        walk_at "H"
        refine .inl ⟨by first | rfl | trivial, f % 3, Sub.cons rfl (Sub.cons rfl (Sub.cons ?_ (Sub.cons rfl (Sub.nil _)))), by first | rfl | trivial, by omega, .inr (by omega)⟩
        show some (V.int ((f : Int).fmod 3)) = _
        rw [Int.fmod_eq_emod_of_nonneg _ (by omega)]; rfl
    rintro w σ' ⟨rfl, hw, hw7⟩
    refine Ex.cons ?_
    refine (Ex.set ?_ ?hs)
    case hs => rfl
    walk_at "H"
    refine Ev.compMap a' [] (rngL 0 (w + 1)) (vN fun i => .tup [.str (Str.ofString "r"), .int ((4 + i : Nat) : Int)]) (.plain rfl (by decide) (by decide) rfl) (by rw [rngL_len]; omega) ?_ ?_ ?_
    · walk_at "H"
      refine B.range ?_
      exact ⟨rfl, _, It.range0 (n := w + 1) (by omega) (by omega), trivial⟩
    · intro fm' v hs' hv
      obtain ⟨i, hi, rfl⟩ := rngL_mem hv
      refine Ev.tup ?_
      walk_at "H"
      refine ⟨by simp, ?_, rfl⟩
      show V.tup [_, .int (4 + (i : Int))] = V.tup [_, .int ((4 + i : Nat) : Int)]
      rw [show ((4 + i : Nat) : Int) = 4 + (i : Int) by omega]
    rw [rngL_map]
    walk_at "H"
    have r13 : ∀ j, j < 13 → pairV j = .tup [.str (Str.ofString "r"), .int (j : Int)] := fun j hj => by
      unfold pairV kd nu
      rw [if_pos (by omega), if_pos (by omega)]
    with_reducible refine ifb (fun q3 => ?_) (fun q3 => ?_)
    · have e3 : s = 3 := nz' (b := 3) q3
      refine Ev.lst ?_
      walk_at "H"
      refine Ev.tup ?_
      walk_at "H"
      refine ⟨by simp, ?_⟩
      walk_at "H"
      refine ⟨by simp, ?_⟩
      refine X.listAdd (.lst _) (.lst _) (by simp; omega) ?_
      walk_at "H"
      refine Ev.tup ?_
      walk_at "H"
      refine Ev.lst ?_
      walk_at "H"
      refine I.mul (.of_left (by decide)) ?_
      walk_at "H"
      refine ⟨by simp, ?_⟩
      walk_at "H"
      refine Cl.arg (args' := [.lst ([168 + w].map fun (x : Nat) => .int (x : Int))]) ?_ ?_
      · show [V.lst [.int ((168 + w : Nat) : Int)]] = _
        rw [show ((168 + w : Nat) : Int) = 160 + 8 * (s - 2) + w by omega]
      refine B.bytesN a' _ (by simp; omega) (by simp) ?_
      walk_at "H"
      refine ⟨by simp, ?_⟩
      have hr : ∀ n < 8, gj (rm 4 n ||| 1 * 2 ^ 14) = (List.range (n + 1)).map (4 + ·) ++ [13] := by decide +kernel
      have h7 : ∀ n < 3, 7 ∉ gj (rm 4 n ||| 1 * 2 ^ 14) := by decide +kernel
      refine done ?_ (kk _ _ (OpOk.pop _ _ (Item.p4l w hw) (by rw [hr w hw]; simp) ?_ ?_) (B2.mono (by omega)))
      · show V.tup [_, _, .lst ((gj _).map pairV)] = _
        rw [hr w hw, List.map_append, List.map_map]
        congr 4
        · exact congrArg V.lst (congrArg (· ++ _) (List.map_congr_left fun i hi => r13 (4 + i) (by simp at hi; omega)))
      · intro j hj
        rw [hr w hw] at hj
        simp at hj
        omega
      · intro hj
        rcases hw7 with h | h
        · exact h
        · exact absurd hj (h7 w h)
    · have e3 : s = 2 := by
        rcases hs2 with h | h
        · exact h
        · subst h; exact absurd q3 (by decide)
      refine Ev.lst ?_
      walk_at "H"
      refine ⟨by simp, ?_⟩
      refine X.listAdd (.lst _) (.lst _) (by simp; omega) ?_
      walk_at "H"
      refine Ev.tup ?_
      walk_at "H"
      refine Ev.lst ?_
      walk_at "H"
      refine I.mul (.of_left (by decide)) ?_
      walk_at "H"
      refine ⟨by simp, ?_⟩
      walk_at "H"
      refine Cl.arg (args' := [.lst ([160 + w].map fun (x : Nat) => .int (x : Int))]) ?_ ?_
      · show [V.lst [.int ((160 + w : Nat) : Int)]] = _
        rw [show ((160 + w : Nat) : Int) = 160 + 8 * (s - 2) + w by omega]
      refine B.bytesN a' _ (by simp; omega) (by simp) ?_
      walk_at "H"
      refine ⟨by simp, ?_⟩
      have hr : ∀ n < 8, gj (rm 4 n) = (List.range (n + 1)).map (4 + ·) := by decide +kernel
      have h7 : ∀ n < 3, 7 ∉ gj (rm 4 n) := by decide +kernel
      refine done ?_ (kk _ _ (OpOk.pop _ _ (Item.p4 w hw) (by rw [hr w hw]; simp) ?_ ?_) (B2.mono (by omega)))
      · show V.tup [_, _, .lst ((gj _).map pairV)] = _
        rw [hr w hw, List.map_map, List.append_nil]
        congr 4
        · exact congrArg V.lst (List.map_congr_left fun i hi => r13 (4 + i) (by simp at hi; omega))
      · intro j hj
        rw [hr w hw] at hj
        simp at hj
        omega
      · intro hj
        rcases hw7 with h | h
        · exact h
        · exact absurd hj (h7 w h)
  walk_at "H"
  with_reducible refine ifb (fun q4 => ?_) (fun q4 => ?_)
  · walk_at "H"
    refine take' T a' hk S B2 (by omega) 15 (by decide) (by decide) fun m σ3 hm B3 => ?_
    walk_at "H"
    refine store_cell ?h1 cm1 cm2 ?_
    case h1 => rw [Env.kindOf, hs]; rfl
    simp only [put, String.reduceEq, ↓reduceIte]
    walk_at "H"
    refine Ev.tup ?_
    walk_at "H"
    refine Ev.lst ?_
    walk_at "H"
    refine ⟨by simp, ?_⟩
    walk_at "H"
    refine Cl.arg (args' := [.lst ([177, 1 + m].map fun (x : Nat) => .int (x : Int))]) ?_ ?_
    · show [V.lst [.int (177 : Nat), .int ((1 + m : Nat) : Int)]] = _
      rw [show ((1 + m : Nat) : Int) = 1 + m by omega]; rfl
    refine B.bytesN a' _ (by simp; omega) (by simp) ?_
    walk_at "H"
    refine Ev.compFilter a' [("mask", .int (1 + m : Int))] (rngL 0 4) (vN fun i => .tup [.str (Str.ofString "r"), .int (i : Int)]) (vB fun i => (1 + m).testBit i) (.free1 _ _ rfl (by decide) (by decide) rfl (by decide) rfl rfl (by rw [Env.kindOf, hs]; decide)) (by rw [rngL_len]; omega) ?_ ?_ ?_
    · walk_at "H"
      refine B.range ?_
      exact ⟨rfl, _, It.range0 (n := 4) rfl (by omega), trivial⟩
    · intro fm' v hs' hv
      obtain ⟨i, hi, rfl⟩ := rngL_mem hv
      walk_at "H"
      refine pow_small (by omega) ?_
      refine Op2.ints (a := ((1 + m : Nat) : Int)) (b := ((2 ^ i : Nat) : Int)) (by omega) rfl ?_
      have h2 := pow_nz i (by omega)
      refine I.div h2.1 h2.2 ?_
      walk_at "H"
      refine I.mod (by omega) ?_
      walk_at "H"
      refine ⟨tb_div _ _, by first | rfl | trivial, fun _ => ?_⟩
      refine Ev.tup ?_
      walk_at "H"
      exact ⟨by simp, rfl, by first | rfl | trivial⟩
    rw [rngL_filter]
    walk_at "H"
    refine ⟨by simp, ?_⟩
    have hr : ∀ n < 16, gj n = (List.range 4).filter (fun i => n.testBit i) := by decide +kernel
    have hne : ∀ n < 16, 0 < n → gj n ≠ [] ∧ 7 ∉ gj n := by decide +kernel
    have h16 : 1 + m < 16 := by omega
    refine done ?_ (kk _ _ (OpOk.pop _ _ (Item.m4 (1 + m) (by omega) (by omega)) (hne _ h16 (by omega)).1 ?_ ?_) (B3.mono (by omega)))
    · show V.tup [_, _, .lst ((gj _).map pairV)] = _
      rw [hr _ h16]
      congr 4
      exact congrArg V.lst (List.map_congr_left fun i hi => pair_r i (by simp at hi; omega))
    · intro j hj
      rw [hr _ h16] at hj
      simp at hj
      omega
    · intro hj
      exact absurd hj (hne _ h16 (by omega)).2
  walk_at "H"
  with_reducible refine ifb (fun q5 => ?_) (fun q5 => ?_)
  · refine Ex.cut (ι := List Nat) (fun men => [("box", .ref k), ("seven", .bool seven), ("few", .int (f : Int)), ("sort", .int (s : Int)), ("menu", .lst (men.map fun (k : Nat) => .int (k : Int)))]) (fun men σ' => BoxAt σ k ns (p + 11) σ' ∧ Men men ∧ (7 ∈ men → seven = true)) ?_ ?_
    · walk_at "H"
      refine Ev.comp a' (J := fun i acc σ' => ∃ sub : List Nat, acc = (sub.map fun (k : Nat) => V.int (k : Int)) ∧ sub.Sublist (base9.take i) ∧ BoxAt σ k ns (p + 2 + i) σ') [("box", .ref k)] (.free1 _ _ rfl (by decide) (by decide) rfl (by decide) rfl rfl (by rw [Env.kindOf, hs]; decide)) ?_
      refine Ev.tup ?_
      walk_at "H"
      refine ⟨by simp, base9.map fun (k : Nat) => V.int (k : Int), _, It.tup, by decide, ⟨[], rfl, .slnil, B2⟩, fun _ _ _ _ => trivial, ?_, ?_⟩
      · rintro fm' i v acc σ' hs' hv ⟨sub, rfl, hsub, Bi⟩
        rw [List.getElem?_map] at hv
        have hi : i < 9 := by
          by_cases q : i < 9
          · exact q
          · rw [List.getElem?_eq_none (by simp [base9]; omega)] at hv; cases hv
        cases hb : base9[i]? with
        | none => rw [hb] at hv; cases hv
        | some b =>
          rw [hb] at hv
          cases hv
          refine Ts.one ?_
          walk_at "H"
          refine take' T a' hk S Bi (by omega) 2 (by decide) (by decide) fun z σ4 hz B4 => ?_
          walk_at "H"
          with_reducible refine ifb (fun q6 => ?_) (fun q6 => ?_)
          · walk_at "H"
            refine ⟨sub ++ [b], by simp, ?_, B4⟩
            rw [List.take_add_one, hb]
            exact hsub.append (List.Sublist.refl _)
          · refine ⟨sub, rfl, ?_, B4⟩
            rw [List.take_add_one]
            exact hsub.trans (List.sublist_append_left _ _)
      rintro acc σ' ⟨sub, rfl, hsub, Bi⟩
      have hsub' : sub.Sublist base9 := hsub
      have mo := men_of hsub'
      walk_at "H"
      refine Et.val ?_
      walk_at "H"
      with_reducible refine ifb (fun q3 => ?_) (fun q3 => ?_)
      · refine Ev.lst ?_
        walk_at "H"
        refine ⟨by simp, ?_⟩
        have hl : sub.length ≤ 9 := hsub'.length_le
        refine X.listAdd (.lst _) (.lst _) (by simp; omega) ?_
        walk_at "H"
        refine .inl ⟨by first | rfl | trivial, sub ++ [7], Sub.cons rfl (Sub.cons rfl (Sub.cons rfl (Sub.cons rfl (Sub.cons ?_ (Sub.nil _))))), Bi, mo.2.1, fun _ => q3⟩
        rw [List.map_append]; rfl
      · refine Ev.lst ?_
        walk_at "H"
        refine ⟨by simp, ?_⟩
        have hl : sub.length ≤ 9 := hsub'.length_le
        refine X.listAdd (.lst _) (.lst _) (by simp; omega) ?_
        walk_at "H"
        refine .inl ⟨by first | rfl | trivial, sub, Sub.cons rfl (Sub.cons rfl (Sub.cons rfl (Sub.cons rfl (Sub.cons ?_ (Sub.nil _))))), Bi, mo.1, fun h => absurd h mo.2.2⟩
        rw [List.append_nil]; rfl
    rintro men σ' ⟨B3, M, h7⟩
    walk_at "H"
    refine Ev.compMap a' [] (men.map fun (k : Nat) => V.int (k : Int)) (vN fun k => .int ((2 ^ (k - 4) : Nat) : Int)) (.plain rfl (by decide) (by decide) rfl) ?_ ?_ ?_ ?_
    · have := (srt_perm M).length_eq
      have : (srt men).length ≤ 16 := Nat.le_trans (List.length_filter_le _ _) (by simp)
      rw [List.length_map]; omega
    · walk_at "H"
      exact ⟨by first | rfl | trivial, _, It.list, Lq.lst _⟩
    · intro fm' v hs' hv
      obtain ⟨k', hk', rfl⟩ := List.mem_map.mp hv
      have := M.rng k' hk'
      walk_at "H"
      refine Op2.ints (a := (2 : Int)) (b := ((k' - 4 : Nat) : Int)) rfl (by omega) ?_
      refine pow_small (by omega) ?_
      exact ⟨rfl, by first | rfl | trivial⟩
    have lm : men.length ≤ 16 := by
      have := (srt_perm M).length_eq
      have : (srt men).length ≤ 16 := Nat.le_trans (List.length_filter_le _ _) (by simp)
      omega
    have e1 : ((men.map fun (k : Nat) => V.int (k : Int)).map (vN fun k => .int ((2 ^ (k - 4) : Nat) : Int))) = (men.map fun k => ((2 ^ (k - 4) : Nat) : Int)).map V.int := by
      rw [List.map_map, List.map_map]; rfl
    rw [e1]
    walk_at "H"
    refine B.sum a' (.lst _) ?_
    rw [sum_cast]
    show As c fm A' _ (.int ((msum men : Nat) : Int)) _ _ _
    refine store_cell ?h1 cm1 cm2 ?_
    case h1 => rw [Env.kindOf, hs]; rfl
    simp only [put, String.reduceEq, ↓reduceIte]
    refine Ex.cons ?_
    refine Ex.setCompMap a' (x := "k") (y := "popped") [] ((srt men).map fun (k : Nat) => V.int (k : Int)) (vN fun k => .tup [.str (Str.ofString "r"), .int (k : Int)]) (.plain rfl (by decide) (by decide) rfl) ?_ ?_ ?_ ?_ ?hsw
    case hsw =>
      simp only [swapsWith, Env.blockKind, Env.kindOf, hs]
      rfl
    · rw [List.length_map]
      exact Nat.le_trans (List.length_filter_le _ _) (by simp)
    · walk_at "H"
      refine B.sorted (ns := men.map fun (k : Nat) => (k : Int)) (by rw [em]; exact .lst _) (by rw [List.length_map]; omega) fun ns' pr so => ?_
      have := sorted_eq M pr so
      subst this
      exact ⟨by first | rfl | trivial, _, It.list, by rw [em]; exact Lq.arr _⟩
    · intro fm' v hs' hv
      obtain ⟨k', hk', rfl⟩ := List.mem_map.mp hv
      refine Ev.tup ?_
      walk_at "H"
      exact ⟨by simp, rfl, by first | rfl | trivial⟩
    have e2 : ((srt men).map fun (k : Nat) => V.int (k : Int)).map (vN fun k => .tup [.str (Str.ofString "r"), .int (k : Int)]) = (srt men).map fun (k : Nat) => V.tup [.str (Str.ofString "r"), .int (k : Int)] := by
      rw [List.map_map]; rfl
    rw [e2]
    walk_at "H"
    refine Et.val ?_
    walk_at "H"
    refine Mine.T.list (.lst _) (by rw [List.length_map]; exact Nat.le_trans (List.length_filter_le _ _) (by simp)) ?_
    with_reducible refine ifb (fun q3 => ?_) (fun q3 => ?_)
    · have hne : men ≠ [] := by
        rintro rfl
        exact absurd q3 (by decide)
      refine Ev.tup ?_
      walk_at "H"
      refine Ev.lst ?_
      walk_at "H"
      refine I.div (by decide) (by decide) ?_
      walk_at "H"
      refine I.mod (by decide) ?_
      walk_at "H"
      refine ⟨by simp, ?_⟩
      walk_at "H"
      have ml := msum_lt M
      refine Cl.arg (args' := [.lst ([128 + msum men / 256, msum men % 256].map fun (x : Nat) => .int (x : Int))]) ?_ ?_
      · show [V.lst [.int ((128 + msum men / 256 : Nat) : Int), .int ((msum men % 256 : Nat) : Int)]] = [V.lst [.int (128 + ((msum men : Nat) : Int).fdiv ((256 : Nat) : Int)), .int (((msum men : Nat) : Int).fmod ((256 : Nat) : Int))]]
        rw [fdiv_nat, fmod_nat, show ((128 + msum men / 256 : Nat) : Int) = 128 + ((msum men / 256 : Nat) : Int) by omega]
      refine B.bytesN a' _ (by intro x hx; simp at hx; omega) (by simp) ?_
      walk_at "H"
      refine ⟨by simp, ?_⟩
      have hb := msum_bits M
      have hg : gj (16 * msum men) = (srt men).map gi := by unfold gj; rw [hb]
      refine done ?_ (kk _ _ (OpOk.pop _ _ (Item.m12 (msum men) (msum_pos M hne) ml ?_) ?_ ?_ ?_) (B3.mono (by omega)))
      · show V.tup [_, _, .lst ((gj _).map pairV)] = _
        rw [hg, List.map_map]
        exact congrArg (fun z => V.tup [_, _, V.lst z]) (List.map_congr_left fun i hi => pair_gi M ((srt_mem M i).mp hi))
      · intro i hi
        rw [hb] at hi
        have := M.rng i ((srt_mem M i).mp hi)
        omega
      · rw [hg]
        intro h
        exact hne (srt_nil M (List.map_eq_nil_iff.mp h))
      · intro j hj
        rw [hg] at hj
        obtain ⟨i, hi, rfl⟩ := List.mem_map.mp hj
        have := M.rng i ((srt_mem M i).mp hi)
        unfold gi
        split <;> omega
      · intro hj
        rw [hg] at hj
        obtain ⟨i, hi, e⟩ := List.mem_map.mp hj
        refine h7 ?_
        unfold gi at e
        split at e
        · omega
        · rw [← e]; exact (srt_mem M i).mp hi
    · refine Ev.tup ?_
      walk_at "H"
      refine Ev.lst ?_
      walk_at "H"
      refine ⟨by simp, ?_⟩
      walk_at "H"
      refine Cl.arg (args' := [.lst ([7 * 0].map fun (x : Nat) => .int (x : Int))]) rfl ?_
      refine B.bytesN a' _ (by simp) (by simp) ?_
      walk_at "H"
      refine Ev.lst ?_
      walk_at "H"
      refine ⟨by simp, ?_⟩
      walk_at "H"
      refine ⟨by simp, ?_⟩
      exact done rfl (kk _ _ (OpOk.add 0 (by omega)) (B3.mono (by omega)))
  walk_at "H"
  with_reducible refine ifb (fun q6 => ?_) (fun q6 => ?_)
  · skip
    refine Ex.cons ?_
    refine Ex.setTup ?_ rfl ?hw
    case hw => simp only [swappedStores, Env.blockKind, Env.kindOf, hs]; rfl
    refine Ev.tup ?_
    walk_at "H"
    refine take' T a' hk S B2 (by omega) 16 (by decide) (by decide) fun fi σ3 hfi B3 => ?_
    walk_at "H"
    refine take' T a' hk S B3 (by omega) 8 (by decide) (by decide) fun mn σ4 hmn B4 => ?_
    walk_at "H"
    refine ⟨by simp, As.tup a' ?_ rfl⟩
    refine Ass.cons (As.name (store_cell ?h1 cf1 cf2 ?_))
    case h1 => rw [Env.kindOf, hs]; rfl
    simp only [put, String.reduceEq, ↓reduceIte]
    refine Ass.cons (As.name ?_)
    walk_at "H"
    refine Ass.nil ?_
    walk_at "H"
    refine take' T a' hk S B4 (by omega) 4 (by decide) (by decide) fun way σ5 hway B5 => ?_
    walk_at "H"
    with_reducible refine ifb (fun w0 => ?_) (fun w0 => ?_)
    · walk_at "H"
      refine Ev.tup ?_
      walk_at "H"
      refine Ev.lst ?_
      walk_at "H"
      refine ⟨by simp, ?_⟩
      walk_at "H"
      refine Cl.arg (args' := [.lst ([184 + mn].map fun (x : Nat) => .int (x : Int))]) ?_ ?_
      · show [V.lst [.int ((184 + mn : Nat) : Int)]] = _
        rw [show ((184 + mn : Nat) : Int) = 184 + (mn : Int) by omega]
      refine B.bytesN a' _ (by intro x hx; simp at hx; omega) (by simp) ?_
      walk_at "H"
      refine Ev.compMap a' [] (rngL 0 (mn + 1)) (vN fun i => .tup [.str (Str.ofString "d"), .int (((8 + i) : Nat) : Int)]) (.plain rfl (by decide) (by decide) rfl) (by rw [rngL_len]; omega) ?_ ?_ ?_
      · walk_at "H"
        refine B.range ?_
        exact ⟨by first | rfl | trivial, _, It.range0 (n := mn + 1) (by omega) (by omega), trivial⟩
      · intro fm' v hs' hv
        obtain ⟨i, hi, rfl⟩ := rngL_mem hv
        refine Ev.tup ?_
        walk_at "H"
        refine ⟨by simp, ?_, by first | rfl | trivial⟩
        show V.tup [_, .int (8 + (i : Int))] = V.tup [_, .int ((8 + i : Nat) : Int)]
        rw [show ((8 + i : Nat) : Int) = 8 + (i : Int) by omega]
      rw [rngL_map]
      walk_at "H"
      refine ⟨by simp, ?_⟩
      have hrow : dj (rm 8 mn) = (List.range (mn + 1)).map (22 + ·) := by
        have hr : ∀ n < 8, dj (rm 8 n) = (List.range (n + 1)).map (22 + ·) := by decide +kernel
        exact hr mn hmn
      refine done ?_ (kk _ _ (OpOk.pop _ _ (Item.d8 mn hmn) (by rw [hrow]; simp) ?_ ?_) (B5.mono (by omega)))
      · show V.tup [_, _, .lst (List.map pairV _)] = _
        rw [hrow, List.map_map]
        exact congrArg (fun z => V.tup [_, _, V.lst z]) (List.map_congr_left fun i hi => (congrArg pairV (show 22 + i = 14 + (8 + i) by omega)).trans (pair_d (8 + i) (by simp at hi; omega)))
      · intro j hj
        rw [hrow] at hj
        simp at hj
        omega
      · intro hj
        rw [hrow] at hj
        simp at hj
        omega
    walk_at "H"
    with_reducible refine ifb (fun w1 => ?_) (fun w1 => ?_)
    · walk_at "H"
      refine Ev.tup ?_
      walk_at "H"
      refine Ev.lst ?_
      walk_at "H"
      refine ⟨by simp, ?_⟩
      walk_at "H"
      refine Cl.arg (args' := [.lst ([208 + mn].map fun (x : Nat) => .int (x : Int))]) ?_ ?_
      · show [V.lst [.int ((208 + mn : Nat) : Int)]] = _
        rw [show ((208 + mn : Nat) : Int) = 208 + (mn : Int) by omega]
      refine B.bytesN a' _ (by intro x hx; simp at hx; omega) (by simp) ?_
      walk_at "H"
      refine Ev.compMap a' [] (rngL 0 (mn + 1)) (vN fun i => .tup [.str (Str.ofString "d"), .int (((8 + i) : Nat) : Int)]) (.plain rfl (by decide) (by decide) rfl) (by rw [rngL_len]; omega) ?_ ?_ ?_
      · walk_at "H"
        refine B.range ?_
        exact ⟨by first | rfl | trivial, _, It.range0 (n := mn + 1) (by omega) (by omega), trivial⟩
      · intro fm' v hs' hv
        obtain ⟨i, hi, rfl⟩ := rngL_mem hv
        refine Ev.tup ?_
        walk_at "H"
        refine ⟨by simp, ?_, by first | rfl | trivial⟩
        show V.tup [_, .int (8 + (i : Int))] = V.tup [_, .int ((8 + i : Nat) : Int)]
        rw [show ((8 + i : Nat) : Int) = 8 + (i : Int) by omega]
      rw [rngL_map]
      walk_at "H"
      refine ⟨by simp, ?_⟩
      have hrow : dj (rm 8 mn) = (List.range (mn + 1)).map (22 + ·) := by
        have hr : ∀ n < 8, dj (rm 8 n) = (List.range (n + 1)).map (22 + ·) := by decide +kernel
        exact hr mn hmn
      refine done ?_ (kk _ _ (OpOk.pop _ _ (Item.d8' mn hmn) (by rw [hrow]; simp) ?_ ?_) (B5.mono (by omega)))
      · show V.tup [_, _, .lst (List.map pairV _)] = _
        rw [hrow, List.map_map]
        exact congrArg (fun z => V.tup [_, _, V.lst z]) (List.map_congr_left fun i hi => (congrArg pairV (show 22 + i = 14 + (8 + i) by omega)).trans (pair_d (8 + i) (by simp at hi; omega)))
      · intro j hj
        rw [hrow] at hj
        simp at hj
        omega
      · intro hj
        rw [hrow] at hj
        simp at hj
        omega
    walk_at "H"
    with_reducible refine ifb (fun w2 => ?_) (fun w2 => ?_)
    · walk_at "H"
      refine Ev.tup ?_
      walk_at "H"
      refine Ev.lst ?_
      walk_at "H"
      refine I.mod (by decide) ?_
      walk_at "H"
      refine I.mul (.of_left (by decide)) ?_
      walk_at "H"
      refine ⟨by simp, ?_⟩
      walk_at "H"
      refine Cl.arg (args' := [.lst ([200, 16 * (fi % 8) + mn].map fun (x : Nat) => .int (x : Int))]) ?_ ?_
      · show [V.lst [.int ((200 : Nat) : Int), .int ((16 * (fi % 8) + mn : Nat) : Int)]] = [V.lst [.int 200, .int (16 * (fi : Int).fmod ((8 : Nat) : Int) + (mn : Int))]]
        rw [fmod_nat, show ((16 * (fi % 8) + mn : Nat) : Int) = 16 * ((fi % 8 : Nat) : Int) + (mn : Int) by omega]; rfl
      refine B.bytesN a' _ (by intro x hx; simp at hx; omega) (by simp) ?_
      walk_at "H"
      refine Ev.compMap a' [("first", .int (fi : Int))] (rngL 0 (mn + 1)) (vN fun i => .tup [.str (Str.ofString "d"), .int (((16 + fi % 8 + i) : Nat) : Int)]) (.free1 _ _ rfl (by decide) (by decide) rfl (by decide) rfl rfl (by rw [Env.kindOf, hs]; decide)) (by rw [rngL_len]; omega) ?_ ?_ ?_
      · walk_at "H"
        refine B.range ?_
        exact ⟨by first | rfl | trivial, _, It.range0 (n := mn + 1) (by omega) (by omega), trivial⟩
      · intro fm' v hs' hv
        obtain ⟨i, hi, rfl⟩ := rngL_mem hv
        refine Ev.tup ?_
        walk_at "H"
        refine I.mod (by decide) ?_
        walk_at "H"
        refine ⟨by simp, ?_, by first | rfl | trivial⟩
        show V.tup [_, .int (16 + (fi : Int).fmod ((8 : Nat) : Int) + (i : Int))] = V.tup [_, .int ((16 + fi % 8 + i : Nat) : Int)]
        rw [fmod_nat, show ((16 + fi % 8 + i : Nat) : Int) = 16 + ((fi % 8 : Nat) : Int) + (i : Int) by omega]
      rw [rngL_map]
      walk_at "H"
      refine ⟨by simp, ?_⟩
      have hrow : dj (rm (16 + fi % 8) mn) = (List.range (mn + 1)).map (fun i => 14 + (16 + fi % 8 + i)) := by
        have hr : ∀ s < 8, ∀ n < 8, dj (rm (16 + s) n) = (List.range (n + 1)).map (fun i => 14 + (16 + s + i)) := by decide +kernel
        exact hr (fi % 8) (by omega) mn hmn
      refine done ?_ (kk _ _ (OpOk.pop _ _ (Item.d16 (fi % 8) mn (by omega) hmn) (by rw [hrow]; simp) ?_ ?_) (B5.mono (by omega)))
      · show V.tup [_, _, .lst (List.map pairV _)] = _
        rw [hrow, List.map_map]
        exact congrArg (fun z => V.tup [_, _, V.lst z]) (List.map_congr_left fun i hi => pair_d (16 + fi % 8 + i) (by simp at hi; omega))
      · intro j hj
        rw [hrow] at hj
        simp at hj
        omega
      · intro hj
        rw [hrow] at hj
        simp at hj
        omega
    walk_at "H"
    refine Ev.tup ?_
    walk_at "H"
    refine Ev.lst ?_
    walk_at "H"
    refine I.mul (.of_left (by decide)) ?_
    walk_at "H"
    refine ⟨by simp, ?_⟩
    walk_at "H"
    refine Cl.arg (args' := [.lst ([201, 16 * fi + mn].map fun (x : Nat) => .int (x : Int))]) ?_ ?_
    · show [V.lst [.int ((201 : Nat) : Int), .int ((16 * fi + mn : Nat) : Int)]] = _
      rw [show ((16 * fi + mn : Nat) : Int) = 16 * (fi : Int) + (mn : Int) by omega]; rfl
    refine B.bytesN a' _ (by intro x hx; simp at hx; omega) (by simp) ?_
    walk_at "H"
    refine Ev.compMap a' [("first", .int (fi : Int))] (rngL 0 (mn + 1)) (vN fun i => .tup [.str (Str.ofString "d"), .int (((fi + i) : Nat) : Int)]) (.free1 _ _ rfl (by decide) (by decide) rfl (by decide) rfl rfl (by rw [Env.kindOf, hs]; decide)) (by rw [rngL_len]; omega) ?_ ?_ ?_
    · walk_at "H"
      refine B.range ?_
      exact ⟨by first | rfl | trivial, _, It.range0 (n := mn + 1) (by omega) (by omega), trivial⟩
    · intro fm' v hs' hv
      obtain ⟨i, hi, rfl⟩ := rngL_mem hv
      refine Ev.tup ?_
      walk_at "H"
      refine ⟨by simp, ?_, by first | rfl | trivial⟩
      show V.tup [_, .int ((fi : Int) + (i : Int))] = V.tup [_, .int ((fi + i : Nat) : Int)]
      rw [show ((fi + i : Nat) : Int) = (fi : Int) + (i : Int) by omega]
    rw [rngL_map]
    walk_at "H"
    refine ⟨by simp, ?_⟩
    have hrow : dj (rm fi mn) = (List.range (mn + 1)).map (fun i => 14 + (fi + i)) := by
      have hr : ∀ s < 16, ∀ n < 8, dj (rm s n) = (List.range (n + 1)).map (fun i => 14 + (s + i)) := by decide +kernel
      exact hr fi hfi mn hmn
    refine done ?_ (kk _ _ (OpOk.pop _ _ (Item.dd fi mn hfi hmn) (by rw [hrow]; simp) ?_ ?_) (B5.mono (by omega)))
    · show V.tup [_, _, .lst (List.map pairV _)] = _
      rw [hrow, List.map_map]
      exact congrArg (fun z => V.tup [_, _, V.lst z]) (List.map_congr_left fun i hi => pair_d (fi + i) (by simp at hi; omega))
    · intro j hj
      rw [hrow] at hj
      simp at hj
      omega
    · intro hj
      rw [hrow] at hj
      simp at hj
      omega
  walk_at "H"
  with_reducible refine ifb (fun q7 => ?_) (fun q7 => ?_)
  · skip
    refine Ex.cons ?_
    refine Ex.setTup ?_ rfl ?hw
    case hw => simp only [swappedStores, Env.blockKind, Env.kindOf, hs]; rfl
    refine Ev.tup ?_
    walk_at "H"
    refine take' T a' hk S B2 (by omega) 12 (by decide) (by decide) fun fi σ3 hfi B3 => ?_
    walk_at "H"
    refine take' T a' hk S B3 (by omega) 4 (by decide) (by decide) fun mn σ4 hmn B4 => ?_
    walk_at "H"
    refine ⟨by simp, As.tup a' ?_ rfl⟩
    refine Ass.cons (As.name (store_cell ?h1 cf1 cf2 ?_))
    case h1 => rw [Env.kindOf, hs]; rfl
    simp only [put, String.reduceEq, ↓reduceIte]
    refine Ass.cons (As.name ?_)
    walk_at "H"
    refine Ass.nil ?_
    walk_at "H"
    refine Ev.tup ?_
    walk_at "H"
    refine Ev.lst ?_
    walk_at "H"
    refine I.mul (.of_left (by decide)) ?_
    walk_at "H"
    refine ⟨by simp, ?_⟩
    walk_at "H"
    refine Cl.arg (args' := [.lst ([198, 16 * fi + mn].map fun (x : Nat) => .int (x : Int))]) ?_ ?_
    · show [V.lst [.int ((198 : Nat) : Int), .int ((16 * fi + mn : Nat) : Int)]] = _
      rw [show ((16 * fi + mn : Nat) : Int) = 16 * (fi : Int) + (mn : Int) by omega]; rfl
    refine B.bytesN a' _ (by intro x hx; simp at hx; omega) (by simp) ?_
    walk_at "H"
    refine Ev.compMap a' [("first", .int (fi : Int))] (rngL 0 (mn + 1)) (vN fun i => .tup [.str (Str.ofString "wR"), .int (((fi + i) : Nat) : Int)]) (.free1 _ _ rfl (by decide) (by decide) rfl (by decide) rfl rfl (by rw [Env.kindOf, hs]; decide)) (by rw [rngL_len]; omega) ?_ ?_ ?_
    · walk_at "H"
      refine B.range ?_
      exact ⟨by first | rfl | trivial, _, It.range0 (n := mn + 1) (by omega) (by omega), trivial⟩
    · intro fm' v hs' hv
      obtain ⟨i, hi, rfl⟩ := rngL_mem hv
      refine Ev.tup ?_
      walk_at "H"
      refine ⟨by simp, ?_, by first | rfl | trivial⟩
      show V.tup [_, .int ((fi : Int) + (i : Int))] = V.tup [_, .int ((fi + i : Nat) : Int)]
      rw [show ((fi + i : Nat) : Int) = (fi : Int) + (i : Int) by omega]
    rw [rngL_map]
    walk_at "H"
    refine ⟨by simp, ?_⟩
    have hrow : wj (rm fi mn) = (List.range (mn + 1)).map (fun i => 46 + (fi + i)) := by
      have hr : ∀ s < 12, ∀ n < 4, wj (rm s n) = (List.range (n + 1)).map (fun i => 46 + (s + i)) := by decide +kernel
      exact hr fi hfi mn hmn
    refine done ?_ (kk _ _ (OpOk.pop _ _ (Item.wr fi mn hfi hmn) (by rw [hrow]; simp) ?_ ?_) (B4.mono (by omega)))
    · show V.tup [_, _, .lst (List.map pairV _)] = _
      rw [hrow, List.map_map]
      exact congrArg (fun z => V.tup [_, _, V.lst z]) (List.map_congr_left fun i hi => pair_w (fi + i) (by simp at hi; omega))
    · intro j hj
      rw [hrow] at hj
      simp at hj
      omega
    · intro hj
      rw [hrow] at hj
      simp at hj
      omega
  walk_at "H"
  refine take' T a' hk S B2 (by omega) 15 (by decide) (by decide) fun m σ3 hm B3 => ?_
  walk_at "H"
  refine store_cell ?h1 cm1 cm2 ?_
  case h1 => rw [Env.kindOf, hs]; rfl
  simp only [put, String.reduceEq, ↓reduceIte]
  walk_at "H"
  refine Ev.tup ?_
  walk_at "H"
  refine Ev.lst ?_
  walk_at "H"
  refine ⟨by simp, ?_⟩
  walk_at "H"
  refine Cl.arg (args' := [.lst ([199, 1 + m].map fun (x : Nat) => .int (x : Int))]) ?_ ?_
  · show [V.lst [.int (199 : Nat), .int ((1 + m : Nat) : Int)]] = _
    rw [show ((1 + m : Nat) : Int) = 1 + m by omega]; rfl
  refine B.bytesN a' _ (by simp; omega) (by simp) ?_
  walk_at "H"
  refine Ev.compFilter a' [("mask", .int (1 + m : Int))] (rngL 0 4) (vN fun i => .tup [.str (Str.ofString "wCGR"), .int (i : Int)]) (vB fun i => (1 + m).testBit i) (.free1 _ _ rfl (by decide) (by decide) rfl (by decide) rfl rfl (by rw [Env.kindOf, hs]; decide)) (by rw [rngL_len]; omega) ?_ ?_ ?_
  · walk_at "H"
    refine B.range ?_
    exact ⟨by first | rfl | trivial, _, It.range0 (n := 4) rfl (by omega), trivial⟩
  · intro fm' v hs' hv
    obtain ⟨i, hi, rfl⟩ := rngL_mem hv
    walk_at "H"
    refine pow_small (by omega) ?_
    refine Op2.ints (a := ((1 + m : Nat) : Int)) (b := ((2 ^ i : Nat) : Int)) (by omega) rfl ?_
    have h2 := pow_nz i (by omega)
    refine I.div h2.1 h2.2 ?_
    walk_at "H"
    refine I.mod (by omega) ?_
    walk_at "H"
    refine ⟨tb_div _ _, by first | rfl | trivial, fun _ => ?_⟩
    refine Ev.tup ?_
    walk_at "H"
    exact ⟨by simp, rfl, by first | rfl | trivial⟩
  rw [rngL_filter]
  walk_at "H"
  refine ⟨by simp, ?_⟩
  have hr : ∀ n < 16, cj n = ((List.range 4).filter (fun i => n.testBit i)).map (62 + ·) := by decide +kernel
  have hne : ∀ n < 16, 0 < n → cj n ≠ [] ∧ 7 ∉ cj n := by decide +kernel
  have h16 : 1 + m < 16 := by omega
  refine done ?_ (kk _ _ (OpOk.pop _ _ (Item.cg (1 + m) (by omega) (by omega)) (hne _ h16 (by omega)).1 ?_ ?_) (B3.mono (by omega)))
  · show V.tup [_, _, .lst ((cj _).map pairV)] = _
    rw [hr _ h16, List.map_map]
    exact congrArg (fun z => V.tup [_, _, V.lst z]) (List.map_congr_left fun i hi => pair_c i (by simp at hi; omega))
  · intro j hj
    rw [hr _ h16] at hj
    simp at hj
    omega
  · intro hj
    exact absurd hj (hne _ h16 (by omega)).2
theorem ifD {p : Prop} {inst : Decidable p} {P Q : Prop} (h : p) (x : P) : if @decide p inst = true then P else Q := by rw [if_pos (@decide_eq_true p inst h)]; exact x
theorem ifDn {p : Prop} {inst : Decidable p} {P Q : Prop} (h : ¬ p) (x : Q) : if @decide p inst = true then P else Q := by rw [if_neg (by rw [@decide_eq_false p inst h]; simp)]; exact x
theorem ifT {b : Bool} {P Q : Prop} (h : b = true) (p : P) : if b = true then P else Q := by rw [if_pos h]; exact p
theorem ifF {b : Bool} {P Q : Prop} (h : b = false) (q : Q) : if b = true then P else Q := by rw [if_neg (by rw [h]; simp)]; exact q
section
variable {c : Cx} {mg mb : Str → Option Value} {fm : Fm} {A : Around} {σ : List O} {K : V → List O → Prop} {KO : List O → Prop} {v : Int} {g : Nat → Int} {M : List (Int × V)} {b : Nat}
theorem at_last (o : O) : (σ ++ [o])[σ.length]? = some o := List.getElem?_concat_length ..
theorem set_last (o o' : O) : (σ ++ [o]).set σ.length o' = σ ++ [o'] := by simp
theorem now_vsp {value slice : Expr} (kk : K (.int v) (σ ++ [.sdict (dictL v g)])) (hs : ∀ o i, subscripted slice false o i = operate [o, i] (getItem o i)) : Op2 c A (subscriptTail value slice) (.ref σ.length) (.str (Str.ofString "vsp")) (σ ++ [.sdict (dictL v g)]) K :=
  D.get (d := strD c) (key := vspS) (at_last _) (dict_vsp v g) kk hs
theorem now_reg {value slice : Expr} {j : Nat} (hj : j < 66) (kk : K (.int (g j)) (σ ++ [.sdict (dictL v g)])) (hs : ∀ o i, subscripted slice false o i = operate [o, i] (getItem o i)) : Op2 c A (subscriptTail value slice) (.ref σ.length) (.str (nm j)) (σ ++ [.sdict (dictL v g)]) K :=
  D.get (d := strD c) (key := nm j) (at_last _) (dict_get v g hj) kk hs
theorem now_setv {x : Int} (kk : KO (σ ++ [.sdict (dictL x g)])) : Op3 c A setItem (.ref σ.length) (.str (Str.ofString "vsp")) (.int x) (σ ++ [.sdict (dictL v g)]) KO :=
  D.set (d := strD c) (key := vspS) (at_last _) (by rw [dict_len]; decide) (by rw [dict_setv, set_last]; exact kk)
theorem now_setr {x : Int} {j : Nat} (hj : j < 66) (kk : KO (σ ++ [.sdict (dictL v (upd g j x))])) : Op3 c A setItem (.ref σ.length) (.str (nm j)) (.int x) (σ ++ [.sdict (dictL v g)]) KO :=
  D.set (d := strD c) (key := nm j) (at_last _) (by rw [dict_len]; decide) (by rw [dict_set v g hj, set_last]; exact kk)
theorem mem_at {o : O} (hb : σ[b]? = some (.idict M)) : (σ ++ [o])[b]? = some (.idict M) := by
  rw [List.getElem?_append_left (List.getElem?_eq_some_iff.mp hb).1]; exact hb
theorem mem_get {value slice : Expr} {o : O} {x : V} (hb : σ[b]? = some (.idict M)) (hx : getE M v = some x) (kk : K x (σ ++ [o])) (hs : ∀ o i, subscripted slice false o i = operate [o, i] (getItem o i)) : Op2 c A (subscriptTail value slice) (.ref b) (.int v) (σ ++ [o]) K :=
  D.get (d := intD c) (key := v) (mem_at hb) hx kk hs
theorem mem_in {o : O} {x : V} (hb : σ[b]? = some (.idict M)) (hx : getE M v = some x) (kk : K (.bool false) (σ ++ [o])) : Op2 c A (compareOp .NotIn) (.int v) (.ref b) (σ ++ [o]) K :=
  D.notIn (d := intD c) (key := v) (mem_at hb) (by rw [hx]; exact kk)
end
def WOk : W → Prop
  | .add n => n < 1000000000
  | .sub n => n < 1000000000
  | .pop js => js ≠ [] ∧ (∀ j ∈ js, j < 66) ∧ js.length ≤ 40
  | _ => True
theorem W.text_len {w : W} (h : WOk w) : w.text.length ≤ 2000 := by
  cases w with
  | add n =>
    have h1 := num_len (number := (n : Int)) (by omega) (by have : n < 1000000000 := h; omega)
    have h2 : (Str.ofString "vsp = vsp + ").length = 12 := by decide +kernel
    show (Str.ofString "vsp = vsp + " ++ Str.ofString (toString (n : Int))).length ≤ 2000
    rw [Str.length_append]; omega
  | sub n =>
    have h1 := num_len (number := (n : Int)) (by omega) (by have : n < 1000000000 := h; omega)
    have h2 : (Str.ofString "vsp = vsp - ").length = 12 := by decide +kernel
    show (Str.ofString "vsp = vsp - " ++ Str.ofString (toString (n : Int))).length ≤ 2000
    rw [Str.length_append]; omega
  | reg7 => decide +kernel
  | fin => decide +kernel
  | pop js =>
    show (popT _).length ≤ 2000
    rw [pop_len]
    have := join_len (texts := js.map nm) (fun p hp => by obtain ⟨j, hj, rfl⟩ := List.mem_map.mp hp; exact nm_len j (h.2.1 j hj)) (by rw [List.length_map]; exact h.2.2)
    omega
theorem popW_a (js : List Nat) : Txt.slice (W.pop js).text none (some 12) ≠ Str.ofString "vsp = vsp + " := by
  show Txt.slice (Str.ofString "pop " ++ brace (js.map nm)) none (some ((12 : Nat) : Int)) ≠ _
  exact sl_head (c := 112) (d := 118) (by decide) (by decide +kernel) (by decide +kernel) (by decide)
theorem popW_b (js : List Nat) : Txt.slice (W.pop js).text none (some 12) ≠ Str.ofString "vsp = vsp - " := by
  show Txt.slice (Str.ofString "pop " ++ brace (js.map nm)) none (some ((12 : Nat) : Int)) ≠ _
  exact sl_head (c := 112) (d := 118) (by decide) (by decide +kernel) (by decide +kernel) (by decide)
theorem popW_c (js : List Nat) : Txt.slice (W.pop js).text none (some 6) ≠ Str.ofString "vsp = " := by
  show Txt.slice (Str.ofString "pop " ++ brace (js.map nm)) none (some ((6 : Nat) : Int)) ≠ _
  exact sl_head (c := 112) (d := 118) (by decide) (by decide +kernel) (by decide +kernel) (by decide)
theorem popW_5 (js : List Nat) : Txt.slice (W.pop js).text none (some 5) = Str.ofString "pop {" := pop_5 _
theorem popW_last (js : List Nat) : Txt.slice (W.pop js).text (some (-1)) none = Str.ofString "}" := pop_last _
theorem popW_mid (js : List Nat) : Txt.slice (W.pop js).text (some 5) (some (-1)) = Txt.join sepS (js.map nm) := pop_mid _
theorem sl_ne {x y : Str} (k : Nat) (h : (x.cps.toList.take k == y.cps.toList) = false) : Txt.slice x none (some (k : Int)) ≠ y := by
  intro e
  have := slice_upto x k
  rw [e] at this
  rw [this] at h
  simp at h
theorem sl_eq {x y : Str} (k : Nat) (h : (x.cps.toList.take k == y.cps.toList) = true) : Txt.slice x none (some (k : Int)) = y := by
  apply str_ext
  rw [slice_upto]
  exact eq_of_beq h
theorem sl_fr {x y : Str} (k : Nat) (hk : k ≤ x.length) (h : (x.cps.toList.drop k == y.cps.toList) = true) : Txt.slice x (some (k : Int)) none = y := by
  apply str_ext
  rw [slice_from x k hk]
  exact eq_of_beq h
theorem r7_a : Txt.slice W.reg7.text none (some 12) ≠ Str.ofString "vsp = vsp + " := sl_ne 12 (by decide +kernel)
theorem r7_b : Txt.slice W.reg7.text none (some 12) ≠ Str.ofString "vsp = vsp - " := sl_ne 12 (by decide +kernel)
theorem r7_c : Txt.slice W.reg7.text none (some 6) = Str.ofString "vsp = " := sl_eq 6 (by decide +kernel)
theorem r7_d : Txt.slice W.reg7.text (some 6) none = nm 7 := sl_fr 6 (by decide +kernel) (by decide +kernel)
theorem fi_a : Txt.slice W.fin.text none (some 12) ≠ Str.ofString "vsp = vsp + " := sl_ne 12 (by decide +kernel)
theorem fi_b : Txt.slice W.fin.text none (some 12) ≠ Str.ofString "vsp = vsp - " := sl_ne 12 (by decide +kernel)
theorem fi_c : Txt.slice W.fin.text none (some 6) ≠ Str.ofString "vsp = " := sl_ne 6 (by decide +kernel)
theorem fi_d : Txt.slice W.fin.text none (some 5) ≠ Str.ofString "pop {" := sl_ne 5 (by decide +kernel)
theorem fi_e : W.fin.text = Str.ofString "finish" := rfl
theorem su_a : (Str.ofString "vsp = vsp - ") ≠ Str.ofString "vsp = vsp + " := by decide +kernel
theorem addW_a (n : Nat) : Txt.slice (W.add n).text none (some 12) = Str.ofString "vsp = vsp + " := by
  show Txt.slice (Str.ofString "vsp = vsp + " ++ Str.ofString (toString (n : Int))) none (some ((12 : Nat) : Int)) = _
  exact sl_pre 12 (by decide +kernel)
theorem addW_b (n : Nat) : Txt.slice (W.add n).text (some 12) none = Str.ofString (toString (n : Int)) := by
  show Txt.slice (Str.ofString "vsp = vsp + " ++ Str.ofString (toString (n : Int))) (some ((12 : Nat) : Int)) none = _
  exact sl_post 12 (by decide +kernel)
theorem subW_b (n : Nat) : Txt.slice (W.sub n).text none (some 12) = Str.ofString "vsp = vsp - " := by
  show Txt.slice (Str.ofString "vsp = vsp - " ++ Str.ofString (toString (n : Int))) none (some ((12 : Nat) : Int)) = _
  exact sl_pre 12 (by decide +kernel)
theorem subW_a (n : Nat) : Txt.slice (W.sub n).text none (some 12) ≠ Str.ofString "vsp = vsp + " := by
  rw [subW_b]; exact su_a
theorem subW_c (n : Nat) : Txt.slice (W.sub n).text (some 12) none = Str.ofString (toString (n : Int)) := by
  show Txt.slice (Str.ofString "vsp = vsp - " ++ Str.ofString (toString (n : Int))) (some ((12 : Nat) : Int)) none = _
  exact sl_post 12 (by decide +kernel)
theorem undone_spec {c : Cx} {mg mb} (T : Tp c mg mb) {A : Around} {n : Nat} (a : AOk A (n + 3)) {σ : List O} {b d : Nat} {M : List (Int × V)} {s0 s1 : RS} {ws : List W} (hb : σ[b]? = some (.idict M)) (hd : σ[d]? = some (.sdict (dictL s0.1 s0.2)))
    (hw : ∀ w ∈ ws, WOk w) (hl : ws.length ≤ 1000) (hs1 : uws M ws s0 = some s1) {K : V → List O → Prop} (kk : K (.ref σ.length) (σ ++ [.sdict (dictL s1.1 s1.2)])) :
    Cl c A (.ref 315) [.lst (ws.map fun w => .str w.text), .ref d, .ref b] σ K := by
  refine Cl.def T.G (Def.mk' T.G (by rw [T.K]; k_is) (by rw [T.K]; k_is) ?_ (by decide)) (xs := ["words", "now", "memory"]) a rfl (by decide) (by decide) ?_
  · intro vals hl
    match vals, hl with
    | [a, b, c], _ => rfl
  intro fm A' hs a'
  dsimp only [List.zip_cons_cons, List.zip_nil_left, List.zip, List.zipWith]
  walk_at "H"
  refine D.copy (d := strD c) T.G hd (by rw [dict_len]; decide) ?_
  walk_at "H"
  refine Ex.for a' (J := fun i ρ' σ' => Sub [("now", .ref σ.length), ("memory", .ref b)] ρ' ∧ ∃ s, uws M (ws.drop i) s = some s1 ∧ σ' = σ ++ [.sdict (dictL s.1 s.2)]) ?_
  walk_at "H"
  refine ⟨_, _, It.list, ⟨Sub.cons rfl (Sub.cons rfl (Sub.nil _)), s0, hs1, rfl⟩, fun _ _ _ _ => Lq.lst _, ?_, ?_⟩
  · rintro i v ρ₂ σ₂ hv ⟨sub, s, hu, rfl⟩
    rw [List.getElem?_map] at hv
    cases hw' : ws[i]? with
    | none => rw [hw'] at hv; cases hv
    | some w =>
    rw [hw'] at hv
    cases hv
    have hwo := hw w (List.mem_of_getElem? hw')
    have hdrop : ws.drop i = w :: ws.drop (i + 1) := by
      have := List.getElem?_eq_some_iff.mp hw'
      obtain ⟨h, e⟩ := this
      rw [List.drop_eq_getElem_cons h, e]
    rw [hdrop] at hu
    refine As.weaken sub ?_
    refine As.name ?_
    walk_at "H"
    refine X.strSlice (Nat.le_trans (W.text_len hwo) (by decide)) ?_
    have htl : w.text.length ≤ 1000000 := Nat.le_trans (W.text_len hwo) (by decide)
    cases w with
    | add n =>
      walk_at "H"
      refine X.strEq ?_
      walk_at "H"
      with_reducible refine ifD (addW_a n) ?_
      walk_at "H"
      refine now_vsp ?_ ?hs
      case hs => intros; with_unfolding_all rfl
      walk_at "H"
      refine X.strSlice htl ?_
      rw [addW_b]
      walk_at "H"
      refine B.num (by omega) (by have : n < 1000000000 := hwo; omega) ?_
      walk_at "H"
      refine now_setv ?_
      walk_at "H"
      exact ⟨Sub.cons rfl (Sub.cons rfl (Sub.nil _)), (s.1 + n, s.2), hu, rfl⟩
    | sub n =>
      walk_at "H"
      refine X.strEq ?_
      walk_at "H"
      with_reducible refine ifDn (subW_a n) ?_
      walk_at "H"
      refine X.strSlice htl ?_
      walk_at "H"
      refine X.strEq ?_
      walk_at "H"
      with_reducible refine ifD (subW_b n) ?_
      walk_at "H"
      refine now_vsp ?_ ?hs
      case hs => intros; with_unfolding_all rfl
      walk_at "H"
      refine X.strSlice htl ?_
      rw [subW_c]
      walk_at "H"
      refine B.num (by omega) (by have : n < 1000000000 := hwo; omega) ?_
      walk_at "H"
      refine now_setv ?_
      walk_at "H"
      exact ⟨Sub.cons rfl (Sub.cons rfl (Sub.nil _)), (s.1 - n, s.2), hu, rfl⟩
    | reg7 =>
      walk_at "H"
      refine X.strEq ?_
      walk_at "H"
      with_reducible refine ifDn r7_a ?_
      walk_at "H"
      refine X.strSlice htl ?_
      walk_at "H"
      refine X.strEq ?_
      walk_at "H"
      with_reducible refine ifDn r7_b ?_
      walk_at "H"
      refine X.strSlice htl ?_
      walk_at "H"
      refine X.strEq ?_
      walk_at "H"
      with_reducible refine ifD r7_c ?_
      walk_at "H"
      refine X.strSlice htl ?_
      have e2 : Txt.slice W.reg7.text (some 6) none = nm 7 := r7_d
      rw [e2]
      refine now_reg (by omega) ?_ ?hs
      case hs => intros; with_unfolding_all rfl
      walk_at "H"
      refine now_setv ?_
      walk_at "H"
      exact ⟨Sub.cons rfl (Sub.cons rfl (Sub.nil _)), (s.2 7, s.2), hu, rfl⟩
    | fin =>
      walk_at "H"
      refine X.strEq ?_
      walk_at "H"
      with_reducible refine ifDn fi_a ?_
      walk_at "H"
      refine X.strSlice htl ?_
      walk_at "H"
      refine X.strEq ?_
      walk_at "H"
      with_reducible refine ifDn fi_b ?_
      walk_at "H"
      refine X.strSlice htl ?_
      walk_at "H"
      refine X.strEq ?_
      walk_at "H"
      with_reducible refine ifDn fi_c ?_
      walk_at "H"
      refine X.strSlice htl ?_
      walk_at "H"
      refine X.strEq ?_
      walk_at "H"
      with_reducible refine ifDn fi_d ?_
      refine ifF (by decide) ?_
      walk_at "H"
      refine X.strNe ?_
      walk_at "H"
      refine ifF (by rw [decide_eq_true fi_e]; rfl) ?_
      walk_at "H"
      exact ⟨Sub.cons rfl (Sub.cons rfl (Sub.nil _)), s, hu, rfl⟩
    | pop js =>
      walk_at "H"
      refine X.strEq ?_
      walk_at "H"
      with_reducible refine ifDn (popW_a js) ?_
      walk_at "H"
      refine X.strSlice htl ?_
      walk_at "H"
      refine X.strEq ?_
      walk_at "H"
      with_reducible refine ifDn (popW_b js) ?_
      walk_at "H"
      refine X.strSlice htl ?_
      walk_at "H"
      refine X.strEq ?_
      walk_at "H"
      with_reducible refine ifDn (popW_c js) ?_
      walk_at "H"
      refine X.strSlice htl ?_
      walk_at "H"
      refine X.strEq ?_
      walk_at "H"
      with_reducible refine ifD (popW_5 js) ?_
      walk_at "H"
      refine X.strSlice htl ?_
      walk_at "H"
      refine X.strEq ?_
      walk_at "H"
      with_reducible refine ifD (popW_last js) ?_
      walk_at "H"
      obtain ⟨s2, hp, hu2⟩ : ∃ s2, pops M js s = some s2 ∧ uws M (ws.drop (i + 1)) s2 = some s1 := Option.bind_eq_some_iff.mp hu
      refine Ex.for a' (J := fun i ρ' σ' => Sub [("now", .ref σ.length), ("memory", .ref b)] ρ' ∧ ∃ s', pops M (js.drop i) s' = some s2 ∧ σ' = σ ++ [.sdict (dictL s'.1 s'.2)]) ?_
      refine Ev.meth ?_
      walk_at "H"
      refine X.strSlice htl ?_
      rw [popW_mid]
      refine ⟨_, Mt.split, Kp.builtin _, ?_⟩
      walk_at "H"
      refine B.split (by decide +kernel) ?_ ?_
      · have := pop_len (js.map nm)
        have : (popT (js.map nm)).length ≤ 1000000 := htl
        omega
      rw [show Str.ofString ", " = sepS from rfl, pop_split hwo.1 hwo.2.1]
      refine ⟨_, _, It.list, ⟨Sub.cons rfl (Sub.cons rfl (Sub.nil _)), s, hp, rfl⟩, fun _ _ _ _ => Lq.arr _, ?_, ?_⟩
      · rintro i2 v2 ρ3 σ3 hv2 ⟨sub3, s3, hp3, rfl⟩
        cases hj : js[i2]? with
        | none => rw [List.getElem?_map, List.getElem?_map, hj] at hv2; cases hv2
        | some j =>
        rw [List.getElem?_map, List.getElem?_map, hj] at hv2
        cases hv2
        have hj66 := hwo.2.1 j (List.mem_of_getElem? hj)
        have hjd : js.drop i2 = j :: js.drop (i2 + 1) := by
          obtain ⟨h, e⟩ := List.getElem?_eq_some_iff.mp hj
          rw [List.drop_eq_getElem_cons h, e]
        rw [hjd] at hp3
        cases hg : getE M s3.1 with
        | none => simp only [pops, hg] at hp3; cases hp3
        | some xv =>
        cases xv with
        | int x =>
          simp only [pops, hg] at hp3
          refine As.weaken sub3 ?_
          refine As.name ?_
          walk_at "H"
          refine now_vsp ?_ ?hs
          case hs => intros; with_unfolding_all rfl
          walk_at "H"
          refine mem_in hb hg ?_
          walk_at "H"
          refine ifF (by decide) ?_
          walk_at "H"
          refine now_vsp ?_ ?hs
          case hs => intros; with_unfolding_all rfl
          refine mem_get hb hg ?_ ?hs
          case hs => intros; with_unfolding_all rfl
          walk_at "H"
          refine now_setr hj66 ?_
          walk_at "H"
          refine now_vsp ?_ ?hs
          case hs => intros; with_unfolding_all rfl
          walk_at "H"
          refine X.strSlice (by have := nm_len j hj66; omega) ?_
          walk_at "H"
          refine X.strEq ?_
          walk_at "H"
          with_reducible refine ifb (fun q1 => ?_) (fun q1 => ?_)
          · walk_at "H"
            refine ifT (by decide) ?_
            walk_at "H"
            refine now_setv ?_
            walk_at "H"
            exact ⟨Sub.cons rfl (Sub.cons rfl (Sub.nil _)), _, hp3, by rw [show wd j = 8 from if_pos ((nm_wide j hj66).mp (.inl (of_decide_eq_true q1)))]; rfl⟩
          · walk_at "H"
            refine X.strSlice (by have := nm_len j hj66; omega) ?_
            walk_at "H"
            refine X.strEq ?_
            walk_at "H"
            with_reducible refine ifb (fun q2 => ?_) (fun q2 => ?_)
            · walk_at "H"
              refine now_setv ?_
              walk_at "H"
              exact ⟨Sub.cons rfl (Sub.cons rfl (Sub.nil _)), _, hp3, by rw [show wd j = 8 from if_pos ((nm_wide j hj66).mp (.inr (of_decide_eq_true q2)))]; rfl⟩
            · walk_at "H"
              refine now_setv ?_
              walk_at "H"
              exact ⟨Sub.cons rfl (Sub.cons rfl (Sub.nil _)), _, hp3, by rw [show wd j = 4 from if_neg (mt (nm_wide j hj66).mpr (fun h => h.elim (of_decide_eq_false q1) (of_decide_eq_false q2)))]; rfl⟩
        | _ => simp only [pops, hg] at hp3; cases hp3
      · rintro ρ3 σ3 ⟨sub3, s3, hp3, rfl⟩
        rw [List.length_map, List.length_map, List.drop_length] at hp3
        cases hp3
        refine Ex.weaken sub3 ?_
        walk_at "H"
        exact ⟨Sub.cons rfl (Sub.cons rfl (Sub.nil _)), _, hu2, rfl⟩
  · rintro ρ₂ σ₂ ⟨sub, s, hu, rfl⟩
    rw [List.length_map, List.drop_length] at hu
    cases hu
    refine Ex.weaken sub ?_
    walk_at "H"
    exact kk
theorem Ex.toArr {c : Cx} {fm : Fm} {A : Around} {ρ : Ρ} {σ : List O} {KK : FV → Ρ → List O → Prop} {t : Sem Flow} {k : Nat} {l : List V} (e : σ[k]? = some (.list l)) (h : Ex c fm A t ρ (σ.set k (.arr l)) KK) : Ex c fm A t ρ σ KK := by
  intro ws s Q R L q
  have hlt : k < ws.cs.length := by rw [← R.len]; exact (List.getElem?_eq_some_iff.mp e).1
  have ep : ws.cs[k]? = some ws.cs[k] := List.getElem?_eq_getElem hlt
  refine h ws s Q (R.same e fun p hp ro => ?_) L q
  obtain ⟨vs, n, h1, h2, rs⟩ := ro
  exact ⟨vs, ⟨_, h1, rfl, n, rfl⟩, h2, rs⟩
theorem BoxAt.cons {x : O} {r σ' : List O} {ns : List Int} {p : Nat} (h : BoxAt (x :: r) 0 ns p σ') : ∃ b, σ' = b :: r ∧ ∀ r', BoxAt (x :: r') 0 ns p (b :: r') := by
  obtain ⟨a, b, d, h1, h2, h3, rfl⟩ := h
  exact ⟨_, rfl, fun r' => ⟨a, b, d, h1, h2, h3, rfl⟩⟩
/-- the box, at cell 0 -/
def Bx (ns : List Int) (p : Nat) (b : O) : Prop := ∀ x r, BoxAt (x :: r) 0 ns p (b :: r)
theorem BoxAt.bx {x : O} {r σ' : List O} {ns : List Int} {p : Nat} (h : BoxAt (x :: r) 0 ns p σ') : ∃ b, σ' = b :: r ∧ Bx ns p b := by
  obtain ⟨a, b, d, h1, h2, h3, rfl⟩ := h
  exact ⟨_, rfl, fun x r' => ⟨a, b, d, h1, h2, h3, rfl⟩⟩
theorem Bx.mono {ns : List Int} {p q : Nat} {b : O} (h : Bx ns p b) (e : p ≤ q) : Bx ns q b := fun x r => (h x r).mono e
def Pre (b : Bool) (ops : List Opn) : Prop := ∀ l, Seq b l → Seq false (ops ++ l)
theorem Pre.nil : Pre false [] := fun _ h => h
theorem Pre.sev {l : List Opn} (h : Pre false l) : Pre true (l ++ [sevO]) := fun l' q => by
  rw [List.append_assoc]; exact h _ (.sev q)
theorem Pre.op {b : Bool} {l : List Opn} {o : Opn} (h : Pre b l) (k : OpOk b o) : Pre b (l ++ [o]) := fun l' q => by
  rw [List.append_assoc]; exact h _ (.op k q)
theorem Pre.seq {b : Bool} {l : List Opn} (h : Pre b l) : Seq false l := by
  have := h [] (.nil b)
  rwa [List.append_nil] at this
theorem takeB {c : Cx} {mg mb} (T : Tp c mg mb) {A : Around} {n : Nat} (a : AOk A (n + 1)) {b : O} {r : List O} {p : Nat} {ns : List Int} (S : Scr ns) (B : Bx ns p b) (hp : p < 900000) (m : Nat) (hm : 0 < m) (hm2 : m ≤ 1000)
    {K : V → List O → Prop} (kk : ∀ (told : Nat) b', told < m → Bx ns (p + 1) b' → K (.int told) (b' :: r)) : Cl c A (.ref 296) [.ref 0, .int m] (b :: r) K :=
  take' T a (σ := b :: r) (k := 0) (by simp) S (B b r) hp m hm hm2 fun told σ'' ht B' => by
    obtain ⟨b', rfl, h⟩ := B'.bx
    exact kk told b' ht h
theorem opB {c : Cx} {mg mb} (T : Tp c mg mb) {A : Around} {n : Nat} (a : AOk A (n + 3)) {b : O} {r : List O} {p : Nat} {ns : List Int} (S : Scr ns) (B : Bx ns p b) (hp : p < 800000) (seven : Bool)
    {K : V → List O → Prop} (kk : ∀ (o : Opn) b', OpOk seven o → Bx ns (p + 20) b' → K (opV o) (b' :: r)) : Cl c A (.ref 308) [.ref 0, .bool seven] (b :: r) K :=
  op_spec T a (σ := b :: r) (k := 0) (by simp) S (B b r) hp seven fun o σ'' ho B' => by
    obtain ⟨b', rfl, h⟩ := B'.bx
    exact kk o b' ho h
def gN (k : String) : V → V
  | .int i => .str (nameOf (Str.ofString k) i)
  | v => v
theorem nm_r (j : Nat) (hj : j < 13) : nm j = nameOf (Str.ofString "r") (j : Int) := by
  unfold nm kd nu
  rw [if_pos (by omega), if_pos (by omega)]
theorem nm_dd (j : Nat) (hj : j < 32) : nm (14 + j) = nameOf (Str.ofString "d") (j : Int) := by
  unfold nm kd nu
  rw [if_neg (by omega), if_pos (by omega), if_neg (by omega), if_neg (by omega), if_pos (by omega), show 14 + j - 14 = j by omega]
theorem nm_ww (j : Nat) (hj : j < 16) : nm (46 + j) = nameOf (Str.ofString "wR") (j : Int) := by
  unfold nm kd nu
  rw [if_neg (by omega), if_neg (by omega), if_pos (by omega), if_neg (by omega), if_neg (by omega), if_neg (by omega), if_pos (by omega), show 46 + j - 46 = j by omega]
theorem nm_cc (j : Nat) (hj : j < 4) : nm (62 + j) = nameOf (Str.ofString "wCGR") (j : Int) := by
  unfold nm kd nu
  rw [if_neg (by omega), if_neg (by omega), if_neg (by omega), if_neg (by omega), if_neg (by omega), if_neg (by omega), if_neg (by omega), show 62 + j - 62 = j by omega]
theorem rngL_gN (n : Nat) (k : String) : (rngL 0 n).map (gN k) = (List.range n).map fun (i : Nat) => V.str (nameOf (Str.ofString k) (i : Int)) := by
  unfold rngL
  rw [List.map_map]
  exact List.map_congr_left fun i _ => by simp [gN]
def NL : List V := (List.range 66).map fun j => V.str (nm j)
theorem names_eq : ((rngL 0 13 ++ [V.int 14]).map (gN "r") ++ (rngL 0 32).map (gN "d")) ++ (rngL 0 16).map (gN "wR") ++ (rngL 0 4).map (gN "wCGR") = NL := by
  have e : List.range 66 = ((List.range 13 ++ [13]) ++ (List.range 32).map (14 + ·)) ++ (List.range 16).map (46 + ·) ++ (List.range 4).map (62 + ·) := by decide
  have p1 : ((List.range 13).map fun (i : Nat) => V.str (nameOf (Str.ofString "r") (i : Int))) = (List.range 13).map fun j => V.str (nm j) :=
    List.map_congr_left fun i hi => by rw [nm_r i (by simpa using hi)]
  have p2 : ((List.range 32).map fun (i : Nat) => V.str (nameOf (Str.ofString "d") (i : Int))) = ((List.range 32).map (14 + ·)).map fun j => V.str (nm j) := by
    rw [List.map_map]
    exact List.map_congr_left fun i hi => by simp only [Function.comp]; rw [nm_dd i (by simpa using hi)]
  have p3 : ((List.range 16).map fun (i : Nat) => V.str (nameOf (Str.ofString "wR") (i : Int))) = ((List.range 16).map (46 + ·)).map fun j => V.str (nm j) := by
    rw [List.map_map]
    exact List.map_congr_left fun i hi => by simp only [Function.comp]; rw [nm_ww i (by simpa using hi)]
  have p4 : ((List.range 4).map fun (i : Nat) => V.str (nameOf (Str.ofString "wCGR") (i : Int))) = ((List.range 4).map (62 + ·)).map fun j => V.str (nm j) := by
    rw [List.map_map]
    exact List.map_congr_left fun i hi => by simp only [Function.comp]; rw [nm_cc i (by simpa using hi)]
  have p5 : [V.int 14].map (gN "r") = [13].map fun j => V.str (nm j) := rfl
  unfold NL
  rw [e, List.map_append, p5, rngL_gN, rngL_gN, rngL_gN, rngL_gN, p1, p2, p3, p4]
  simp only [List.map_append]
theorem NL_len : NL.length = 66 := by simp [NL]
def firstL (i : Nat) : List (Str × V) := (vspS, .int 1000000) :: (List.range i).map fun j => (nm j, .int (5000 + (j : Int)))
theorem firstL_len (i : Nat) : (firstL i).length = i + 1 := by simp [firstL]
theorem firstL_set {i : Nat} (hi : i < 66) : setE (firstL i) (nm i) (.int (5000 + (0 + (i : Int)))) = firstL (i + 1) := by
  unfold setE
  rw [if_neg]
  · unfold firstL
    rw [List.range_succ, List.map_append, Int.zero_add]; rfl
  · intro h
    obtain ⟨x, hx, e⟩ := List.any_eq_true.mp h
    have e' : x.1 = nm i := by simpa using e
    unfold firstL at hx
    rcases List.mem_cons.mp hx with rfl | hx
    · exact nm_vsp i hi e'.symm
    · obtain ⟨j, hj, rfl⟩ := List.mem_map.mp hx
      have hj' : j < i := by simpa using hj
      have := nm_inj (by omega) hi e'
      omega
theorem firstL_all : firstL 66 = dictL ps0.v ps0.f := by
  rw [dictL_eq]; rfl
section
variable {c : Cx} {mg mb : Str → Option Value} {fm : Fm} {A : Around} {σ : List O} {K : V → List O → Prop} {KO : List O → Prop} {v : Int} {g : Nat → Int} {m : List (Int × V)} {b st fi me po : O}
theorem now3_vsp {value slice : Expr} (kk : K (.int v) [b, st, fi, .sdict (dictL v g), me, po]) (hs : ∀ o i, subscripted slice false o i = operate [o, i] (getItem o i)) : Op2 c A (subscriptTail value slice) (.ref 3) (.str (Str.ofString "vsp")) [b, st, fi, .sdict (dictL v g), me, po] K :=
  D.get (d := strD c) (key := vspS) rfl (dict_vsp v g) kk hs
theorem now3_reg {value slice : Expr} {j : Nat} (hj : j < 66) (kk : K (.int (g j)) [b, st, fi, .sdict (dictL v g), me, po]) (hs : ∀ o i, subscripted slice false o i = operate [o, i] (getItem o i)) : Op2 c A (subscriptTail value slice) (.ref 3) (.str (nm j)) [b, st, fi, .sdict (dictL v g), me, po] K :=
  D.get (d := strD c) (key := nm j) rfl (dict_get v g hj) kk hs
theorem now3_setv {x : Int} (kk : KO [b, st, fi, .sdict (dictL x g), me, po]) : Op3 c A setItem (.ref 3) (.str (Str.ofString "vsp")) (.int x) [b, st, fi, .sdict (dictL v g), me, po] KO :=
  D.set (d := strD c) (key := vspS) (es := dictL v g) rfl (by rw [dict_len]; decide) (by rw [dict_setv]; exact kk)
theorem now3_setr {x : Int} {j : Nat} (hj : j < 66) (kk : KO [b, st, fi, .sdict (dictL v (upd g j x)), me, po]) : Op3 c A setItem (.ref 3) (.str (nm j)) (.int x) [b, st, fi, .sdict (dictL v g), me, po] KO :=
  D.set (d := strD c) (key := nm j) (es := dictL v g) rfl (by rw [dict_len]; decide) (by rw [dict_set v g hj]; exact kk)
theorem mem4_set {a : Int} {x : V} (hl : m.length ≤ 1000000) (kk : KO [b, st, fi, me, .idict (setE m a x), po]) : Op3 c A setItem (.ref 4) (.int a) x [b, st, fi, me, .idict m, po] KO :=
  D.set (d := intD c) (key := a) (es := m) rfl hl kk
def popL (p : List Nat) : List (Str × V) := p.map fun j => (nm j, V.bool true)
theorem popL_set {p : List Nat} (hp : ∀ i ∈ p, i < 66) {j : Nat} (hj : j < 66) : setE (popL p) (nm j) (.bool true) = popL (addP p j) := by
  unfold setE addP
  by_cases h : j ∈ p
  · have h2 : ((popL p).any fun x => decide (x.1 = nm j)) = true := List.any_eq_true.mpr ⟨(nm j, V.bool true), List.mem_map.mpr ⟨j, h, rfl⟩, by simp⟩
    rw [if_pos h, if_pos h2]
    unfold popL
    rw [List.map_map]
    refine List.map_congr_left fun i _ => ?_
    simp only [Function.comp]
    split <;> rfl
  · rw [if_neg h, if_neg]
    · simp [popL]
    · intro q
      obtain ⟨x, hx, e⟩ := List.any_eq_true.mp q
      obtain ⟨i, hi, rfl⟩ := List.mem_map.mp hx
      have : nm i = nm j := by simpa using e
      exact h (nm_inj (hp i hi) hj this ▸ hi)
theorem pop5_set {p : List Nat} {j : Nat} (hp : ∀ i ∈ p, i < 66) (hl : p.length ≤ 1000) (hj : j < 66) (kk : KO [b, st, fi, me, po, .sdict (popL (addP p j))]) : Op3 c A setItem (.ref 5) (.str (nm j)) (.bool true) [b, st, fi, me, po, .sdict (popL p)] KO :=
  D.set (d := strD c) (key := nm j) (es := popL p) rfl (by simp [popL]; omega) (by rw [popL_set hp hj]; exact kk)
end
theorem nm7 : nm 7 = Str.ofString "r7" := by decide +kernel
theorem kd_wide : ∀ j < 66, ([Str.ofString "d", Str.ofString "wR"].any fun x => x == Str.ofString (kd j)) = decide (14 ≤ j ∧ j < 62) := by decide +kernel
noncomputable def ES (s : PS) (b : O) (ops : List Opn) : List O := [b, .list (ops.map opV), .sdict (dictL ps0.v ps0.f), .sdict (dictL s.v s.f), .idict s.mem, .sdict (popL s.pop)]
def Mic66 : Mi → Prop
  | .push j => j < 66
  | _ => True
theorem setE_len (es : List (Int × V)) (k : Int) (v : V) : (setE es k v).length ≤ es.length + 1 := by
  unfold setE; split
  · rw [List.length_map]; omega
  · simp
theorem addP_len (p : List Nat) (j : Nat) : (addP p j).length ≤ p.length + 1 := by
  unfold addP; split
  · omega
  · simp
theorem pro_len (S : List Mi) : (pro S).mem.length ≤ S.length ∧ (pro S).pop.length ≤ S.length := by
  induction S with
  | nil => exact ⟨Nat.le_refl _, Nat.le_refl _⟩
  | cons m S ih =>
    cases m with
    | adj d => exact ⟨by have := ih.1; simp only [List.length_cons]; exact Nat.le_succ_of_le this, by have := ih.2; simp only [List.length_cons]; exact Nat.le_succ_of_le this⟩
    | seven t => exact ⟨by have := ih.1; simp only [List.length_cons]; exact Nat.le_succ_of_le this, by have := ih.2; simp only [List.length_cons]; exact Nat.le_succ_of_le this⟩
    | push j =>
      refine ⟨Nat.le_trans (setE_len _ _ _) ?_, Nat.le_trans (addP_len _ _) ?_⟩
      · simp only [List.length_cons]; have := ih.1; omega
      · simp only [List.length_cons]; have := ih.2; omega
theorem pro_pop (S : List Mi) (h : ∀ m ∈ S, Mic66 m) : ∀ i ∈ (pro S).pop, i < 66 := by
  induction S with
  | nil => intro i hi; cases hi
  | cons m S ih =>
    have ih' := ih fun m hm => h m (.tail _ hm)
    cases m with
    | adj d => exact ih'
    | seven t => exact ih'
    | push j =>
      intro i hi
      have hi' : i ∈ addP (pro S).pop j := hi
      unfold addP at hi'
      split at hi'
      · exact ih' i hi'
      · rcases List.mem_append.mp hi' with q | q
        · exact ih' i q
        · simp at q; subst q; exact h (.push i) (.head _)
theorem item_row {octs : List Nat} {js : List Nat} (h : Item octs (.pop js)) : js.length ≤ 32 := by
  have hg : ∀ m, (gj m).length ≤ 32 := fun m => by unfold gj; rw [List.length_map]; exact bits_len m 32
  have hd : ∀ m, (dj m).length ≤ 32 := fun m => by unfold dj; rw [List.length_map]; exact bits_len m 32
  have hw : ∀ m, (wj m).length ≤ 32 := fun m => by unfold wj; rw [List.length_map]; exact bits_len m 32
  have hc : ∀ m, (cj m).length ≤ 32 := fun m => by unfold cj; rw [List.length_map]; exact bits_len m 32
  cases h <;> first | exact hg _ | exact hd _ | exact hw _ | exact hc _
theorem op_row {o : Opn} (h : (∃ b, OpOk b o) ∨ o = sevO) : o.row.length ≤ 32 ∧ ∀ j ∈ o.row, j < 66 := by
  rcases h with ⟨b, h⟩ | rfl
  · cases h with
    | add => exact ⟨by simp, fun j h => by cases h⟩
    | addsub => exact ⟨by simp, fun j h => by cases h⟩
    | pop oct row it ne lt s7 => exact ⟨item_row it, lt⟩
  · exact ⟨by simp [sevO], fun j h => by cases h⟩
theorem mics_ok {ops : List Opn} {S : List Mi} (m : Mics ops S) (hq : ∀ o ∈ ops, (∃ b, OpOk b o) ∨ o = sevO) : S.length ≤ 33 * ops.length ∧ ∀ x ∈ S, Mic66 x := by
  induction m with
  | nil => exact ⟨by simp, fun x h => by cases h⟩
  | cons o t m ih =>
    obtain ⟨h1, h2⟩ := ih fun o h => hq o (.tail _ h)
    obtain ⟨r1, r2⟩ := op_row (hq o (.head _))
    refine ⟨?_, ?_⟩
    · simp only [mic, List.length_append, List.length_cons, List.length_map]; omega
    · intro x hx
      rcases List.mem_append.mp hx with hx | hx
      · unfold mic at hx
        rcases List.mem_cons.mp hx with rfl | hx
        · cases o.far <;> trivial
        · obtain ⟨j, hj, rfl⟩ := List.mem_map.mp hx
          exact r2 j hj
      · exact h2 x hx
theorem fm_some {α β : Type} {l : List α} {f : α → Option β} {h : α → β} (e : ∀ x ∈ l, f x = some (h x)) : l.filterMap f = l.map h := by
  induction l with
  | nil => rfl
  | cons a r ih =>
    rw [List.filterMap_cons, e a (.head _), List.map_cons, ih fun x hx => e x (.tail _ hx)]
theorem pickL_rev (l : List V) : pickL l none none (some (-1)) = l.reverse := by
  unfold pickL sliceBounds sliceRange
  simp only [Option.getD_some, show ¬ ((-1 : Int) > 0) by decide, if_false]
  have e3 : (if (l.length : Int) - 1 > -1 then ((l.length : Int) - 1 - -1 - -1 - 1) / (- -1) else 0).toNat = l.length := by
    split
    · rw [show (- -1 : Int) = 1 by decide, Int.ediv_one]; omega
    · omega
  rw [e3, List.filterMap_map]
  refine List.ext_getElem? fun i => ?_
  have e4 : (List.range l.length).filterMap ((l[·]?) ∘ fun (k : Nat) => ((l.length : Int) - 1 + -1 * (k : Int)).toNat) = (List.range l.length).map fun k => l.reverse.getD k .none := by
    refine fm_some fun k hk => ?_
    have hk' : k < l.length := by simpa using hk
    simp only [Function.comp]
    rw [show ((l.length : Int) - 1 + -1 * (k : Int)).toNat = l.length - 1 - k by omega]
    rw [List.getD_eq_getElem?_getD, List.getElem?_reverse hk', List.getElem?_eq_getElem (by omega)]
    rfl
  rw [e4]
  by_cases h : i < l.length
  · rw [List.getElem?_map, List.getElem?_range h]
    show some (l.reverse.getD i .none) = _
    rw [List.getD_eq_getElem?_getD, List.getElem?_eq_getElem (by simpa using h)]
    rfl
  · rw [List.getElem?_eq_none (by simp; omega), List.getElem?_eq_none (by simp; omega)]
theorem wd_ite {c : Cx} {fm : Fm} {A : Around} {ρ : Ρ} {σ : List O} {K : V → List O → Prop} {j : Nat} {k k' : _} {p p' : Pos} (h : K (.int (wd j : Nat)) σ) : if decide (14 ≤ j ∧ j < 62) = true then Ev c fm A (eval (.Constant (.int 8) k p) fm.env) ρ σ K else Ev c fm A (eval (.Constant (.int 4) k' p') fm.env) ρ σ K := by
  unfold wd at h
  split
  · rename_i q
    rw [if_pos (of_decide_eq_true q)] at h
    exact Ev.int h
  · rename_i q
    rw [if_neg (fun e => q (decide_eq_true e))] at h
    exact Ev.int h
def itsOf (ops : List Opn) (e : Nat) : List (List Nat × W) := ops.flatMap (·.its) ++ List.replicate e ([176], .fin)
def itsT (ops : List Opn) (e : Nat) : List (List Nat × Str) := (itsOf ops e).map fun p => (p.1, p.2.text)
theorem item_lt {octs : List Nat} {w : W} (h : Item octs w) : ∀ x ∈ octs, x < 256 := by
  cases h <;> intro x hx <;> simp at hx <;> omega
theorem item_two {octs : List Nat} {w : W} (h : Item octs w) : octs.length ≤ 2 := by
  cases h <;> simp
theorem item_wok {octs : List Nat} {w : W} (h : Item octs w) (hp : ∀ js, w = .pop js → js ≠ [] ∧ ∀ j ∈ js, j < 66) : WOk w := by
  cases w with
  | add n => cases h; show _ < _; omega
  | sub n => cases h; show _ < _; omega
  | reg7 => trivial
  | fin => trivial
  | pop js => exact ⟨(hp js rfl).1, (hp js rfl).2, Nat.le_trans (item_row h) (by decide)⟩
theorem op_its {o : Opn} (h : (∃ b, OpOk b o) ∨ o = sevO) : (∀ p ∈ o.its, Item p.1 p.2 ∧ WOk p.2) ∧ o.its.flatMap (·.1) = o.oct ∧ o.its.length ≤ 2 := by
  rcases h with ⟨b, h⟩ | rfl
  · cases h with
    | add f hf =>
      refine ⟨fun p hp => ?_, by simp, by simp⟩
      rcases List.mem_singleton.mp hp with rfl
      exact ⟨.add (7 * f) (by omega), by show _ < _; omega⟩
    | addsub f m hf hm =>
      refine ⟨fun p hp => ?_, by simp, by simp⟩
      rcases List.mem_cons.mp hp with rfl | hp
      · exact ⟨.add (f + m) (by omega), by show _ < _; omega⟩
      · rcases List.mem_singleton.mp hp with rfl
        exact ⟨.sub f (by omega), by show _ < _; omega⟩
    | pop oct row it ne lt s7 =>
      refine ⟨fun p hp => ?_, by simp, by simp⟩
      rcases List.mem_singleton.mp hp with rfl
      exact ⟨it, item_wok it fun js e => by cases e; exact ⟨ne, lt⟩⟩
  · refine ⟨fun p hp => ?_, by simp [sevO], by simp [sevO]⟩
    rcases List.mem_singleton.mp hp with rfl
    exact ⟨.reg7, trivial⟩
section
variable {ops : List Opn} {e : Nat}
theorem its_item (hq : ∀ o ∈ ops, (∃ b, OpOk b o) ∨ o = sevO) : ∀ p ∈ itsOf ops e, Item p.1 p.2 ∧ WOk p.2 := by
  intro p hp
  rcases List.mem_append.mp hp with hp | hp
  · obtain ⟨o, ho, hp⟩ := List.mem_flatMap.mp hp
    exact (op_its (hq o ho)).1 p hp
  · rw [(List.mem_replicate.mp hp).2]
    exact ⟨.fin, trivial⟩
theorem its_len (hq : ∀ o ∈ ops, (∃ b, OpOk b o) ∨ o = sevO) : (itsOf ops e).length ≤ 2 * ops.length + e := by
  unfold itsOf
  rw [List.length_append, List.length_replicate]
  have : (ops.flatMap (·.its)).length ≤ 2 * ops.length := by
    induction ops with
    | nil => simp
    | cons o r ih =>
      have h1 := ih fun o ho => hq o (.tail _ ho)
      have h2 := (op_its (hq o (.head _))).2.2
      rw [List.flatMap_cons, List.length_append, List.length_cons]
      omega
  omega
theorem its_flat (hq : ∀ o ∈ ops, (∃ b, OpOk b o) ∨ o = sevO) : (itsOf ops e).flatMap (·.1) = ops.flatMap (·.oct) ++ List.replicate e 176 := by
  unfold itsOf
  rw [List.flatMap_append, List.flatMap_assoc]
  congr 1
  · induction ops with
    | nil => rfl
    | cons o r ih =>
      rw [List.flatMap_cons, List.flatMap_cons, ih fun o ho => hq o (.tail _ ho), (op_its (hq o (.head _))).2.1]
  · induction e with
    | zero => rfl
    | succ e ih => rw [List.replicate_succ, List.flatMap_cons, ih]; rfl
theorem its_words : (itsT ops e).map (fun p => V.str p.2) = (ops.flatMap wds ++ List.replicate e W.fin).map fun (w : W) => V.str w.text := by
  unfold itsT itsOf
  rw [List.map_map, List.map_append, List.map_append, List.map_flatMap, List.map_flatMap]
  congr 1
  · congr 1
    funext o
    unfold wds
    rw [List.map_map]; rfl
  · rw [List.map_replicate, List.map_replicate]; rfl
theorem its_flatT : (itsT ops e).flatMap (·.1) = (itsOf ops e).flatMap (·.1) := by
  unfold itsT
  rw [List.flatMap_map]
theorem flat_two (l : List (List Nat × Str)) (h : ∀ p ∈ l, p.1.length ≤ 2) : (flatI l).length ≤ 2 * l.length := by
  unfold flatI
  rw [List.length_map]
  induction l with
  | nil => simp
  | cons p r ih =>
    have h1 := ih fun p hp => h p (.tail _ hp)
    have h2 := h p (.head _)
    rw [List.flatMap_cons, List.length_append, List.length_cons]
    omega
end
def opBytes (o : Opn) : Array UInt8 := byteArr (o.oct.map fun (x : Nat) => (x : Int))
theorem bL_app (a b : Array UInt8) : bL (a ++ b) = bL a ++ bL b := by
  unfold bL
  rw [Array.toList_append, List.map_append]
theorem bL_nats (l : List Nat) (h : ∀ x ∈ l, x < 256) : (byteArr (l.map fun (x : Nat) => (x : Int))).toList.map (fun c => V.int (c.toNat : Int)) = (l.map fun (x : Nat) => (x : Int)).map V.int := by
  unfold byteArr
  rw [List.map_map, List.map_map, List.map_map]
  refine List.map_congr_left fun x hx => ?_
  have := h x hx
  simp only [Function.comp, Int.toNat_natCast]
  congr 2
  show (UInt8.ofNat x).toNat = x
  rw [UInt8.toNat_ofNat']
  exact Nat.mod_eq_of_lt this
theorem byteArr_size (l : List Int) : (byteArr l).size = l.length := by simp [byteArr]
def textB (ops : List Opn) (e : Nat) : Array UInt8 := (((ops.map opBytes).map (·.toList)).flatten).toArray ++ ((List.replicate e [(176 : UInt8)]).flatten).toArray
section
variable {ops : List Opn} {e : Nat}
theorem op_lt (hq : ∀ o ∈ ops, (∃ b, OpOk b o) ∨ o = sevO) : ∀ o ∈ ops, (∀ x ∈ o.oct, x < 256) ∧ o.oct.length ≤ 4 := by
  intro o ho
  have h := op_its (hq o ho)
  refine ⟨fun x hx => ?_, ?_⟩
  · rw [← h.2.1] at hx
    obtain ⟨p, hp, hx⟩ := List.mem_flatMap.mp hx
    exact item_lt (h.1 p hp).1 x hx
  · rw [← h.2.1]
    have := flat_two (o.its.map fun p => (p.1, p.2.text)) (by
      intro p hp
      obtain ⟨y, hy, rfl⟩ := List.mem_map.mp hp
      exact item_two (h.1 y hy).1)
    unfold flatI at this
    rw [List.length_map, List.length_map, List.flatMap_map] at this
    have this' : (o.its.flatMap (·.1)).length ≤ 2 * o.its.length := this
    have h3 := h.2.2
    omega
theorem text_eq (hq : ∀ o ∈ ops, (∃ b, OpOk b o) ∨ o = sevO) : bL (textB ops e) = (flatI (itsT ops e)).map V.int := by
  unfold textB flatI
  rw [its_flatT, its_flat hq, bL_app, List.map_append, List.map_append]
  congr 1
  · unfold bL
    show List.map _ ((ops.map opBytes).map (·.toList)).flatten = _
    have hb := op_lt hq
    clear hq
    induction ops with
    | nil => rfl
    | cons o r ih =>
      rw [List.map_cons, List.map_cons, List.flatten_cons, List.map_append, List.flatMap_cons, List.map_append, List.map_append, ih fun o ho => hb o (.tail _ ho)]
      congr 1
      exact bL_nats o.oct (hb o (.head _)).1
  · induction e with
    | zero => rfl
    | succ e ih =>
      unfold bL at ih ⊢
      show List.map _ ((List.replicate (e + 1) [(176 : UInt8)]).flatten) = _
      rw [List.replicate_succ, List.flatten_cons, List.map_append, List.replicate_succ, List.map_cons, List.map_cons]
      have ih' : List.map (fun c : UInt8 => V.int (c.toNat : Int)) ((List.replicate e [(176 : UInt8)]).flatten) = _ := ih
      rw [ih']
      rfl
theorem sizes (hq : ∀ o ∈ ops, (∃ b, OpOk b o) ∨ o = sevO) (hl : ops.length ≤ 6) (he : e ≤ 4) : ((ops.map opBytes).map (·.size)).sum ≤ 100 ∧ (textB ops e).size ≤ 200 ∧ (flatI (itsT ops e)).length ≤ 100 ∧ (itsT ops e).length ≤ 100 := by
  have h1 : ((ops.map opBytes).map (·.size)).sum ≤ 4 * ops.length := by
    clear hl
    induction ops with
    | nil => simp
    | cons o r ih =>
      have h1 := ih fun o ho => hq o (.tail _ ho)
      have h2 := (op_lt hq o (.head _)).2
      have h3 : (opBytes o).size = o.oct.length := by unfold opBytes; rw [byteArr_size, List.length_map]
      simp only [List.map_cons, List.sum_cons, List.length_cons]
      rw [h3]
      omega
  have h2 := its_len (e := e) hq
  have h3 : (itsT ops e).length ≤ 2 * ops.length + e := by unfold itsT; rw [List.length_map]; exact h2
  have h4 : (flatI (itsT ops e)).length ≤ 2 * (itsT ops e).length := flat_two _ (by
    intro p hp
    obtain ⟨y, hy, rfl⟩ := List.mem_map.mp hp
    exact item_two (its_item hq y hy).1)
  have h5 : (textB ops e).size = (flatI (itsT ops e)).length := by
    have := congrArg List.length (text_eq (e := e) hq)
    unfold bL at this
    rw [List.length_map, List.length_map] at this
    exact this
  omega
end
theorem good_its {c : Cx} {mg mb} (T : Tp c mg mb) {ops : List Opn} {e : Nat} (hq : ∀ o ∈ ops, (∃ b, OpOk b o) ∨ o = sevO) : ∀ p ∈ itsT ops e, Good c p.1 p.2 := by
  intro p hp
  obtain ⟨y, hy, rfl⟩ := List.mem_map.mp hp
  exact good_of_item T (its_item hq y hy).1
def headV : V → V
  | .tup (x :: _) => x
  | v => v
theorem heads (ops : List Opn) : (ops.map opV).map headV = (ops.map opBytes).map V.bytes := by
  rw [List.map_map, List.map_map]; rfl
structure St (σ : List O) (L : Nat) (s : PS) (its : List (List Nat × Str)) : Prop where
  f2 : σ[2]? = some (.sdict (dictL ps0.v ps0.f))
  f3 : σ[3]? = some (.sdict (dictL s.v s.f))
  f4 : σ[4]? = some (.idict s.mem)
  f5 : σ[5]? = some (.sdict (popL s.pop))
  fl : σ[L]? = some (.list (refsV L its.length))
  fi : ∀ (i : Nat) p, its[i]? = some p → σ[L + 1 + i]? = some (itemO p)
theorem at_app {σ r : List O} {q : Nat} {o : O} (h : σ[q]? = some o) : (σ ++ r)[q]? = some o := by
  rw [List.getElem?_append_left (List.getElem?_eq_some_iff.mp h).1]; exact h
theorem St.app {σ : List O} {L : Nat} {s : PS} {its : List (List Nat × Str)} (h : St σ L s its) (r : List O) : St (σ ++ r) L s its :=
  ⟨at_app h.f2, at_app h.f3, at_app h.f4, at_app h.f5, at_app h.fl, fun i p hp => at_app (h.fi i p hp)⟩
theorem decS_st {s : PS} {b : O} {ops : List Opn} {its : List (List Nat × Str)} {x : O} {i : Nat} {bs : List Int} :
    St (decS (ES s b ops ++ (x :: (.list (refsV 7 its.length) :: its.map itemO))) 6 bs i its) (8 + its.length) s its := by
  have len : (ES s b ops ++ (x :: (.list (refsV 7 its.length) :: its.map itemO))).length = 8 + its.length := by simp [ES]; omega
  have low : ∀ q o, q < 6 → (ES s b ops)[q]? = some o → (decS (ES s b ops ++ (x :: (.list (refsV 7 its.length) :: its.map itemO))) 6 bs i its)[q]? = some o := by
    intro q o hq h
    unfold decS
    rw [List.getElem?_set_ne (by omega)]
    exact at_app (at_app h)
  refine ⟨low 2 _ (by omega) rfl, low 3 _ (by omega) rfl, low 4 _ (by omega) rfl, low 5 _ (by omega) rfl, ?_, ?_⟩
  · unfold decS
    rw [List.getElem?_set_ne (by omega), ← len, List.getElem?_append_right (Nat.le_refl _), Nat.sub_self]
    rfl
  · intro q p hp
    unfold decS
    rw [List.getElem?_set_ne (by omega), List.getElem?_append_right (by omega), len, show 8 + its.length + 1 + q - (8 + its.length) = q + 1 by omega, List.getElem?_cons_succ, List.getElem?_map, hp]
    rfl
theorem decS_again {s : PS} {b : O} {ops : List Opn} {its : List (List Nat × Str)} {x : O} {i : Nat} {bs : List Int} :
    decS (ES s b ops ++ [x]) (ES s b ops).length bs i its = (ES s b ops ++ (x :: (.list (refsV 7 its.length) :: its.map itemO))).set 6 (decO bs i (.ref 7)) := by
  unfold decS
  have e : (ES s b ops ++ [x]).length = 7 := by simp [ES]
  rw [e, show (ES s b ops).length = 6 from rfl, List.append_assoc]
  rfl
def textV (its : List (List Nat × Str)) (L : Nat) : V → V
  | .ref q => match its[q - (L + 1)]? with
    | some p => .str p.2
    | none => .none
  | v => v
theorem refs_text (its : List (List Nat × Str)) (L : Nat) : (refsV L its.length).map (textV its L) = its.map fun p => V.str p.2 := by
  unfold refsV
  rw [List.map_map]
  refine List.ext_getElem? fun i => ?_
  rw [List.getElem?_map, List.getElem?_map]
  by_cases h : i < its.length
  · rw [List.getElem?_range h, List.getElem?_eq_getElem h]
    show some (match its[L + 1 + i - (L + 1)]? with | some p => V.str p.2 | none => V.none) = _
    rw [show L + 1 + i - (L + 1) = i by omega, List.getElem?_eq_getElem h]
    rfl
  · rw [List.getElem?_eq_none (by simp; omega), List.getElem?_eq_none (by omega)]
    rfl
theorem flat_take {its : List (List Nat × Str)} {i : Nat} {p : List Nat × Str} (h : its[i]? = some p) : flatI (its.take (i + 1)) = flatI (its.take i) ++ p.1.map fun (x : Nat) => (x : Int) := by
  unfold flatI
  rw [List.take_add_one, h, List.flatMap_append, List.map_append]
  simp
theorem flat_le (its : List (List Nat × Str)) (i : Nat) : (flatI (its.take i)).length ≤ (flatI its).length := by
  rw [posN_all, posN_all]; exact posN_le its i
def dueF (l : List Nat) (f : Nat → Int) : Nat → Int := fun x => if x ∈ l then 5000 + (x : Int) else f x
theorem dueF_step (l : List Nat) (f : Nat → Int) {i j : Nat} (h : l[i]? = some j) : upd (dueF (l.take i) f) j (5000 + (j : Int)) = dueF (l.take (i + 1)) f := by
  funext x
  unfold upd dueF
  rw [List.take_add_one, h]
  by_cases e : x = j
  · subst e; simp
  · rw [if_neg e]
    have : x ∈ List.take i l ++ (some j).toList ↔ x ∈ List.take i l := by simp [e]
    by_cases q : x ∈ List.take i l
    · rw [if_pos q, if_pos (this.mpr q)]
    · rw [if_neg q, if_neg (mt this.mp q)]
theorem dict_eq_all (v : Int) (f : Nat → Int) : ∀ x ∈ dictL v f, ∃ n, x.2 = .int n ∧ getE (dictL v f) x.1 = some (.int n) := by
  intro x hx
  have hx' := hx
  rw [dictL_eq] at hx'
  rcases List.mem_cons.mp hx' with rfl | h
  · exact ⟨v, rfl, dict_vsp v f⟩
  · obtain ⟨j, hj, rfl⟩ := List.mem_map.mp h
    exact ⟨f j, rfl, dict_get v f (by simpa using hj)⟩
theorem words_ok {ops : List Opn} {e : Nat} (hq : ∀ o ∈ ops, (∃ b, OpOk b o) ∨ o = sevO) : ∀ w ∈ ops.flatMap wds ++ List.replicate e W.fin, WOk w := by
  intro w hw
  rcases List.mem_append.mp hw with hw | hw
  · obtain ⟨o, ho, hw⟩ := List.mem_flatMap.mp hw
    obtain ⟨p, hp, rfl⟩ := List.mem_map.mp hw
    exact ((op_its (hq o ho)).1 p hp).2
  · rw [(List.mem_replicate.mp hw).2]; trivial
theorem words_len (ops : List Opn) (e : Nat) : (ops.flatMap wds ++ List.replicate e W.fin).length = (itsT ops e).length := by
  have := congrArg List.length (its_words (ops := ops) (e := e))
  rw [List.length_map, List.length_map] at this
  exact this.symm
theorem item_bytes {c : Cx} {mg mb} (T : Tp c mg mb) {A : Around} {σ : List O} {k : Nat} {p : List Nat × Str} {K : V → List O → Prop} (h : σ[k]? = some (itemO p)) (kk : K (.lst (p.1.map fun (x : Nat) => .int (x : Int))) σ) : Op1 c A (fun x => getAttr x (Str.ofString "bytecode") true) (.ref k) σ K :=
  N.get (attr := none) T.G h rfl trivial (by rw [T.K]; k_is) (by rw [T.K]; k_is) (by rw [T.K]; k_is) rfl kk
theorem item_mnem {c : Cx} {mg mb} (T : Tp c mg mb) {A : Around} {σ : List O} {k : Nat} {p : List Nat × Str} {K : V → List O → Prop} (h : σ[k]? = some (itemO p)) (kk : K (.str p.2) σ) : Op1 c A (fun x => getAttr x (Str.ofString "mnemonic") true) (.ref k) σ K :=
  N.get (attr := none) T.G h rfl trivial (by rw [T.K]; k_is) (by rw [T.K]; k_is) (by rw [T.K]; k_is) rfl kk
theorem refs_get {L n i : Nat} {v : V} (h : (refsV L n)[i]? = some v) : i < n ∧ v = .ref (L + 1 + i) := by
  unfold refsV at h
  rw [List.getElem?_map] at h
  by_cases q : i < n
  · rw [List.getElem?_range q] at h
    cases h
    exact ⟨q, rfl⟩
  · rw [List.getElem?_eq_none (by simpa using Nat.le_of_not_lt q)] at h
    cases h
theorem refs_mem {L n : Nat} {v : V} (h : v ∈ refsV L n) : ∃ i < n, v = .ref (L + 1 + i) := by
  obtain ⟨i, hi, rfl⟩ := List.mem_map.mp h
  exact ⟨i, by simpa using hi, rfl⟩
theorem refs_len (L n : Nat) : (refsV L n).length = n := by simp [refsV]
theorem Sub.front {x y z : String} {u v w : V} {ρ : Ρ} (s : Sub [(x, u), (y, v), (z, w)] ρ) : Sub [(x, u), (y, v)] ρ := fun t r h => s t r (by
  simp only [List.lookup] at h ⊢
  split at h
  · exact h
  · split at h
    · exact h
    · cases h)
theorem law_spec {c : Cx} {mg mb} (T : Tp c mg mb) {A : Around} {n : Nat} (a : AOk A (n + 12)) {ns : List Int} (hn : ns.length ≤ 1000) : Cl c A (.ref 320) [.arr (ns.map .int)] [] fun v _ => v = .bool true := by
  have S : Scr (ns.map absI) := ⟨by rw [List.length_map]; exact hn, fun x hx => by
    obtain ⟨y, _, rfl⟩ := List.mem_map.mp hx
    unfold absI; split <;> omega⟩
  refine Cl.def T.G (Def.mk' T.G (by rw [T.K]; k_is) (by rw [T.K]; k_is) ?_ (by decide)) (xs := ["script"]) a rfl (by decide) (by decide) ?_
  · intro vals hl
    match vals, hl with
    | [a], _ => rfl
  intro fm A' hs a'
  dsimp only [List.zip_cons_cons, List.zip_nil_left, List.zip, List.zipWith]
  generalize hN : ns.map absI = N at S
  refine Ex.cut (ι := Unit) (fun _ => [("box", .ref 0)]) (fun _ σ' => σ' = [.list (boxL 0 0 0 (N.map .int))]) ?_ ?_
  · walk_at "H"
    refine box_spec T a' hn ?_
    walk_at "H"
    rw [hN]
    exact .inl ⟨by first | rfl | trivial, (), Sub.cons rfl (Sub.nil _), rfl⟩
  rintro _ σ' rfl
  refine Ex.toArr (k := 0) rfl ?_
  have B0 : Bx N 0 (.arr (boxL 0 0 0 (N.map .int))) := fun x r => ⟨0, 0, 0, by omega, by omega, by omega, rfl⟩
  rw [show ([O.list (boxL 0 0 0 (N.map .int))] : List O).set 0 (.arr (boxL 0 0 0 (N.map .int))) = [.arr (boxL 0 0 0 (N.map .int))] from rfl]
  generalize O.arr (boxL 0 0 0 (N.map .int)) = b at B0
  refine Ex.cut (ι := Unit) (fun _ => [("box", .ref 0), ("steps", .ref 1), ("seven", .bool false)]) (fun _ σ' => σ' = [b, .list []]) ?_ ?_
  · refine Ex.setSwap (names := [Str.ofString "steps", Str.ofString "seven"]) a' ?_ rfl ?hw
    case hw => simp only [swappedStores, Env.blockKind, Env.kindOf, hs]; rfl
    refine Ev.tup ?_
    walk_at "H"
    refine Ev.list T.G ?_
    walk_at "H"
    refine ⟨by simp, ?_⟩
    walk_at "H"
    refine ⟨by simp, _, rfl, rfl, ?_⟩
    refine Ass.cons (As.bind ?_)
    walk_at "H"
    refine Ass.cons (As.bind ?_)
    walk_at "H"
    refine Ass.nil ?_
    exact .inl ⟨by first | rfl | trivial, (), Sub.cons rfl (Sub.cons rfl (Sub.cons rfl (Sub.nil _))), rfl⟩
  rintro _ σ' rfl
  refine Ex.cut (ι := List Opn × O) (fun i => [("box", .ref 0), ("steps", .ref 1)]) (fun i σ' => σ' = [i.2, .list (i.1.map opV)] ∧ Seq false i.1 ∧ i.1.length ≤ 6 ∧ Bx N 500 i.2) ?_ ?_
  · refine Ex.for a' (J := fun i ρ' σ' => i ≤ 6 ∧ ∃ (s : Bool) (ops : List Opn) (b : O), Sub [("box", .ref 0), ("steps", .ref 1), ("seven", .bool s)] ρ' ∧ ops.length = i ∧ Pre s ops ∧ Bx N (10 + 30 * i) b ∧ σ' = [b, .list (ops.map opV)]) ?_
    walk_at "H"
    refine takeB T a' S B0 (by omega) 6 (by decide) (by decide) fun m b1 hm B1 => ?_
    walk_at "H"
    refine B.range ?_
    refine ⟨_, _, It.range0 (n := 1 + m) (by omega) (by omega), ⟨by omega, false, [], b1, Sub.cons rfl (Sub.cons rfl (Sub.cons rfl (Sub.nil _))), rfl, Pre.nil, B1.mono (by omega), rfl⟩, fun _ _ _ _ => trivial, ?_, ?_⟩
    · rintro i v ρ₂ σ₂ hv ⟨hi, s, ops, b, sub, hlen, hpre, B2, rfl⟩
      obtain ⟨hi2, rfl⟩ := rngL_get hv
      refine As.weaken sub ?_
      refine As.name ?_
      walk_at "P"
      refine Ex.cut (ι := Unit × O) (fun _ => [("box", .ref 0), ("steps", .ref 1), ("seven", .bool s)]) (fun i' σ' => σ' = [i'.2, .list (ops.map opV)] ∧ Bx N (11 + 30 * i) i'.2) ?_ ?_
      · walk_at "H"
        refine Et.val ?_
        walk_at "H"
        cases s with
        | true =>
          with_reducible refine ifb (fun q => absurd q (by decide)) (fun _ => ?_)
          with_reducible refine ifb (fun q => absurd q (by decide)) (fun _ => ?_)
          walk_at "H"
          exact .inl ⟨by first | rfl | trivial, ((), b), Sub.cons rfl (Sub.cons rfl (Sub.cons rfl (Sub.nil _))), rfl, B2.mono (by omega)⟩
        | false =>
          with_reducible refine ifb (fun _ => ?_) (fun q => absurd q (by decide))
          walk_at "H"
          refine takeB T a' S B2 (by omega) 6 (by decide) (by decide) fun m b1 hm B1 => ?_
          walk_at "H"
          with_reducible refine ifb (fun q => ?_) (fun q => ?_)
          · walk_at "H"
            refine Ev.meth ?_
            walk_at "H"
            refine ⟨_, Mt.append (l := ops.map opV) rfl, Kp.builtin _, ?_⟩
            walk_at "H"
            refine Ev.tup ?_
            walk_at "H"
            refine Ev.lst ?_
            walk_at "H"
            refine ⟨by simp, ?_⟩
            walk_at "H"
            refine Cl.arg (args' := [.lst ([151].map fun (x : Nat) => .int (x : Int))]) rfl ?_
            refine B.bytesN a' _ (by simp) (by simp) ?_
            walk_at "H"
            refine Ev.lst ?_
            walk_at "H"
            refine ⟨by simp, ?_⟩
            walk_at "H"
            refine ⟨by simp, ?_⟩
            walk_at "H"
            refine L.append (l := ops.map opV) rfl (by rw [List.length_map]; omega) ?_
            refine ⟨rfl, ?_⟩
            walk_at "H"
            refine .inr ⟨(by intro e; cases e), ?_⟩
            refine ⟨by omega, true, ops ++ [sevO], b1, Sub.cons rfl (Sub.cons rfl (Sub.cons rfl (Sub.nil _))), by simp; omega, hpre.sev, B1.mono (by omega), ?_⟩
            rw [List.map_append]; rfl
          · walk_at "H"
            exact .inl ⟨by first | rfl | trivial, ((), b1), Sub.cons rfl (Sub.cons rfl (Sub.cons rfl (Sub.nil _))), rfl, B1.mono (by omega)⟩
      rintro ⟨_, b'⟩ σ' ⟨rfl, B3⟩
      walk_at "H"
      refine Ev.meth ?_
      walk_at "H"
      refine ⟨_, Mt.append (l := ops.map opV) rfl, Kp.builtin _, ?_⟩
      walk_at "H"
      refine opB (n := n + 8) T a' S B3 (by omega) s fun o b4 ho B4 => ?_
      walk_at "H"
      refine L.append (l := ops.map opV) rfl (by rw [List.length_map]; omega) ?_
      refine ⟨rfl, ?_⟩
      walk_at "H"
      refine ⟨by omega, s, ops ++ [o], b4, Sub.cons rfl (Sub.cons rfl (Sub.cons rfl (Sub.nil _))), by simp; omega, hpre.op ho, B4.mono (by omega), ?_⟩
      rw [List.map_append]; rfl
    · rintro ρ₂ σ₂ ⟨hi, s, ops, b, sub, hlen, hpre, B2, rfl⟩
      rw [rngL_len] at hlen
      exact .inl ⟨by first | rfl | trivial, (ops, b), Sub.front sub, rfl, hpre.seq, by show ops.length ≤ 6; omega, B2.mono (by rw [rngL_len]; omega)⟩
  rintro ⟨ops, b⟩ σ' ⟨rfl, q, hl6, B2⟩
  dsimp only at q hl6 B2 ⊢
  refine Ex.cut (ι := Unit) (fun _ => [("box", .ref 0), ("steps", .ref 1), ("names", .lst ((rngL 0 13 ++ [V.int 14]).map (gN "r") ++ (rngL 0 32).map (gN "d")))]) (fun _ σ' => σ' = [b, .list (ops.map opV)]) ?_ ?_
  · walk_at "H"
    refine Ev.compMap a' [] (rngL 0 13 ++ [.int 14]) (gN "r") (.plain rfl (by decide) (by decide) rfl) (by simp [rngL_len]) ?_ ?_ ?_
    · walk_at "H"
      refine B.range ?_
      walk_at "H"
      refine B.rangeList (n := 13) a' (by omega) ?_
      refine Ev.lst ?_
      walk_at "H"
      refine ⟨by simp, ?_⟩
      refine X.listAdd (.arr _) (.lst _) (by simp [rngL_len]) ?_
      exact ⟨by first | rfl | trivial, _, It.list, Lq.lst _⟩
    · intro fm' v hs' hv
      obtain ⟨i, hi, rfl⟩ : ∃ i : Nat, i < 1000 ∧ v = .int (i : Int) := by
        rcases List.mem_append.mp hv with h | h
        · obtain ⟨i, hi, e⟩ := rngL_mem h
          exact ⟨i, by omega, e⟩
        · exact ⟨14, by omega, by simpa using h⟩
      walk_at "H"
      refine name_spec T a' (by decide +kernel) (by omega) (by omega) ?_
      exact ⟨rfl, by first | rfl | trivial⟩
    walk_at "H"
    refine Ev.compMap a' [] (rngL 0 32) (gN "d") (.plain rfl (by decide) (by decide) rfl) (by simp [rngL_len]) ?_ ?_ ?_
    · walk_at "H"
      refine B.range ?_
      exact ⟨by first | rfl | trivial, _, It.range0 (n := 32) rfl (by omega), trivial⟩
    · intro fm' v hs' hv
      obtain ⟨i, hi, rfl⟩ : ∃ i : Nat, i < 1000 ∧ v = .int (i : Int) := by
        obtain ⟨i, hi, e⟩ := rngL_mem hv
        exact ⟨i, by omega, e⟩
      walk_at "H"
      refine name_spec T a' (by decide +kernel) (by omega) (by omega) ?_
      exact ⟨rfl, by first | rfl | trivial⟩
    walk_at "H"
    refine X.listAdd (.lst _) (.lst _) (by simp [rngL_len]) ?_
    walk_at "H"
    exact .inl ⟨by first | rfl | trivial, (), Sub.cons rfl (Sub.cons rfl (Sub.cons rfl (Sub.nil _))), by first | rfl | trivial⟩
  rintro _ σ' rfl
  refine Ex.cut (ι := Unit) (fun _ => [("box", .ref 0), ("steps", .ref 1), ("names", .lst NL)]) (fun _ σ' => σ' = [b, .list (ops.map opV)]) ?_ ?_
  · walk_at "H"
    refine Ev.compMap a' [] (rngL 0 16) (gN "wR") (.plain rfl (by decide) (by decide) rfl) (by simp [rngL_len]) ?_ ?_ ?_
    · walk_at "H"
      refine B.range ?_
      exact ⟨by first | rfl | trivial, _, It.range0 (n := 16) rfl (by omega), trivial⟩
    · intro fm' v hs' hv
      obtain ⟨i, hi, rfl⟩ : ∃ i : Nat, i < 1000 ∧ v = .int (i : Int) := by
        obtain ⟨i, hi, e⟩ := rngL_mem hv
        exact ⟨i, by omega, e⟩
      walk_at "H"
      refine name_spec T a' (by decide +kernel) (by omega) (by omega) ?_
      exact ⟨rfl, by first | rfl | trivial⟩
    walk_at "H"
    refine X.listAdd (.lst _) (.lst _) (by simp [rngL_len]) ?_
    walk_at "H"
    refine Ev.compMap a' [] (rngL 0 4) (gN "wCGR") (.plain rfl (by decide) (by decide) rfl) (by simp [rngL_len]) ?_ ?_ ?_
    · walk_at "H"
      refine B.range ?_
      exact ⟨by first | rfl | trivial, _, It.range0 (n := 4) rfl (by omega), trivial⟩
    · intro fm' v hs' hv
      obtain ⟨i, hi, rfl⟩ : ∃ i : Nat, i < 1000 ∧ v = .int (i : Int) := by
        obtain ⟨i, hi, e⟩ := rngL_mem hv
        exact ⟨i, by omega, e⟩
      walk_at "H"
      refine name_spec T a' (by decide +kernel) (by omega) (by omega) ?_
      exact ⟨rfl, by first | rfl | trivial⟩
    walk_at "H"
    refine X.listAdd (.lst _) (.lst _) (by simp [rngL_len]) ?_
    rw [names_eq]
    walk_at "H"
    exact .inl ⟨by first | rfl | trivial, (), Sub.cons rfl (Sub.cons rfl (Sub.cons rfl (Sub.nil _))), by first | rfl | trivial⟩
  rintro _ σ' rfl
  refine Ex.cons ?_
  refine (Ex.set ?_ ?hs)
  case hs => rfl
  refine Ev.dictP (strD c) T.G ?h1 ?h2 ?h3 ?_
  case h1 => rfl
  case h2 => exact List.cons_ne_nil _ _
  case h3 => exact Nat.le_of_ble_eq_true rfl
  refine Eps.consP vspS ?_
  walk_at "H"
  refine ⟨rfl, ?_⟩
  walk_at "H"
  refine Eps.nilP ?_
  refine ⟨rfl, ?_⟩
  rw [show ([(vspS, V.int 1000000)].foldl (fun acc x => setE acc x.1 x.2) []) = [(vspS, V.int 1000000)] from rfl]
  walk_at "P"
  refine Ex.cut (ι := Unit) (fun _ => [("box", .ref 0), ("steps", .ref 1), ("names", .lst NL), ("first", .ref 2)]) (fun _ σ' => σ' = [b, .list (ops.map opV), .sdict (dictL ps0.v ps0.f)]) ?_ ?_
  · refine Ex.for a' (J := fun i ρ' σ' => Sub [("box", .ref 0), ("steps", .ref 1), ("names", .lst NL), ("first", .ref 2)] ρ' ∧ σ' = [b, .list (ops.map opV), .sdict (firstL i)]) ?_
    walk_at "H"
    refine L.len (.lst _) (by rw [NL_len]; decide) ?_
    walk_at "H"
    refine B.range ?_
    refine ⟨_, _, It.range0 (n := 66) (by rw [NL_len]) (by omega), ⟨Sub.cons rfl (Sub.cons rfl (Sub.cons rfl (Sub.cons rfl (Sub.nil _)))), rfl⟩, fun _ _ _ _ => trivial, ?_, ?_⟩
    · rintro i v ρ₂ σ₂ hv ⟨sub, rfl⟩
      obtain ⟨hi, rfl⟩ := rngL_get hv
      refine As.weaken sub ?_
      refine As.name ?_
      walk_at "P"
      walk_at "H"
      refine L.item (w := .str (nm i)) (.lst _) (by omega) (by omega) ?_ ?_ ?hs
      case hs => intros; with_unfolding_all rfl
      · rw [show (0 + (i : Int)).toNat = i by omega]
        simp [NL, hi]
      refine D.set (d := strD c) (key := nm i) (es := firstL i) rfl (by rw [firstL_len]; omega) ?_
      walk_at "H"
      refine ⟨Sub.cons rfl (Sub.cons rfl (Sub.cons rfl (Sub.cons rfl (Sub.nil _)))), ?_⟩
      show [b, O.list (ops.map opV), O.sdict (setE (firstL i) (nm i) (.int (5000 + (0 + (i : Int)))))] = _
      rw [firstL_set hi]
    · rintro ρ₂ σ₂ ⟨sub, rfl⟩
      refine .inl ⟨by first | rfl | trivial, (), sub, ?_⟩
      rw [rngL_len, firstL_all]
  rintro _ σ' rfl
  refine Ex.cut (ι := Unit) (fun _ => [("box", .ref 0), ("steps", .ref 1), ("first", .ref 2), ("now", .ref 3), ("memory", .ref 4), ("popped", .ref 5), ("fresh", .int (pro []).fresh)]) (fun _ σ' => σ' = ES (pro []) b ops) ?_ ?_
  · refine Ex.setTup ?_ rfl ?hw
    case hw => simp only [swappedStores, Env.blockKind, Env.kindOf, hs]; rfl
    refine Ev.tup ?_
    walk_at "H"
    refine D.copy (d := strD c) (es := dictL ps0.v ps0.f) T.G rfl (by rw [dict_len]; decide) ?_
    walk_at "H"
    refine Ev.dict0 (d := intD c) T.G ?_
    walk_at "H"
    refine Ev.dict0 (d := strD c) T.G ?_
    walk_at "H"
    refine ⟨by simp, As.tup a' ?_ rfl⟩
    refine Ass.cons (As.name ?_)
    walk_at "P"
    refine Ass.cons (As.name ?_)
    walk_at "P"
    refine Ass.cons (As.name ?_)
    walk_at "P"
    refine Ass.cons (As.name ?_)
    walk_at "P"
    refine Ass.nil ?_
    exact .inl ⟨by first | rfl | trivial, (), Sub.cons rfl (Sub.cons rfl (Sub.cons rfl (Sub.cons rfl (Sub.cons rfl (Sub.cons rfl (Sub.cons rfl (Sub.nil _))))))), rfl⟩
  rintro _ σ' rfl
  have qm := seq_mem q
  refine Ex.cut (ι := List Mi × O) (fun i => [("box", .ref 0), ("steps", .ref 1), ("first", .ref 2), ("now", .ref 3), ("memory", .ref 4), ("popped", .ref 5), ("fresh", .int (pro i.1).fresh)]) (fun i σ' => σ' = ES (pro i.1) i.2 ops ∧ Mics ops i.1 ∧ Bx N 700 i.2) ?_ ?_
  · refine Ex.for a' (J := fun i ρ' σ' => ∃ (S : List Mi) (b : O), Sub [("box", .ref 0), ("steps", .ref 1), ("first", .ref 2), ("now", .ref 3), ("memory", .ref 4), ("popped", .ref 5), ("fresh", .int (pro S).fresh)] ρ' ∧ Mics (ops.drop (ops.length - i)) S ∧ Bx N (500 + i) b ∧ σ' = ES (pro S) b ops) ?_
    walk_at "H"
    refine X.listSlice (.list 1 (ops.map opV) rfl) (by simp; omega) (by decide) ?_
    rw [pickL_rev]
    refine ⟨_, _, It.list, ⟨[], b, Sub.cons rfl (Sub.cons rfl (Sub.cons rfl (Sub.cons rfl (Sub.cons rfl (Sub.cons rfl (Sub.cons rfl (Sub.nil _))))))), by rw [Nat.sub_zero, List.drop_length]; exact .nil, B2, rfl⟩, fun _ _ _ _ => Lq.lst _, ?_, ?_⟩
    · rintro i v ρ₂ σ₂ hv ⟨S0, b, sub, hm, B3, rfl⟩
      have hi : i < ops.length := by
        have := (List.getElem?_eq_some_iff.mp hv).1
        simpa using this
      rw [List.getElem?_reverse (by simpa using hi), List.length_map, List.getElem?_map] at hv
      have hd : ops.drop (ops.length - (i + 1)) = ops[ops.length - 1 - i] :: ops.drop (ops.length - i) := by
        rw [show ops.length - (i + 1) = ops.length - 1 - i by omega, List.drop_eq_getElem_cons (by omega)]
        congr 2; omega
      rw [List.getElem?_eq_getElem (by omega)] at hv
      cases hv
      have ho := qm ops[ops.length - 1 - i] (List.getElem_mem _)
      generalize ops[ops.length - 1 - i] = o at hd ho ⊢
      have hro := op_row ho
      have hmo := mics_ok hm fun o ho => qm o (List.mem_of_mem_drop ho)
      have hlS : S0.length ≤ 33 * 6 := by
        have h1 := hmo.1
        rw [List.length_drop] at h1; omega
      refine As.weaken sub ?_
      refine As.tup a' ?_ rfl
      refine Ass.cons (As.name ?_)
      walk_at "P"
      refine Ass.cons (As.name ?_)
      walk_at "P"
      refine Ass.cons (As.name ?_)
      walk_at "P"
      refine Ass.nil ?_
      refine Ex.cut (ι := Unit) (fun _ => [("box", .ref 0), ("steps", .ref 1), ("first", .ref 2), ("now", .ref 3), ("memory", .ref 4), ("popped", .ref 5), ("fresh", .int (pro (o.row.map .push ++ S0)).fresh), ("far", farV o.far)]) (fun _ σ' => σ' = ES (pro (o.row.map .push ++ S0)) b ops) ?_ ?_
      · refine Ex.for a' (J := fun i ρ' σ' => Sub [("box", .ref 0), ("steps", .ref 1), ("first", .ref 2), ("now", .ref 3), ("memory", .ref 4), ("popped", .ref 5), ("fresh", .int (pro ((o.row.drop (o.row.length - i)).map .push ++ S0)).fresh), ("far", farV o.far)] ρ' ∧ σ' = ES (pro ((o.row.drop (o.row.length - i)).map .push ++ S0)) b ops) ?_
        walk_at "H"
        refine X.listSlice (.lst _) (by simp; omega) (by decide) ?_
        rw [pickL_rev]
        have e0 : (o.row.drop (o.row.length - 0)).map Mi.push ++ S0 = S0 := by simp
        refine ⟨_, _, It.list, ⟨by rw [e0]; exact (Sub.cons rfl (Sub.cons rfl (Sub.cons rfl (Sub.cons rfl (Sub.cons rfl (Sub.cons rfl (Sub.cons rfl (Sub.cons rfl (Sub.nil _))))))))), by rw [e0]⟩, fun _ _ _ _ => Lq.lst _, ?_, ?_⟩
        · rintro i2 v ρ3 σ3 hv ⟨sub3, rfl⟩
          have hi2 : i2 < o.row.length := by
            have := (List.getElem?_eq_some_iff.mp hv).1
            simpa using this
          rw [List.getElem?_reverse (by simpa using hi2), List.length_map, List.getElem?_map, List.getElem?_eq_getElem (by omega)] at hv
          cases hv
          have hd2 : o.row.drop (o.row.length - (i2 + 1)) = o.row[o.row.length - 1 - i2] :: o.row.drop (o.row.length - i2) := by
            rw [show o.row.length - (i2 + 1) = o.row.length - 1 - i2 by omega, List.drop_eq_getElem_cons (by omega)]
            congr 2; omega
          have hj := hro.2 o.row[o.row.length - 1 - i2] (List.getElem_mem _)
          generalize o.row[o.row.length - 1 - i2] = j at hd2 hj ⊢
          rw [hd2]
          have hS1 : ∀ x ∈ (o.row.drop (o.row.length - i2)).map Mi.push ++ S0, Mic66 x := by
            intro x hx
            rcases List.mem_append.mp hx with hx | hx
            · obtain ⟨y, hy, rfl⟩ := List.mem_map.mp hx
              exact hro.2 y (List.mem_of_mem_drop hy)
            · exact hmo.2 x hx
          have hl1 : ((o.row.drop (o.row.length - i2)).map Mi.push ++ S0).length ≤ 300 := by
            rw [List.length_append, List.length_map, List.length_drop]; omega
          have hpl := pro_len ((o.row.drop (o.row.length - i2)).map Mi.push ++ S0)
          have hpp := pro_pop _ hS1
          rw [List.map_cons, List.cons_append]
          generalize (o.row.drop (o.row.length - i2)).map Mi.push ++ S0 = S1 at hS1 hl1 hpl hpp sub3 ⊢
          have ep : pro (Mi.push j :: S1) = ⟨(pro S1).v - wd j, upd (pro S1).f j ((pro S1).fresh + 1), setE (pro S1).mem ((pro S1).v - wd j) (.int ((pro S1).f j)), (pro S1).fresh + 1, addP (pro S1).pop j⟩ := rfl
          rw [ep]
          generalize pro S1 = s1 at hpl hpp sub3 ⊢
          refine As.weaken sub3 ?_
          refine As.tup a' ?_ rfl
          refine Ass.cons (As.name ?_)
          walk_at "P"
          refine Ass.cons (As.name ?_)
          walk_at "P"
          refine Ass.nil ?_
          walk_at "H"
          have hkl : (Str.ofString (kd j)).length ≤ 10 := by
            have : ∀ j < 66, (Str.ofString (kd j)).length ≤ 10 := by decide +kernel
            exact this j hj
          have hnu : nu j < 1000 := by
            have : ∀ j < 66, nu j < 1000 := by decide
            exact this j hj
          refine name_spec T a' hkl (by omega) (by omega) ?_
          show As c fm A' _ (.str (nm j)) _ _ _
          walk_at "P"
          unfold ES
          walk_at "H"
          refine now3_vsp ?_ ?hs
          case hs => intros; with_unfolding_all rfl
          walk_at "H"
          refine Ev.tup ?_
          walk_at "H"
          refine ⟨by simp, ?_⟩
          refine X.inStrs (ns := [Str.ofString "d", Str.ofString "wR"]) ?_
          rw [kd_wide j hj]
          walk_at "H"
          refine wd_ite ?_
          walk_at "H"
          refine now3_setv ?_
          walk_at "H"
          refine now3_reg hj ?_ ?hs
          case hs => intros; with_unfolding_all rfl
          walk_at "H"
          refine now3_vsp ?_ ?hs
          case hs => intros; with_unfolding_all rfl
          refine mem4_set (by omega) ?_
          walk_at "H"
          refine Ex.setTup ?_ rfl ?hw
          case hw => simp only [swappedStores, Env.blockKind, Env.kindOf, hs]; rfl
          refine Ev.tup ?_
          walk_at "H"
          refine ⟨by simp, As.tup a' ?_ rfl⟩
          refine Ass.cons (As.name ?_)
          walk_at "P"
          refine Ass.cons (As.sub ?_)
          walk_at "H"
          refine pop5_set hpp (by omega) hj ?_
          refine Ass.nil ?_
          walk_at "H"
          refine now3_setr hj ?_
          walk_at "H"
          exact ⟨Sub.cons rfl (Sub.cons rfl (Sub.cons rfl (Sub.cons rfl (Sub.cons rfl (Sub.cons rfl (Sub.cons rfl (Sub.cons rfl (Sub.nil _)))))))), rfl⟩
        · rintro ρ3 σ3 ⟨sub3, rfl⟩
          rw [List.length_reverse, List.length_map, Nat.sub_self, List.drop_zero] at sub3 ⊢
          exact .inl ⟨by first | rfl | trivial, (), sub3, rfl⟩
      rintro _ σ' rfl
      unfold ES
      cases hfar : o.far with
      | none =>
        rw [show farV none = V.none from rfl]
        walk_at "H"
        refine X.isNone (.inr rfl) ?_
        walk_at "H"
        refine ifT rfl ?_
        walk_at "H"
        refine now3_vsp ?_ ?hs
        case hs => intros; with_unfolding_all rfl
        walk_at "H"
        rw [← nm7]
        refine now3_setr (by omega) ?_
        walk_at "H"
        refine now3_vsp ?_ ?hs
        case hs => intros; with_unfolding_all rfl
        walk_at "H"
        refine takeB T a' S B3 (by omega) 30 (by decide) (by decide) fun m b4 hm4 B4 => ?_
        refine I.mul (.of_left (by decide)) ?_
        walk_at "H"
        refine now3_setv ?_
        walk_at "H"
        refine ⟨mic o (4 * m) ++ S0, b4, ?_, by rw [hd]; exact .cons o (4 * m) hm, B4.mono (by omega), ?_⟩
        · unfold mic
          rw [hfar]
          exact Sub.cons rfl (Sub.cons rfl (Sub.cons rfl (Sub.cons rfl (Sub.cons rfl (Sub.cons rfl (Sub.cons rfl (Sub.nil _)))))))
        · unfold mic
          rw [hfar]
          show _ = [b4, _, _, O.sdict (dictL ((pro (o.row.map Mi.push ++ S0)).v - ((4 * m : Nat) : Int)) (upd (pro (o.row.map Mi.push ++ S0)).f 7 (pro (o.row.map Mi.push ++ S0)).v)), _, _]
          rw [show ((4 * m : Nat) : Int) = 4 * (m : Int) by omega]
          rfl
      | some d =>
        rw [show farV (some d) = V.int d from rfl]
        walk_at "H"
        refine X.isNone (.inl ⟨_, rfl⟩) ?_
        walk_at "H"
        refine ifF rfl ?_
        walk_at "H"
        refine now3_vsp ?_ ?hs
        case hs => intros; with_unfolding_all rfl
        walk_at "H"
        refine now3_setv ?_
        walk_at "H"
        refine ⟨mic o 0 ++ S0, b, ?_, by rw [hd]; exact .cons o 0 hm, B3.mono (by omega), ?_⟩
        · unfold mic
          rw [hfar]
          exact Sub.cons rfl (Sub.cons rfl (Sub.cons rfl (Sub.cons rfl (Sub.cons rfl (Sub.cons rfl (Sub.cons rfl (Sub.nil _)))))))
        · unfold mic
          rw [hfar]
          rfl
    · rintro ρ₂ σ₂ ⟨S0, b, sub, hm, B3, rfl⟩
      rw [List.length_reverse, List.length_map] at hm B3
      rw [Nat.sub_self, List.drop_zero] at hm
      exact .inl ⟨by first | rfl | trivial, (S0, b), sub, rfl, hm, B3.mono (by omega)⟩
  rintro ⟨S0, b⟩ σ' ⟨rfl, hm, B3⟩
  dsimp only at hm B3 ⊢
  have sz : ∀ e, e ≤ 4 → _ := fun e he => sizes (e := e) qm hl6 he
  refine Ex.cut (ι := Nat × O) (fun i => [("first", .ref 2), ("now", .ref 3), ("memory", .ref 4), ("popped", .ref 5), ("text", .bytes (textB ops i.1))]) (fun i σ' => σ' = ES (pro S0) i.2 ops ∧ i.1 < 4) ?_ ?_
  · walk_at "H"
    refine Ev.meth ?_
    refine Ev.bytes ?_
    refine ⟨_, Mt.bjoin, Kp.builtin _, ?_⟩
    walk_at "H"
    refine Ev.compMap a' [] (ops.map opV) headV (.plain rfl (by decide) (by decide) rfl) (by simp; omega) ?_ ?_ ?_
    · walk_at "H"
      exact ⟨by first | rfl | trivial, _, It.list, Lq.list 1 _ rfl⟩
    · intro fm' v hs' hv
      obtain ⟨o, ho, rfl⟩ := List.mem_map.mp hv
      walk_at "H"
      refine L.item (w := .bytes (opBytes o)) (.tup _) (by decide) (by decide) rfl ?_ ?hs
      case hs => intros; with_unfolding_all rfl
      exact ⟨rfl, by first | rfl | trivial⟩
    rw [heads]
    walk_at "H"
    refine B.bjoin (xs := ops.map opBytes) (.lst _) (Nat.le_trans (sz 0 (by omega)).1 (by decide)) ?_
    walk_at "H"
    refine Ev.lst ?_
    walk_at "H"
    refine ⟨by simp, ?_⟩
    walk_at "H"
    refine Cl.arg (args' := [.lst ([176].map fun (x : Nat) => .int (x : Int))]) rfl ?_
    refine B.bytesN a' _ (by simp) (by simp) ?_
    unfold ES
    walk_at "H"
    refine takeB T a' S B3 (by omega) 4 (by decide) (by decide) fun e b4 he4 B4 => ?_
    refine X.bytesMul (b := [176]) (by simp) (by omega) (by omega) (by simp) ?_
    have hsz := (sz e (by omega)).2.1
    unfold textB at hsz
    rw [Array.size_append] at hsz
    refine X.bytesAdd (Nat.le_trans hsz (by decide)) ?_
    walk_at "H"
    exact .inl ⟨by first | rfl | trivial, (e, b4), Sub.cons rfl (Sub.cons rfl (Sub.cons rfl (Sub.cons rfl (Sub.cons rfl (Sub.nil _))))), rfl, he4⟩
  rintro ⟨e, b'⟩ σ' ⟨rfl, he⟩
  dsimp only at he ⊢
  obtain ⟨_, sz2, sz3, sz4⟩ := sz e (by omega)
  have gd := good_its (e := e) T qm
  generalize hits : itsT ops e = its at sz3 sz4 gd
  have htx : bL (textB ops e) = (flatI its).map V.int := by rw [text_eq qm, hits]
  refine Ex.cons ?_
  refine (Ex.set ?_ ?hs)
  case hs => rfl
  walk_at "H"
  refine B.listBytes a' (Nat.le_trans sz2 (by decide)) ?_
  rw [htx]
  walk_at "H"
  refine dec_make (n := n + 3) T a' its gd (Nat.le_trans sz3 (by decide)) (Nat.le_trans sz4 (by decide)) ?_
  rw [decS_again]
  walk_at "P"
  refine Ex.cons ?_
  refine (Ex.expr ?_ ?hs)
  case hs => rfl
  refine Ev.meth ?_
  walk_at "H"
  have h6 : 6 < (ES (pro S0) b' ops ++ (O.inst 254 [] :: (.list (refsV 7 its.length) :: its.map itemO))).length := by simp [ES]
  refine ⟨.ref 49, Mt.inst T.G (set_at h6) rfl (by rw [T.K]; k_is) (by rw [T.K]; k_is) (by rw [T.K]; k_is), Kp.K T (by k_is), ?_⟩
  walk_at "H"
  refine decode_spec (n := n + 5) T a' h6 its gd (Nat.le_trans sz3 (by decide)) (Nat.le_trans sz4 (by decide)) ?_
  refine ⟨rfl, ?_⟩
  have st := decS_st (s := pro S0) (b := b') (ops := ops) (its := its) (x := O.inst 254 []) (i := (flatI its).length) (bs := flatI its)
  have h62 : 6 < ((ES (pro S0) b' ops ++ (O.inst 254 [] :: (.list (refsV 7 its.length) :: its.map itemO))) ++ (O.list (refsV (ES (pro S0) b' ops ++ (O.inst 254 [] :: (.list (refsV 7 its.length) :: its.map itemO))).length its.length) :: its.map itemO)).length := by simp [ES]
  refine Ex.cut (ι := Unit) (fun _ => [("first", .ref 2), ("now", .ref 3), ("memory", .ref 4), ("popped", .ref 5), ("text", .bytes (textB ops e)), ("told", .ref (8 + its.length))]) (fun _ σ' => St σ' (8 + its.length) (pro S0) its) ?_ ?_
  · unfold decS at st ⊢
    refine Ex.set ?_ rfl
    refine Ev.attr ?_ ?hattr
    case hattr => with_unfolding_all rfl
    walk_at "H"
    refine dec_marr T h62 trivial ?_
    walk_at "H"
    have len : (ES (pro S0) b' ops ++ (O.inst 254 [] :: (.list (refsV 7 its.length) :: its.map itemO))).length = 8 + its.length := by simp [ES]; omega
    refine .inl ⟨by first | rfl | trivial, (), Sub.cons rfl (Sub.cons rfl (Sub.cons rfl (Sub.cons rfl (Sub.cons rfl (Sub.cons (congrArg (fun z => some (V.ref z)) len) (Sub.nil _)))))), ?_⟩
    exact st
  clear st h62 h6 gd
  rintro _ σ' st
  have hws := words_ok (e := e) qm
  have hwl := words_len ops e
  have hund := law_und q hm e
  have hpop := pro_pop S0 (mics_ok hm qm).2
  refine Ex.cons ?_
  refine (Ex.set ?_ ?hs)
  case hs => rfl
  refine Ev.list T.G ?_
  walk_at "H"
  refine ⟨by simp, ?_⟩
  walk_at "P"
  refine Ex.cut (ι := Unit) (fun _ => [("first", .ref 2), ("now", .ref 3), ("memory", .ref 4), ("popped", .ref 5), ("text", .bytes (textB ops e)), ("told", .ref (8 + its.length)), ("octets", .ref σ'.length)]) (fun _ σ2 => σ2 = σ' ++ [.list ((flatI its).map .int)]) ?_ ?_
  · refine Ex.for a' (J := fun i ρ' σ2 => Sub [("first", .ref 2), ("now", .ref 3), ("memory", .ref 4), ("popped", .ref 5), ("text", .bytes (textB ops e)), ("told", .ref (8 + its.length)), ("octets", .ref σ'.length)] ρ' ∧ σ2 = σ' ++ [.list ((flatI (its.take i)).map .int)]) ?_
    walk_at "H"
    refine ⟨_, _, It.list, ⟨Sub.cons rfl (Sub.cons rfl (Sub.cons rfl (Sub.cons rfl (Sub.cons rfl (Sub.cons rfl (Sub.cons rfl (Sub.nil _))))))), rfl⟩, fun i ρ' σ'' h => h.2 ▸ Lq.list _ _ (at_app st.fl), ?_, ?_⟩
    · rintro i v ρ₂ σ₂ hv ⟨sub, rfl⟩
      obtain ⟨hi, rfl⟩ := refs_get hv
      have hp : its[i]? = some its[i] := List.getElem?_eq_getElem hi
      generalize its[i] = p at hp
      have hle1 := flat_le its (i + 1)
      have hft := flat_take hp
      refine As.weaken sub ?_
      refine As.name ?_
      walk_at "P"
      refine Ex.cons ?_
      refine (Ex.expr ?_ ?hs)
      case hs => rfl
      refine Ev.meth ?_
      walk_at "H"
      refine ⟨_, Mt.extend (at_last _), Kp.builtin _, ?_⟩
      walk_at "H"
      refine item_bytes T (at_app (st.fi i p hp)) ?_
      walk_at "H"
      refine L.extend (at_last _) (.lst _) ?_ (by intro h; cases h) ?_
      · rw [hft, List.length_append, List.length_map] at hle1
        rw [List.length_map, List.length_map]
        omega
      refine ⟨rfl, ?_⟩
      walk_at "H"
      refine ⟨Sub.cons rfl (Sub.cons rfl (Sub.cons rfl (Sub.cons rfl (Sub.cons rfl (Sub.cons rfl (Sub.cons rfl (Sub.nil _))))))), ?_⟩
      rw [set_last, hft, List.map_append, List.map_map (g := V.int)]
      rfl
    · rintro ρ₂ σ₂ ⟨sub, rfl⟩
      refine .inl ⟨by first | rfl | trivial, (), sub, ?_⟩
      rw [refs_len, List.take_length]
  rintro _ σ2 rfl
  refine Ex.cons ?_
  refine Ex.if ?_
  walk_at "H"
  refine B.listBytes a' (Nat.le_trans sz2 (by decide)) ?_
  rw [htx]
  refine X.intsNe a' (.list _ _ (at_last _)) (.arr _) ?_
  walk_at "H"
  refine ifF rfl ?_
  have st2 := st.app [.list ((flatI its).map .int)]
  clear st
  generalize σ' ++ [O.list ((flatI its).map .int)] = σ3 at st2 ⊢
  refine Ex.nil ?_
  refine Ex.cut (ι := Unit) (fun _ => [("first", .ref 2), ("now", .ref 3), ("popped", .ref 5), ("found", .ref σ3.length)]) (fun _ σ2 => σ2 = σ3 ++ [.sdict (dictL 1000000 (dueF (pro S0).pop (pro S0).f))]) ?_ ?_
  · refine Ex.set ?_ rfl
    walk_at "H"
    refine Ev.compMap a' [] (refsV (8 + its.length) its.length) (textV its (8 + its.length)) (.plain rfl (by decide) (by decide) rfl) (by rw [refs_len]; omega) ?_ ?_ ?_
    · walk_at "H"
      exact ⟨by first | rfl | trivial, _, It.list, Lq.list _ _ st2.fl⟩
    · intro fm' v hs' hv
      obtain ⟨i, hi, rfl⟩ := refs_mem hv
      have hp : its[i]? = some its[i] := List.getElem?_eq_getElem hi
      walk_at "H"
      refine item_mnem T (st2.fi i _ hp) ?_
      refine ⟨?_, by first | rfl | trivial⟩
      show _ = (match its[8 + its.length + 1 + i - (8 + its.length + 1)]? with | some p => V.str p.2 | none => V.none)
      rw [show 8 + its.length + 1 + i - (8 + its.length + 1) = i by omega, hp]
    rw [refs_text, ← hits, its_words]
    walk_at "H"
    refine undone_spec (n := n + 8) T a' st2.f4 (s0 := ((pro S0).v, (pro S0).f)) st2.f3 hws (by rw [hwl, hits]; omega) hund ?_
    walk_at "H"
    exact .inl ⟨by first | rfl | trivial, (), Sub.cons rfl (Sub.cons rfl (Sub.cons rfl (Sub.cons rfl (Sub.nil _)))), rfl⟩
  rintro _ σ4 rfl
  have f2 : (σ3 ++ [O.sdict (dictL 1000000 (dueF (pro S0).pop (pro S0).f))])[2]? = _ := at_app st2.f2
  have f3 : (σ3 ++ [O.sdict (dictL 1000000 (dueF (pro S0).pop (pro S0).f))])[3]? = _ := at_app st2.f3
  have f5 : (σ3 ++ [O.sdict (dictL 1000000 (dueF (pro S0).pop (pro S0).f))])[5]? = _ := at_app st2.f5
  have ff : (σ3 ++ [O.sdict (dictL 1000000 (dueF (pro S0).pop (pro S0).f))])[σ3.length]? = _ := at_last _
  have hL : 5 < σ3.length := (List.getElem?_eq_some_iff.mp st2.f5).1
  generalize σ3 ++ [O.sdict (dictL 1000000 (dueF (pro S0).pop (pro S0).f))] = σ4 at f2 f3 f5 ff ⊢
  clear st2
  generalize σ3.length = L at hL ff ⊢
  have hL4 : L < σ4.length := (List.getElem?_eq_some_iff.mp ff).1
  refine Ex.cons ?_
  refine (Ex.set ?_ ?hs)
  case hs => rfl
  walk_at "H"
  refine D.copy (d := strD c) (es := dictL (pro S0).v (pro S0).f) T.G f3 (by rw [dict_len]; decide) ?_
  walk_at "P"
  refine Ex.cons ?_
  refine (Ex.setSub ?_ ?hs)
  case hs => rfl
  walk_at "H"
  refine now_setv ?_
  show Ex c fm A' (execs _ fm.env) _ _ _
  refine Ex.see (k := 5) (es := popL (pro S0).pop) (at_app f5) fun ep => ?_
  rw [List.set_append_left _ _ (by omega)]
  have g2 : (σ4.set 5 (.kdict (popL (pro S0).pop) ep))[2]? = _ := (List.getElem?_set_ne (by omega)).trans f2
  have gf : (σ4.set 5 (.kdict (popL (pro S0).pop) ep))[L]? = _ := (List.getElem?_set_ne (by omega)).trans ff
  have g5 : (σ4.set 5 (.kdict (popL (pro S0).pop) ep))[5]? = _ := set_at (by omega)
  have gl : (σ4.set 5 (.kdict (popL (pro S0).pop) ep)).length = σ4.length := List.length_set
  rw [← gl]
  generalize σ4.set 5 (O.kdict (popL (pro S0).pop) ep) = σ5 at g2 gf g5 gl ⊢
  refine Ex.cut (ι := Unit) (fun _ => [("found", .ref L), ("due", .ref σ5.length)]) (fun _ σ' => σ' = σ5 ++ [.sdict (dictL 1000000 (dueF (pro S0).pop (pro S0).f))]) ?_ ?_
  · refine Ex.for a' (J := fun i ρ' σ' => Sub [("first", .ref 2), ("found", .ref L), ("due", .ref σ5.length)] ρ' ∧ σ' = σ5 ++ [.sdict (dictL 1000000 (dueF ((pro S0).pop.take i) (pro S0).f))]) ?_
    walk_at "H"
    refine ⟨_, _, It.keys (k := 5) (es := popL (pro S0).pop) (ep := ep), ⟨Sub.cons rfl (Sub.cons rfl (Sub.cons rfl (Sub.nil _))), ?_⟩, fun i ρ' σ'' h => h.2 ▸ at_app g5, ?_, ?_⟩
    · have : dueF (List.take 0 (pro S0).pop) (pro S0).f = (pro S0).f := by funext x; simp [dueF]
      rw [this]
    · rintro i v ρ₂ σ₂ hv ⟨sub, rfl⟩
      unfold popL at hv
      rw [List.map_map, List.getElem?_map] at hv
      cases hj : (pro S0).pop[i]? with
      | none => rw [hj] at hv; cases hv
      | some j =>
      rw [hj] at hv
      cases hv
      have hj66 := hpop j (List.mem_of_getElem? hj)
      refine As.weaken sub ?_
      refine As.name ?_
      walk_at "P"
      refine Ex.cons ?_
      refine (Ex.setSub ?_ ?hs)
      case hs => rfl
      walk_at "H"
      refine D.get (d := strD c) (key := nm j) (at_app g2) (dict_get _ _ hj66) ?_ ?hs
      case hs => intros; with_unfolding_all rfl
      walk_at "H"
      refine now_setr hj66 ?_
      walk_at "H"
      refine ⟨Sub.cons rfl (Sub.cons rfl (Sub.cons rfl (Sub.nil _))), ?_⟩
      rw [show ps0.f j = 5000 + (j : Int) from rfl, dueF_step _ _ hj]
    · rintro ρ₂ σ₂ ⟨sub, rfl⟩
      refine .inl ⟨by first | rfl | trivial, (), fun x v h => sub x v ?_, ?_⟩
      · by_cases q : x = "first"
        · subst q
          exact absurd h (by simp [List.lookup])
        · have : (x == "first") = false := by simpa using q
          simp only [List.lookup, this]
          simpa only [List.lookup] using h
      · unfold popL
        rw [List.length_map, List.length_map, List.take_length]
  rintro _ σ' rfl
  walk_at "H"
  refine D.eq a' (at_app gf) (at_last _) rfl (dict_eq_all _ _) ?_
  exact rfl
theorem law_good {prog : Program} {w : World} {s₁ : Shared} {mg mb : Str → Option Value} (g : s₁.heap.Ns mainGlobals mg) (b : s₁.heap.Ns builtinsNs mb) (nl : s₁.heap.NoLimit) (bu : ∀ x : Str, x ≠ "__name__" → mb x = bootBuiltins x) (X : (hd.heap_39 w.params).In s₁.heap) (hg : s₁.gens = #[])
    {fa l : Nat} (hfa : mg (Str.ofString "law") = some (.ref fa)) {items : List Value} {ns : List Int} (hL : s₁.heap.IsList l items.toArray) (hI : IntsAre items ns) (hn : ns.length ≤ 63) {Q : Value → Shared → Prop} {E : Value → Shared → Prop}
    (q : ∀ s', (∀ a o, s₁.heap.get? a = some o → s'.heap.get? a = some o) → s'.os = s₁.os → s'.gens = #[] → Q (.bool true) s') : wpAny (model prog w) callerA (call (.ref fa) [.ref l]) Q E s₁ := by
  let c : Cx := ⟨prog, w, s₁.heap, hd.heap_39 w.params, s₁.os⟩
  have T : Tp c mg mb := ⟨⟨g, b, nl, bu, X⟩, rfl⟩
  have e : fa = 320 := by
    have h := Tp.glob T (x := Str.ofString "law") (v := .ref 320) (by k_is)
    rw [hfa] at h
    cases h; rfl
  subst e
  have R : Rel c ⟨[], []⟩ [] s₁ := {
    base := fun a o h => h
    gens := hg
    os := rfl
    len := rfl
    objs := fun k o p h => by cases h
    there := fun a h => by rcases h with h | h <;> cases h
    fresh := fun a h => by rcases h with h | h <;> cases h
    apart := fun a h => by cases h
    dist := .nil
    mods := fun p h => by cases h }
  have key := law_spec (n := 300) T (A := callerA) ⟨rfl, by decide +kernel, by decide +kernel⟩ (ns := ns) (by omega)
  refine wp_NoE (key ⟨[], []⟩ s₁ [.ref l] Q R (.cons _ _ _ _ (.arr _ _ _ ⟨by simp, by intro h; cases h⟩ hL (of_ints hI)) .nil) ?_)
  rintro ws' s' v val σ' rfl _ R' rv
  cases rv
  exact q s' R'.base R'.os R'.gens
end Mine
theorem PySem.Challenge.cw_ez0262_01_holds : PySem.Challenge.rw_ez0262_01.Holds := by
  refine Mine.hd ?_
  intro w s₀ s₁ mg mb G Y fa o pm cd doc dV kV ho hd hcd hD hmg hg args vals as hpre hlay hrd hwl hlo
  have KX := kIn_of Y
  refine Ground.open G ?_
  intro T B D TE TW
  wrow_args hpre hlay hrd hwl hlo
  refine Mine.law_good T.g T.b T.nolimit T.builtins KX hg hmg (by assumption) (by assumption) (by omega) ?_
  intro s' hb ho2 hge
  refine ⟨.inl ⟨_, .bool true, [], rfl, ?_, .bool true, ?_, fun _ => ⟨List.nodup_nil, fun a h => by cases h⟩⟩, .of_keep hb, ho2, .of_eq hge⟩
  · exact raisesW_false (by wrow_none_raised)
  · wrow_post
